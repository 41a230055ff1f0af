/- Words for the memory of the quoted-printable writer: its own block, the sink's block, the row of bytes that the sink has got; what a call may write. -/
import Derived.Test.YtgdfbnedmifjlaaChecked
import Derived.Test.YtgdfbnedmifjlaaPlain
import Derived.WalkKit
import Derived.Below
import Derived.Laws.OwnMore
import Derived.Laws.Rows
import Derived.Deep.Draws
import Derived.Lib.Hide
namespace Go.Proofs.Ytgdfbnedmifjlaa
open Go.RowKit

/-- A byte as a value. -/
def bv (b : UInt8) : Value := .int .u8 (b.toNat : Int)
theorem bv_one (b : UInt8) : (bv b).oneCell' = true := rfl
theorem bvs_one (l : List UInt8) : ∀ u ∈ l.map bv, u.oneCell' = true := by
  intro u hu
  obtain ⟨b, _, rfl⟩ := List.mem_map.1 hu
  rfl

/-- Block g is just these cells. -/
def Blk (w : World) (g : Nat) (t : TypeId) (cs : Array Value) : Prop := w.heap[g]? = some (.cells cs t (0, 0))
section
variable {w w' : World} {g : Nat} {t : TypeId} {cs : Array Value}
theorem Blk.lt (h : Blk w g t cs) : g < w.heap.size := by
  rcases Nat.lt_or_ge g w.heap.size with hlt | hge
  · exact hlt
  · unfold Blk at h; rw [Array.getElem?_eq_none hge] at h; cases h
theorem Blk.cell (h : Blk w g t cs) (i : Nat) : w.cell? ⟨g, i, none⟩ = cs[i]? := by
  unfold Blk at h
  simp [World.cell?, h]
theorem Blk.frozen (h : Blk w g t cs) (i : Nat) : w.frozen? ⟨g, i, none⟩ = false := by
  unfold Blk at h
  simp [World.frozen?, h]
theorem Blk.drew (h : Blk w g t cs) : Blk w.drew g t cs := h
theorem Blk.drewN (h : Blk w g t cs) (n : Nat) : Blk (w.drewN n) g t cs := h
theorem Blk.set_ (h : Blk w g t cs) (i : Nat) (u : Value) : Blk (w.setCell ⟨g, i, none⟩ u) g t (cs.setIfInBounds i u) := by
  unfold Blk at h ⊢
  simp [World.setCell, Array.getElem?_modify, h]
theorem Blk.far (h : Blk w g t cs) {p : Addr} (hp : g ≠ p.block) (u : Value) : Blk (w.setCell p u) g t cs := (Below.heap_setCell w p u g hp).trans h
theorem Blk.alloc (h : Blk w g t cs) (o : Obj) : Blk (w.alloc o) g t cs := (Below.heap_alloc w o g h.lt).trans h
theorem Blk.new (w : World) (t : TypeId) (cs : Array Value) : Blk (w.alloc (.cells cs t)) w.heap.size t cs := heap_alloc_new w _
theorem Blk.ne_ {g' : Nat} {t' : TypeId} {cs' : Array Value} (h : Blk w g t cs) (h' : Blk w g' t' cs') (hne : t ≠ t') : g ≠ g' := by
  rintro rfl
  unfold Blk at h h'
  rw [h] at h'
  injection h' with h'
  injection h' with _ ht
  exact hne ht
theorem own_ne {base : Nat} {e : TypeId} {size n : Nat} {v : Value} {xs : List Value} (h : w.ownsRow base e size v n xs) (hg : Blk w g t cs) (hne : e ≠ t) : v.ownBlock ≠ some g := by
  rcases h.2 with ⟨rfl, _⟩ | ⟨g', cap, cur, rfl, _, hh, _⟩
  · simp [Value.ownBlock]
  · intro he
    have e' : g' = g := by simpa [Value.ownBlock] using he
    subst e'
    exact Blk.ne_ (t := e) hh hg hne rfl
end

theorem own_shape {w : World} {base : Nat} {e : TypeId} {size n : Nat} {v : Value} {xs : List Value} (h : w.ownsRow base e size v n xs) : ∃ ao cap, v = .slice ao n cap := by
  rcases h.2 with ⟨rfl, rfl⟩ | ⟨g, cap, _, rfl, _⟩
  · exact ⟨none, 0, rfl⟩
  · exact ⟨_, _, rfl⟩

/-- Of the blocks that were there, only those of S may have turned. -/
structure Only (S : Nat → Prop) (w w' : World) : Prop where
  os : w'.os = w.os
  tape : w'.tape = w.tape
  output : w'.output = w.output
  size : w.heap.size ≤ w'.heap.size
  block : ∀ k, k < w.heap.size → ¬ S k → w'.heap[k]? = w.heap[k]?
section
variable {S T : Nat → Prop} {w w1 w2 : World}
theorem Only.refl (S : Nat → Prop) (w : World) : Only S w w := ⟨rfl, rfl, rfl, Nat.le_refl _, fun _ _ _ => rfl⟩
theorem Only.trans (h : Only S w w1) (k : Only T w1 w2) (hT : ∀ i, i < w.heap.size → T i → S i) : Only S w w2 :=
  ⟨k.os.trans h.os, k.tape.trans h.tape, k.output.trans h.output, Nat.le_trans h.size k.size,
    fun i hi hn => (k.block i (Nat.lt_of_lt_of_le hi h.size) (fun ht => hn (hT i hi ht))).trans (h.block i hi hn)⟩
theorem Only.mono (h : Only S w w1) (hT : ∀ i, i < w.heap.size → S i → T i) : Only T w w1 :=
  ⟨h.os, h.tape, h.output, h.size, fun i hi hn => h.block i hi (fun hs => hn (hT i hi hs))⟩
theorem Only.drew (h : Only S w w1) : Only S w w1.drew := ⟨h.os, h.tape, h.output, h.size, h.block⟩
theorem Only.drewN (h : Only S w w1) (n : Nat) : Only S w (w1.drewN n) := ⟨h.os, h.tape, h.output, h.size, h.block⟩
theorem Only.of_drew (h : Only S w.drew w1) : Only S w w1 := ⟨h.os, h.tape, h.output, h.size, h.block⟩
theorem Only.of_drewN {n : Nat} (h : Only S (w.drewN n) w1) : Only S w w1 := ⟨h.os, h.tape, h.output, h.size, h.block⟩
theorem Only.alloc (h : Only S w w1) (o : Obj) : Only S w (w1.alloc o) :=
  ⟨h.os, h.tape, h.output, Nat.le_trans h.size (by simp), fun k hk hn => (Below.heap_alloc _ _ _ (Nat.lt_of_lt_of_le hk h.size)).trans (h.block k hk hn)⟩
theorem Only.setCell (h : Only S w w1) {p : Addr} (hp : S p.block ∨ w.heap.size ≤ p.block) (u : Value) : Only S w (w1.setCell p u) :=
  ⟨h.os, h.tape, h.output, by simpa [World.setCell] using h.size, fun k hk hn => (Below.heap_setCell _ _ _ _ (by
    rintro rfl
    rcases hp with hp | hp
    · exact hn hp
    · omega)).trans (h.block k hk hn)⟩
theorem Only.grown {row : Option Nat} (h : Only S w w1) (hg : w1.grownBy w2 row) (hr : ∀ k, row = some k → S k ∨ w.heap.size ≤ k) : Only S w w2 :=
  ⟨hg.os.trans h.os, hg.tape.trans h.tape, hg.output.trans h.output, Nat.le_trans h.size hg.size, fun k hk hn =>
    (hg.block k (Nat.lt_of_lt_of_le hk h.size) (fun e => by
      rcases hr k e.symm with h1 | h1
      · exact hn h1
      · omega)).trans (h.block k hk hn)⟩
theorem Only.below {B : Nat} (h : Only S w w1) (hB : B ≤ w.heap.size) (hS : ∀ k, S k → B ≤ k) : Below B w w1 :=
  ⟨h.os, h.tape, h.output, h.size, fun k hk => h.block k (Nat.lt_of_lt_of_le hk hB) (fun hs => by have := hS k hs; omega)⟩
theorem Only.blk (h : Only S w w1) {g : Nat} {t : TypeId} {cs : Array Value} (hb : Blk w g t cs) (hn : ¬ S g) : Blk w1 g t cs := (h.block g hb.lt hn).trans hb
theorem Only.cell (h : Only S w w1) {p : Addr} (hp : p.block < w.heap.size) (hn : ¬ S p.block) : w1.cell? p = w.cell? p := World.cell?_of_block (h.block p.block hp hn)
theorem Only.own (h : Only S w w1) {base : Nat} {e : TypeId} {size n : Nat} {v : Value} {xs : List Value} (ho : w.ownsRow base e size v n xs) (hn : ∀ k, v.ownBlock = some k → ¬ S k) : w1.ownsRow base e size v n xs := by
  refine ⟨ho.1, ?_⟩
  rcases ho.2 with h2 | ⟨g, cap, cur, hv, hg, hh, r⟩
  · exact .inl h2
  · refine .inr ⟨g, cap, cur, hv, hg, ?_, r⟩
    have hlt : g < w.heap.size := (Array.getElem?_eq_some_iff.1 hh).1
    rw [h.block g hlt (hn g (by rw [hv]; rfl))]
    exact hh
theorem Only.of_below {B : Nat} (h : Below B w w1) : Only (fun i => B ≤ i) w w1 := ⟨h.os, h.tape, h.output, h.size, fun k _ hn => h.block k (by omega)⟩
end

/-- The cells of a writer. -/
def wlist (bin : Bool) (g : Nat) (n : Nat) (line : List UInt8) (cr : Bool) : List Value :=
  .bool bin :: .iface 53 (.pointer (some ⟨g, 0, none⟩)) :: .int .i64 (n : Int) :: (line.map bv ++ [.bool cr])
def wcells (bin : Bool) (g : Nat) (n : Nat) (line : List UInt8) (cr : Bool) : Array Value := (wlist bin g n line cr).toArray
section
variable (bin : Bool) (g n : Nat) (line : List UInt8) (cr : Bool)
theorem wcells_0 : (wcells bin g n line cr)[0]? = some (.bool bin) := by simp [wcells, wlist]
theorem wcells_1 : (wcells bin g n line cr)[1]? = some (.iface 53 (.pointer (some ⟨g, 0, none⟩))) := by simp [wcells, wlist]
theorem wcells_2 : (wcells bin g n line cr)[2]? = some (.int .i64 (n : Int)) := by simp [wcells, wlist]
theorem wcells_line (k : Nat) (hk : k < line.length) : (wcells bin g n line cr)[3 + k]? = some (bv line[k]) := by
  have e : 3 + k = k + 1 + 1 + 1 := by omega
  rw [e]
  simp [wcells, wlist, List.getElem?_append_left, hk]
theorem wcells_cr (hl : line.length = 78) : (wcells bin g n line cr)[81]? = some (.bool cr) := by
  simp [wcells, wlist, hl]
theorem wcells_set2 (m : Nat) : (wcells bin g n line cr).setIfInBounds 2 (.int .i64 (m : Int)) = wcells bin g m line cr := by
  simp [wcells, wlist]
theorem wcells_setLine (k : Nat) (b : UInt8) (hk : k < line.length) : (wcells bin g n line cr).setIfInBounds (3 + k) (bv b) = wcells bin g n (line.set k b) cr := by
  have e : 3 + k = k + 1 + 1 + 1 := by omega
  rw [e]
  simp [wcells, wlist, List.set_append_left, hk, List.map_set]
theorem wcells_setCr (c : Bool) (hl : line.length = 78) : (wcells bin g n line cr).setIfInBounds 81 (.bool c) = wcells bin g n line c := by
  simp [wcells, wlist, List.set_append_right, hl]
theorem wcells_setBin (c : Bool) : (wcells bin g n line cr).setIfInBounds 0 (.bool c) = wcells c g n line cr := by
  simp [wcells, wlist]
end

/-- The sink's cells: what it has got, whether it is limited, and by how much. -/
def scells (v : Value) (L : Option Nat) : Array Value := #[v, .bool L.isSome, .int .i64 ((L.getD 0 : Nat) : Int)]
/-- The row of what the sink has got stays where it is, or moves to a new block. -/
def Moved (w : World) (v v' : Value) : Prop := v'.ownBlock = v.ownBlock ∨ ∃ j, v'.ownBlock = some j ∧ w.heap.size ≤ j
theorem Moved.refl (w : World) (v : Value) : Moved w v v := .inl rfl
theorem Moved.trans {w w1 : World} {v v1 v2 : Value} (h : Moved w v v1) (k : Moved w1 v1 v2) (hs : w.heap.size ≤ w1.heap.size) : Moved w v v2 := by
  rcases k with k | ⟨j, k1, k2⟩
  · rcases h with h | ⟨j, h1, h2⟩
    · exact .inl (k.trans h)
    · exact .inr ⟨j, k.trans h1, h2⟩
  · exact .inr ⟨j, k1, Nat.le_trans hs k2⟩
/-- What a call of the writer may have turned: its own block, the sink's, the row; and where the row is now. -/
def Fr (b g : Nat) (w : World) (v : Value) (w' : World) (v' : Value) : Prop := Only (fun i => i = b ∨ i = g ∨ v.ownBlock = some i) w w' ∧ Moved w v v'
theorem Fr.refl (b g : Nat) (w : World) (v : Value) : Fr b g w v w v := ⟨Only.refl _ _, Moved.refl _ _⟩
theorem Fr.trans {b g : Nat} {w w1 w2 : World} {v v1 v2 : Value} (h : Fr b g w v w1 v1) (k : Fr b g w1 v1 w2 v2) : Fr b g w v w2 v2 := by
  refine ⟨h.1.trans k.1 (fun i hi hT => ?_), h.2.trans k.2 h.1.size⟩
  rcases hT with h1 | h1 | h1
  · exact .inl h1
  · exact .inr (.inl h1)
  · rcases h.2 with h2 | ⟨j, h2, h3⟩
    · exact .inr (.inr (h2.symm.trans h1))
    · rw [h2] at h1; injection h1 with h1; omega
theorem Fr.drew {b g : Nat} {w w1 : World} {v v1 : Value} (h : Fr b g w v w1 v1) : Fr b g w v w1.drew v1 := ⟨h.1.drew, h.2⟩
theorem Fr.drewN {b g : Nat} {w w1 : World} {v v1 : Value} (h : Fr b g w v w1 v1) (n : Nat) : Fr b g w v (w1.drewN n) v1 := ⟨h.1.drewN n, h.2⟩
theorem Fr.set_ {b g : Nat} {w w1 : World} {v v1 : Value} (h : Fr b g w v w1 v1) (i : Nat) (u : Value) : Fr b g w v (w1.setCell ⟨b, i, none⟩ u) v1 := ⟨h.1.setCell (.inl (.inl rfl)) u, h.2⟩

theorem Fr.of_drew {b g : Nat} {w w1 : World} {v v1 : Value} (h : Fr b g w.drew v w1 v1) : Fr b g w v w1 v1 := ⟨h.1.of_drew, h.2⟩
theorem Fr.of_drewN {b g n : Nat} {w w1 : World} {v v1 : Value} (h : Fr b g (w.drewN n) v w1 v1) : Fr b g w v w1 v1 := ⟨h.1.of_drewN, h.2⟩

/-- The writer, the sink and what it has got, in memory. -/
structure Inv (w : World) (B b g : Nat) (bin : Bool) (L : Option Nat) (s : Qp.St) (v : Value) : Prop where
  wr : ∃ rest, s.buf.length + rest.length = 78 ∧ Blk w b 62 (wcells bin g s.buf.length (s.buf ++ rest) s.cr)
  sk : Blk w g 55 (scells v L)
  own : w.ownsRow B 5 1 v s.got.length (s.got.map bv)
  bB : B ≤ b ∧ B ≤ g
theorem Inv.drew {w : World} {B b g : Nat} {bin : Bool} {L : Option Nat} {s : Qp.St} {v : Value} (h : Inv w B b g bin L s v) : Inv w.drew B b g bin L s v := ⟨h.wr, h.sk, h.own, h.bB⟩
theorem Inv.drewN {w : World} {B b g : Nat} {bin : Bool} {L : Option Nat} {s : Qp.St} {v : Value} (h : Inv w B b g bin L s v) (n : Nat) : Inv (w.drewN n) B b g bin L s v := ⟨h.wr, h.sk, h.own, h.bB⟩
/-- A block that the writer's calls leave alone. -/
theorem Inv.keep {S : Nat → Prop} {w w' : World} {B b g : Nat} {bin : Bool} {L : Option Nat} {s : Qp.St} {v : Value} (h : Inv w B b g bin L s v) (ho : Only S w w') (h1 : ¬ S b) (h2 : ¬ S g) (h3 : ∀ k, v.ownBlock = some k → ¬ S k) : Inv w' B b g bin L s v := by
  obtain ⟨rest, e, hb⟩ := h.wr
  exact ⟨⟨rest, e, ho.blk hb h1⟩, ho.blk h.sk h2, ho.own h.own h3, h.bB⟩

/-- The same, cell by cell: n, the whole line, cr. -/
structure Raw (w : World) (B b g : Nat) (bin : Bool) (L : Option Nat) (got : List UInt8) (v : Value) (n : Nat) (line : List UInt8) (cr : Bool) : Prop where
  len : line.length = 78
  wr : Blk w b 62 (wcells bin g n line cr)
  sk : Blk w g 55 (scells v L)
  own : w.ownsRow B 5 1 v got.length (got.map bv)
  bB : B ≤ b ∧ B ≤ g
section
variable {w : World} {B b g : Nat} {bin : Bool} {L : Option Nat} {got : List UInt8} {v : Value} {n : Nat} {line : List UInt8} {cr : Bool}
theorem Raw.ne_ (h : Raw w B b g bin L got v n line cr) : b ≠ g ∧ v.ownBlock ≠ some b ∧ v.ownBlock ≠ some g :=
  ⟨h.wr.ne_ h.sk (by decide), own_ne h.own h.wr (by decide), own_ne h.own h.sk (by decide)⟩
theorem Raw.drew (h : Raw w B b g bin L got v n line cr) : Raw w.drew B b g bin L got v n line cr := ⟨h.len, h.wr, h.sk, h.own, h.bB⟩
theorem Raw.drewN (h : Raw w B b g bin L got v n line cr) (k : Nat) : Raw (w.drewN k) B b g bin L got v n line cr := ⟨h.len, h.wr, h.sk, h.own, h.bB⟩
theorem Raw.c0 (h : Raw w B b g bin L got v n line cr) : w.cell? ⟨b, 0, none⟩ = some (.bool bin) := (h.wr.cell 0).trans (wcells_0 ..)
theorem Raw.c1 (h : Raw w B b g bin L got v n line cr) : w.cell? ⟨b, 1, none⟩ = some (.iface 53 (.pointer (some ⟨g, 0, none⟩))) := (h.wr.cell 1).trans (wcells_1 ..)
theorem Raw.c2 (h : Raw w B b g bin L got v n line cr) : w.cell? ⟨b, 2, none⟩ = some (.int .i64 (n : Int)) := (h.wr.cell 2).trans (wcells_2 ..)
theorem Raw.cl (h : Raw w B b g bin L got v n line cr) (k : Nat) (hk : k < 78) : w.cell? ⟨b, 3 + k, none⟩ = some (bv (line[k]'(by rw [h.len]; exact hk))) := (h.wr.cell _).trans (wcells_line _ _ _ _ _ k _)
theorem Raw.cc (h : Raw w B b g bin L got v n line cr) : w.cell? ⟨b, 81, none⟩ = some (.bool cr) := (h.wr.cell 81).trans (wcells_cr _ _ _ _ _ h.len)
theorem Raw.fz (h : Raw w B b g bin L got v n line cr) (k : Nat) : w.frozen? ⟨b, k, none⟩ = false := h.wr.frozen k
theorem Raw.stored (h : Raw w B b g bin L got v n line cr) (i : Nat) (u : Value) : Blk (w.setCell ⟨b, i, none⟩ u) g 55 (scells v L) ∧ (w.setCell ⟨b, i, none⟩ u).ownsRow B 5 1 v got.length (got.map bv) :=
  ⟨h.sk.far (fun e => h.ne_.1 e.symm) _, Only.own ((Only.refl (fun i => i = b) w).setCell (.inl rfl) _) h.own (fun k hk hkb => h.ne_.2.1 (by rw [hk, hkb]))⟩
theorem Raw.setN (h : Raw w B b g bin L got v n line cr) (m : Nat) : Raw (w.setCell ⟨b, 2, none⟩ (.int .i64 (m : Int))) B b g bin L got v m line cr :=
  ⟨h.len, by have := h.wr.set_ 2 (.int .i64 (m : Int)); rwa [wcells_set2] at this, (h.stored _ _).1, (h.stored _ _).2, h.bB⟩
theorem Raw.setLine (h : Raw w B b g bin L got v n line cr) (k : Nat) (x : UInt8) (hk : k < 78) : Raw (w.setCell ⟨b, 3 + k, none⟩ (bv x)) B b g bin L got v n (line.set k x) cr :=
  ⟨by simpa using h.len, by have := h.wr.set_ (3 + k) (bv x); rwa [wcells_setLine _ _ _ _ _ k x (by rw [h.len]; exact hk)] at this, (h.stored _ _).1, (h.stored _ _).2, h.bB⟩
theorem Raw.putN (h : Raw w B b g bin L got v n line cr) (m : Nat) (z : Int) (hz : z = (m : Int)) : Raw (w.setCell ⟨b, 2, none⟩ (.int .i64 z)) B b g bin L got v m line cr := by
  subst hz; exact h.setN m
theorem Raw.putLine (h : Raw w B b g bin L got v n line cr) (k : Nat) (x : UInt8) (hk : k < 78) (u : Value) (hu : u = bv x) : Raw (w.setCell ⟨b, 3 + k, none⟩ u) B b g bin L got v n (line.set k x) cr := by
  subst hu; exact h.setLine k x hk
theorem Raw.setCr (h : Raw w B b g bin L got v n line cr) (c : Bool) : Raw (w.setCell ⟨b, 81, none⟩ (.bool c)) B b g bin L got v n line c :=
  ⟨h.len, by have := h.wr.set_ 81 (.bool c); rwa [wcells_setCr _ _ _ _ _ c h.len] at this, (h.stored _ _).1, (h.stored _ _).2, h.bB⟩
theorem Raw.inv {s : Qp.St} {rest : List UInt8} (h : Raw w B b g bin L got v n line cr) (hn : n = s.buf.length) (hline : line = s.buf ++ rest) (hgot : s.got = got) (hcr : s.cr = cr) : Inv w B b g bin L s v := by
  subst hn hline hgot hcr
  exact ⟨⟨rest, by simpa using h.len, h.wr⟩, h.sk, h.own, h.bB⟩
theorem Inv.raw {s : Qp.St} (h : Inv w B b g bin L s v) : ∃ rest, s.buf.length + rest.length = 78 ∧ Raw w B b g bin L s.got v s.buf.length (s.buf ++ rest) s.cr := by
  obtain ⟨rest, e, hb⟩ := h.wr
  exact ⟨rest, e, by simpa using e, hb, h.sk, h.own, h.bB⟩
theorem Inv.ne_ {s : Qp.St} (h : Inv w B b g bin L s v) : b ≠ g ∧ v.ownBlock ≠ some b ∧ v.ownBlock ≠ some g := by
  obtain ⟨rest, _, hr⟩ := h.raw
  exact hr.ne_
end
theorem set_len (l r : List UInt8) (x y : UInt8) : (l ++ y :: r).set l.length x = (l ++ [x]) ++ r := by
  rw [List.set_append_right _ _ (Nat.le_refl _)]; simp
theorem Fr.put {b g : Nat} {w w1 : World} {v v1 : Value} (h : Fr b g w v w1 v1) (p : Addr) (hp : p.block = b) (u : Value) : Fr b g w v (w1.setCell p u) v1 := ⟨h.1.setCell (.inl (.inl hp)) u, h.2⟩
/-- A byte written behind what is there. -/
theorem put_one (l r : List UInt8) (x : UInt8) (h : 1 ≤ r.length) : (l ++ r).set l.length x = (l ++ [x]) ++ r.drop 1 := by
  cases r with
  | nil => simp at h
  | cons y r => rw [set_len]; rfl
theorem put_two (l r : List UInt8) (x y : UInt8) (h : 2 ≤ r.length) : ((l ++ r).set l.length x).set (l.length + 1) y = (l ++ [x, y]) ++ r.drop 2 := by
  rw [put_one l r x (by omega)]
  have e : l.length + 1 = (l ++ [x]).length := by simp
  rw [e, put_one _ _ _ (by simp; omega)]
  simp
theorem put_three (l r : List UInt8) (x y z : UInt8) (h : 3 ≤ r.length) : (((l ++ r).set l.length x).set (l.length + 1) y).set (l.length + 2) z = (l ++ [x, y, z]) ++ r.drop 3 := by
  rw [put_two l r x y (by omega)]
  have e : l.length + 2 = (l ++ [x, y]).length := by simp
  rw [e, put_one _ _ _ (by simp; omega)]
  simp
end Go.Proofs.Ytgdfbnedmifjlaa
