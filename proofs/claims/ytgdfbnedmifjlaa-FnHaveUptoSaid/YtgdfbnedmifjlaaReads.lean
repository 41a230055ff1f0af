/- Reading slices: shapes, elements; rows of steps that a call builds. -/
import Derived.Test.YtgdfbnedmifjlaaOpen
import Derived.Test.YtgdfbnedmifjlaaRun
namespace Go.Proofs.Ytgdfbnedmifjlaa
open Go.RowKit

theorem info26 : (Try.prog.info? 26).map (fun i => (i.zero, i.size, i.bytes)) = some (some (.agg #[.bool false, .slice none 0 0]), 2, 32) := by kernel_rfl
theorem info24 : (Try.prog.info? 24).map (fun i => (i.zero, i.size, i.bytes)) = some (some (.slice none 0 0), 1, 24) := by kernel_rfl

theorem Rd.shape {w : World} {size n : Nat} {v : Value} {xs : List Value} (h : Rd w size v n xs) : ∃ A c, v = .slice A n c ∧ n ≤ c := by
  rcases h.2 with ⟨rfl, rfl⟩ | ⟨ad, c, rfl, hc, _⟩
  · exact ⟨none, 0, rfl, Nat.le_refl _⟩
  · exact ⟨some ad, c, rfl, hc⟩
theorem Rd.get {w : World} {size n k : Nat} {A : Option Addr} {c : Nat} {xs : List Value} (h : Rd w size (.slice A n c) n xs) (hk : k < n) :
    ∃ ab ao, A = some ⟨ab, ao, none⟩ ∧ ab < w.heap.size ∧ ∀ (j : Nat) (u : Value), xs[j]? = some u → w.cell? ⟨ab, ao + j, none⟩ = some u := by
  rcases h.2 with ⟨_, h0⟩ | ⟨ad, c', hv, _, hcell⟩
  · omega
  · obtain ⟨h1, h2, h3⟩ := hcell (by omega)
    injection hv with hv1 _ _
    obtain ⟨ab, ao, asp⟩ := ad
    simp only at h1; subst h1
    exact ⟨ab, ao, hv1, h2, h3⟩
/-- A byte of a slice of bytes. -/
theorem Rd.byte {w : World} {A : Option Addr} {c k : Nat} {l : List UInt8} (h : Rd w 1 (.slice A l.length c) l.length (l.map bv)) (hk : k < l.length) :
    ∃ ab ao, A = some ⟨ab, ao, none⟩ ∧ ab < w.heap.size ∧ ∀ (j : Nat) (hj : j < l.length), w.cell? ⟨ab, ao + j, none⟩ = some (.int .u8 (l[j].toNat : Int)) := by
  obtain ⟨ab, ao, h1, h2, h3⟩ := h.get hk
  exact ⟨ab, ao, h1, h2, fun j hj => h3 j _ (by simp [hj, bv])⟩

theorem stepCells_append (xs : List Qp.Stp) : ∀ (ds : List Value) (x : Qp.Stp) (d : Value), ds.length = xs.length → stepCells (xs ++ [x]) (ds ++ [d]) = stepCells xs ds ++ [.bool x.cl, d] := by
  induction xs with
  | nil =>
    intro ds x d h
    have : ds = [] := List.eq_nil_of_length_eq_zero (by simpa using h)
    subst this; rfl
  | cons y xs ih =>
    intro ds x d h
    cases ds with
    | nil => simp at h
    | cons e ds => simp only [List.cons_append, stepCells, ih ds x d (by simpa using h)]
theorem rd_two (w : World) (a b : Value) : Rd (w.alloc (.cells #[a, b] 26)) 2 (.slice (some ⟨w.heap.size, 0, none⟩) 1 1) 1 [a, b] := by
  refine ⟨rfl, .inr ⟨_, _, rfl, Nat.le_refl _, fun _ => ⟨rfl, by simp, fun j u hu => ?_⟩⟩⟩
  have := (Blk.new w 26 #[a, b]).cell (0 + j)
  rw [this, ← hu]; simp
theorem rd_one (w : World) (a : Value) (t : TypeId) : Rd (w.alloc (.cells #[a] t)) 1 (.slice (some ⟨w.heap.size, 0, none⟩) 1 1) 1 [a] := by
  refine ⟨rfl, .inr ⟨_, _, rfl, Nat.le_refl _, fun _ => ⟨rfl, by simp, fun j u hu => ?_⟩⟩⟩
  have := (Blk.new w t #[a]).cell (0 + j)
  rw [this, ← hu]; simp
/-- A Write of some bytes. -/
def wst (p : List UInt8) : Qp.Stp := ⟨false, p⟩
theorem tot_wst (ps : List (List UInt8)) : tot (ps.map wst) = ptot ps := by
  induction ps with
  | nil => rfl
  | cons p ps ih => simp only [List.map_cons, tot, ptot, ih]; rfl
theorem ptot_len (ps : List (List UInt8)) : ps.length ≤ ptot ps := by
  induction ps with
  | nil => simp [ptot]
  | cons p ps ih => simp only [List.length_cons, ptot]; omega
theorem two_one (b : Bool) (A : Option Addr) (n c : Nat) : ∀ u ∈ [Value.bool b, .slice A n c], u.oneCell' = true := by
  intro u hu
  simp at hu
  rcases hu with rfl | rfl <;> rfl
theorem ownsRow_empty_at {w w1 : World} (e : TypeId) (size base : Nat) (hb : base ≤ w1.heap.size) : (w1.alloc (.cells #[] e)).ownsRow base e size (.slice (some ⟨w1.heap.size, 0, none⟩) 0 0) 0 [] :=
  have _ := w
  World.ownsRow_made w1 #[] 0 hb (by unfold maxLen; omega) (by simp)

/-- The cells of a script of Writes. -/
def pcells (ps : List (List UInt8)) (ds : List Value) (k : Nat) : List Value := stepCells ((ps.take k).map wst) (ds.take k)
/-- What holds at the head of each round of the loop that makes a script of Writes out of parts. -/
def PRel (w : World) (ps : List (List UInt8)) (ds : List Value) (k : Nat) (sv : Value) (wr : World) : Prop :=
  wr.ownsRow w.heap.size 26 2 sv k (pcells ps ds k) ∧ Below w.heap.size w wr
theorem PRel.start (w : World) (ps : List (List UInt8)) (ds : List Value) : PRel w ps ds 0 (.slice (some ⟨w.heap.size, 0, none⟩) 0 0) (w.alloc (.cells #[] 26)) :=
  ⟨by have := ownsRow_empty_at (w := w) 26 2 w.heap.size (w1 := w) (Nat.le_refl _); simpa [pcells, stepCells] using this, (Below.refl _ _).alloc (Nat.le_refl _) _⟩
theorem PRel.next {w wr w2 : World} {ps : List (List UInt8)} {ds : List Value} {k : Nat} {sv sv' : Value} {o : Obj} {p : List UInt8} {d : Value} (h : PRel w ps ds k sv wr) (hp : ps[k]? = some p) (hd : ds[k]? = some d)
    (ho : w2.ownsRow w.heap.size 26 2 sv' (k + 1) (pcells ps ds k ++ [.bool false, d])) (hg : (wr.alloc o).grownBy w2 sv.ownBlock) : PRel w ps ds (k + 1) sv' w2 := by
  have hpl := (List.getElem?_eq_some_iff.1 hp).1
  have hdl := (List.getElem?_eq_some_iff.1 hd).1
  refine ⟨?_, ?_⟩
  · unfold pcells at ho ⊢
    rw [List.take_add_one, List.take_add_one, hp, hd]
    simp only [Option.toList_some, List.map_append, List.map_cons, List.map_nil]
    rw [stepCells_append _ _ _ _ (by simp; omega)]
    exact ho
  · refine (h.2.alloc h.2.size o).grown hg (by simp; have := h.2.size; omega) (fun i hi => (h.1.lt i hi).1)
theorem PRel.steps {w wr : World} {ps : List (List UInt8)} {ds : List Value} {sv pv : Value} (h : PRel w ps ds ps.length sv wr) (hds : ds.length = ps.length)
    (hdat : ∀ (i : Nat) (d : Value) (p : List UInt8), ds[i]? = some d → ps[i]? = some p → Rd w 1 d p.length (p.map bv)) : Steps wr sv (ps.map wst) := by
  have _ := pv
  obtain ⟨h1, h2⟩ := h
  unfold pcells at h1
  rw [List.take_length, ← hds, List.take_length] at h1
  refine ⟨ds, by simpa using hds, by simpa [hds] using Rd.of_own h1, fun i d x g1 g2 => ?_⟩
  rw [List.getElem?_map] at g2
  cases hp : ps[i]? with
  | none => rw [hp] at g2; cases g2
  | some p =>
    rw [hp] at g2
    simp at g2
    subst g2
    exact (hdat i d p g1 hp).keep h2
theorem bel_drewN {B : Nat} {a w : World} (h : Below B a w) (n : Nat) : Below B a (w.drewN n) := ⟨h.os, h.tape, h.output, h.size, h.block⟩
theorem bel_new {a w : World} (h : Below a.heap.size a w) (o : Obj) : Below a.heap.size a (w.alloc o) := h.alloc h.size o
/-- What a law's walk ends in. -/
def Yes (w : World) (e : Ending) (w' : World) : Prop := e = .returned (.bool true) ∧ Below w.heap.size w w'
end Go.Proofs.Ytgdfbnedmifjlaa
