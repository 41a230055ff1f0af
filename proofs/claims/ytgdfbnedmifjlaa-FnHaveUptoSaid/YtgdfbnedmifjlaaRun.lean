/- Run of the thin package. -/
import Derived.Test.YtgdfbnedmifjlaaScript
namespace Go.Proofs.Ytgdfbnedmifjlaa
open Go.RowKit

theorem info31 : (Try.prog.info? 31).map (fun i => (i.zero, i.size, i.bytes)) = some (some (.agg #[.int .i64 0, .bool false, .int .i64 0]), 3, 24) := by kernel_rfl

theorem own_apart {w : World} {base base' : Nat} {e e' : TypeId} {size size' n n' : Nat} {v v' : Value} {xs xs' : List Value} (h : w.ownsRow base e size v n xs) (h' : w.ownsRow base' e' size' v' n' xs') (hne : e ≠ e') :
    ∀ k, v.ownBlock = some k → v'.ownBlock ≠ some k := by
  intro k hk
  rcases h.2 with ⟨rfl, _⟩ | ⟨g, cap, cur, rfl, _, hh, _⟩
  · simp [Value.ownBlock] at hk
  · have e1 : g = k := by simpa [Value.ownBlock] using hk
    subst e1
    exact own_ne h' (g := g) (t := e) (cs := cur) hh (fun h => hne h.symm)

/-- What holds at the head of each round of a run's loop. -/
def RRel (w : World) (bin : Bool) (L : Option Nat) (xs : List Qp.Stp) (k : Nat) (va : Value) (wr : World) : Prop :=
  ∃ v al, Inv wr w.heap.size (w.heap.size + 1) w.heap.size bin L (Qp.endP L bin Qp.st0 (xs.take k)) v ∧ wr.ownsRow w.heap.size 31 3 va k (ansCells al) ∧ Below w.heap.size w wr ∧ al.length = k ∧
    (Qp.endP L bin Qp.st0 (xs.take k)).bad = false ∧ (Qp.endP L bin Qp.st0 (xs.take k)).buf.length ≤ 75 ∧
    ∀ i a x, al[i]? = some a → xs[i]? = some x → AnOK a (Qp.endP L bin Qp.st0 (xs.take (i + 1))) x

/-- A new sink and a new writer over it. -/
structure Fresh (w : World) (L : Option Nat) (w1 : World) : Prop where
  sk : Blk w1 w.heap.size 55 (scells (.slice none 0 0) L)
  wr : Blk w1 (w.heap.size + 1) 62 (wcells false w.heap.size 0 (List.replicate 78 0) false)
  bel : Below w.heap.size w w1
theorem new_fresh (w : World) (L : Option Nat) :
    Calls Try.prog 51 #[.iface 53 (.pointer (some ⟨w.heap.size, 0, none⟩))] (w.alloc (.cells (scells (.slice none 0 0) L) 55)) fun e w1 => e = .returned (.pointer (some ⟨w.heap.size + 1, 0, none⟩)) ∧ Fresh w L w1 := by
  refine (new_calls _ w.heap.size).mono ?_
  rintro e w1 ⟨rfl, rfl⟩
  refine ⟨by simp, ?_, ?_, ?_⟩
  · exact (Blk.new w 55 _).alloc _
  · have := Blk.new (w.alloc (.cells (scells (.slice none 0 0) L) 55)) 62 (wcells false w.heap.size 0 (List.replicate 78 0) false)
    simpa using this
  · exact ((Below.refl _ w).alloc (Nat.le_refl _) _).alloc (by simp) _

theorem fresh_inv {w w1 : World} {L : Option Nat} (h : Fresh w L w1) (bin : Bool) (o : Obj) :
    Inv ((w1.setCell ⟨w.heap.size + 1, 0, none⟩ (.bool bin)).alloc o) w.heap.size (w.heap.size + 1) w.heap.size bin L Qp.st0 (.slice none 0 0) ∧ Below w.heap.size w ((w1.setCell ⟨w.heap.size + 1, 0, none⟩ (.bool bin)).alloc o) := by
  have hw : Blk (w1.setCell ⟨w.heap.size + 1, 0, none⟩ (.bool bin)) (w.heap.size + 1) 62 (wcells bin w.heap.size 0 (List.replicate 78 0) false) := by
    have := h.wr.set_ 0 (.bool bin)
    rwa [wcells_setBin] at this
  have hs : Blk (w1.setCell ⟨w.heap.size + 1, 0, none⟩ (.bool bin)) w.heap.size 55 (scells (.slice none 0 0) L) := h.sk.far (by simp) _
  have hi : Inv (w1.setCell ⟨w.heap.size + 1, 0, none⟩ (.bool bin)) w.heap.size (w.heap.size + 1) w.heap.size bin L Qp.st0 (.slice none 0 0) :=
    ⟨⟨List.replicate 78 0, by simp [Qp.st0], hw⟩, hs, World.ownsRow_nil _ _ _ _, by omega, Nat.le_refl _⟩
  have hsz := h.wr.lt
  exact ⟨hi.alloc o, (h.bel.setCell (p := ⟨w.heap.size + 1, 0, none⟩) (by simp) _).alloc (by simp only [World.setCell, Array.size_modify]; omega) o⟩

/-- What a run leaves: what the sink has got, and the answers. -/
def RunPost (w : World) (bin : Bool) (L : Option Nat) (xs : List Qp.Stp) (e : Ending) (w' : World) : Prop :=
  ∃ v va al, e = .returned (.tuple #[v, va]) ∧ w'.ownsRow w.heap.size 5 1 v (Qp.endP L bin Qp.st0 xs).got.length ((Qp.endP L bin Qp.st0 xs).got.map bv) ∧ w'.ownsRow w.heap.size 31 3 va al.length (ansCells al) ∧ Below w.heap.size w w' ∧
    al.length ≤ xs.length ∧ ((Qp.endP L bin Qp.st0 xs).bad = false → al.length = xs.length) ∧
    (∀ (i : Nat) (a : An) (x : Qp.Stp), al[i]? = some a → xs[i]? = some x → AnOK a (Qp.endP L bin Qp.st0 (xs.take (i + 1))) x ∧ (i + 1 < al.length → a.bad = false)) ∧
    ((Qp.endP L bin Qp.st0 xs).bad = true → ∃ k, al.length = k + 1 ∧ Qp.endP L bin Qp.st0 (xs.take (k + 1)) = Qp.endP L bin Qp.st0 xs)

theorem ones_ans (a : An) : ∀ u ∈ [Value.int .i64 a.n, .bool a.bad, .int .i64 (a.hv : Int)], u.oneCell' = true := ansCells_one [a]
theorem rd_three (w : World) (a b c : Value) : Rd (w.alloc (.cells #[a, b, c] 31)) 3 (.slice (some ⟨w.heap.size, 0, none⟩) 1 1) 1 [a, b, c] := by
  refine ⟨rfl, .inr ⟨_, _, rfl, Nat.le_refl _, fun _ => ⟨rfl, by simp, fun j u hu => ?_⟩⟩⟩
  have := (Blk.new w 31 #[a, b, c]).cell (0 + j)
  rw [this, ← hu]; simp

theorem RRel.next {w wr w1 w3 : World} {bin : Bool} {L : Option Nat} {xs : List Qp.Stp} {k : Nat} {va va' v1 : Value} {x : Qp.Stp} {n : Int} {o : Obj} {v : Value} {al : List An}
    (hk : xs[k]? = some x) (hl : (Qp.endP L bin Qp.st0 (xs.take k)).buf.length ≤ 75) (hb : (Qp.endP L bin Qp.st0 (xs.take k)).bad = false) (hlen : al.length = k)
    (hans : ∀ i a x, al[i]? = some a → xs[i]? = some x → AnOK a (Qp.endP L bin Qp.st0 (xs.take (i + 1))) x)
    (hbel : Below w.heap.size w wr) (hi : Inv wr w.heap.size (w.heap.size + 1) w.heap.size bin L (Qp.endP L bin Qp.st0 (xs.take k)) v)
    (hi1 : Inv w1 w.heap.size (w.heap.size + 1) w.heap.size bin L (Qp.callP L bin (Qp.endP L bin Qp.st0 (xs.take k)) x) v1) (hf : Fr (w.heap.size + 1) w.heap.size wr v w1 v1)
    (hn : (Qp.callP L bin (Qp.endP L bin Qp.st0 (xs.take k)) x).bad = false → n = ((if x.cl then 0 else x.data.length : Nat) : Int))
    (ho1 : w1.ownsRow w.heap.size 31 3 va k (ansCells al))
    (ho : w3.ownsRow w.heap.size 31 3 va' (k + 1) (ansCells al ++ [.int .i64 n, .bool (Qp.callP L bin (Qp.endP L bin Qp.st0 (xs.take k)) x).bad, .int .i64 ((Qp.callP L bin (Qp.endP L bin Qp.st0 (xs.take k)) x).got.length : Int)]))
    (hg : (w1.alloc o).grownBy w3 va.ownBlock) :
    ∃ al', al'.length = k + 1 ∧ w3.ownsRow w.heap.size 31 3 va' (k + 1) (ansCells al') ∧ Inv w3 w.heap.size (w.heap.size + 1) w.heap.size bin L (Qp.endP L bin Qp.st0 (xs.take (k + 1))) v1 ∧ Below w.heap.size w w3 ∧
      ((Qp.endP L bin Qp.st0 (xs.take (k + 1))).bad = false → (Qp.endP L bin Qp.st0 (xs.take (k + 1))).buf.length ≤ 75) ∧
      (∀ i a x, al'[i]? = some a → xs[i]? = some x → AnOK a (Qp.endP L bin Qp.st0 (xs.take (i + 1))) x) ∧ (∀ i a, al'[i]? = some a → i < k → al[i]? = some a) := by
  have e := endP_take_succ L bin Qp.st0 xs k x hk
  generalize hs1 : Qp.callP L bin (Qp.endP L bin Qp.st0 (xs.take k)) x = s1 at *
  refine ⟨al ++ [⟨n, s1.bad, s1.got.length⟩], by simp [hlen], by rw [ansCells_append]; exact ho, ?_, ?_, ?_, ?_, ?_⟩
  · rw [e]
    refine (hi1.alloc o).keep (S := fun i => va.ownBlock = some i) ⟨hg.os, hg.tape, hg.output, hg.size, fun i hi hn => hg.block i hi (fun h => hn h.symm)⟩ ?_ ?_ ?_
    · obtain ⟨rest, _, hbk⟩ := hi1.wr
      exact own_ne ho1 hbk (by decide)
    · exact own_ne ho1 hi1.sk (by decide)
    · intro i hi' h
      exact own_apart hi1.own ho1 (by decide) i hi' h
  · have hlt := hi.lt
    have h1 : Below w.heap.size w w1 := hbel.trans (hf.1.below hbel.size (fun i hi' => by
      rcases hi' with h | h | h
      · omega
      · omega
      · exact (hi.own.lt i h).1))
    refine (h1.alloc h1.size o).grown hg (by simp; have := h1.size; omega) (fun i hi' => (ho1.lt i hi').1)
  · intro hbb
    rw [e] at hbb ⊢
    rw [← hs1] at hbb ⊢
    exact buf_call L bin _ x hb hl hbb
  · intro i a y h1 h2
    rcases Nat.lt_or_ge i al.length with hi' | hi'
    · rw [List.getElem?_append_left hi'] at h1
      exact hans i a y h1 h2
    · rw [List.getElem?_append_right hi'] at h1
      have e0 : i - al.length = 0 := by
        rcases Nat.eq_zero_or_pos (i - al.length) with h | h
        · exact h
        · rw [List.getElem?_eq_none (by simp; omega)] at h1; cases h1
      have ei : i = k := by omega
      rw [e0] at h1
      simp at h1
      subst ei
      rw [hk] at h2
      injection h2 with h2
      subst h2 h1
      rw [e]
      exact ⟨rfl, rfl, fun hbb => by rw [hn hbb]; split <;> simp⟩
  · intro i a h1 h2
    rwa [List.getElem?_append_left (by omega)] at h1

set_option maxHeartbeats 2000000 in
theorem Run_calls (w : World) (bin : Bool) (sv : Value) (xs : List Qp.Stp) (hs : Steps w sv xs) (ht : tot xs ≤ 16777216) :
    Calls Try.prog 29 #[.bool bin, sv] w (RunPost w bin none xs) := by
  obtain ⟨i0, hi, hz0, hz1, hz2⟩ := info_parts info31
  obtain ⟨ds, hds, hrd, hdat⟩ := hs
  obtain ⟨sA, sc, rfl⟩ : ∃ A c, sv = .slice A xs.length c := by
    rcases hrd.2 with ⟨rfl, h0⟩ | ⟨ad, c, rfl, _⟩
    · exact ⟨none, 0, by rw [h0]⟩
    · exact ⟨_, _, rfl⟩
  have hxl := tot_len xs
  have HD := Lib.hid hdat
  have HR := Lib.hid hrd
  have HDS := Lib.hid hds
  have HNW := Lib.hid (new_fresh w none)
  clear hdat hrd hds
  go_enter Try.func29, Try.ntmps29
  go_wp2_with fail
  refine HNW.out.mono ?_
  rintro e w1 ⟨rfl, hfr⟩
  have b0 : w1.cell? ⟨w.heap.size + 1, 0, none⟩ = some (.bool false) := (hfr.wr.cell 0).trans (wcells_0 ..)
  have fz := hfr.wr.frozen 0
  have hI := fresh_inv hfr bin (.cells #[] 31)
  have hsz : w.heap.size ≤ w1.heap.size := hfr.bel.size
  have hO : ((w1.setCell ⟨w.heap.size + 1, 0, none⟩ (.bool bin)).alloc (.cells #[] 31)).ownsRow w.heap.size 31 3 (.slice (some ⟨w1.heap.size, 0, none⟩) 0 0) 0 [] := by
    have := World.ownsRow_made (base := w.heap.size) (e := 31) (size := 3) (w1.setCell ⟨w.heap.size + 1, 0, none⟩ (.bool bin)) #[] 0 (by simpa [World.setCell] using hsz) (by unfold maxLen; omega) (by simp)
    simpa [World.setCell] using this
  have hRel : RRel w bin none xs 0 (.slice (some ⟨w1.heap.size, 0, none⟩) 0 0) ((w1.setCell ⟨w.heap.size + 1, 0, none⟩ (.bool bin)).alloc (.cells #[] 31)) :=
    ⟨_, [], hI.1, hO, hI.2, rfl, rfl, by simp [Qp.endP, Qp.st0], by simp⟩
  have HRel := Lib.hid hRel
  clear hfr hI hO hRel
  go_wp2_with fail
  go_loopw [8, 23] (fun va i wr => ∃ k : Nat, k ≤ xs.length ∧ i = .int .i64 k ∧ RRel w bin none xs k va wr) (fun _ i _ => xs.length - (intOf i).toNat)
  case atStart => exact ⟨0, Nat.zero_le _, rfl, HRel.out⟩
  case round =>
    obtain ⟨k, hk, rfl, v, al, hinv, hown, hbel, hlen, hbad, hbuf, hans⟩ := hrel
    clear b0 fz HRel hsz
    by_cases hkl : k < xs.length
    · have hrw := HR.out.keep hbel
      rcases hrw.2 with ⟨_, h0⟩ | ⟨ad, c, hv, hc, hcell⟩
      · omega
      · obtain ⟨h1, h2, h3⟩ := hcell (by omega)
        obtain ⟨ab, ao, asp⟩ := ad
        simp only at h1 h2 h3; subst h1
        injection hv with hv1 hv2 hv3
        subst hv1
        obtain ⟨x, hx⟩ : ∃ x, xs[k]? = some x := ⟨xs[k], by simp [hkl]⟩
        obtain ⟨d, hd⟩ : ∃ d, ds[k]? = some d := ⟨ds[k]'(by rw [HDS.out]; exact hkl), by rw [List.getElem?_eq_getElem]⟩
        obtain ⟨g1, g2⟩ := stepCells_at xs ds k x d hx hd
        have c1 : wr.cell? ⟨ab, ao + k * 2, none⟩ = some (.bool x.cl) := h3 _ _ g1
        have c2 : wr.cell? ⟨ab, ao + (k * 2 + 1), none⟩ = some d := h3 _ _ g2
        have hdr := (HD.out k d x hd hx).keep hbel
        obtain ⟨dA, dn, dc, rfl⟩ : ∃ A n c, d = .slice A n c := by
          rcases hdr.2 with ⟨rfl, _⟩ | ⟨ad, c, rfl, _⟩
          · exact ⟨_, _, _, rfl⟩
          · exact ⟨_, _, _, rfl⟩
        have c2' : wr.cell? ⟨ab, ao + k * 2 + 1, none⟩ = some (.slice dA dn dc) := by rw [Nat.add_assoc]; exact c2
        have htk : tot (xs.take k) + (x.data.length + 1) ≤ 16777216 := by
          have e1 : xs = xs.take k ++ (x :: xs.drop (k + 1)) := by
            have := List.drop_eq_getElem_cons hkl
            have hxk : xs[k] = x := by have := hx; rw [List.getElem?_eq_getElem hkl] at this; injection this
            rw [hxk] at this
            rw [← this, List.take_append_drop]
          have e2 := congrArg tot e1
          rw [tot_append] at e2
          simp only [tot] at e2
          omega
        have hsz := size_endP none bin (xs.take k) Qp.st0
        have e0 : Qp.size Qp.st0 = 0 := rfl
        have hC := call_calls _ w.heap.size (w.heap.size + 1) w.heap.size bin none _ v (.slice dA dn dc) x (hinv.alloc (.cells #[.bool x.cl, .slice dA dn dc] 26)) hbad hbuf (by simp) (by omega) (hdr.alloc _)
        have HC := Lib.hid hC
        have HI := Lib.hid hinv
        have HO := Lib.hid hown
        have HB := Lib.hid hbel
        have HL := Lib.hid hlen
        have HBad := Lib.hid hbad
        have HAns := Lib.hid hans
        have HX := Lib.hid hx
        clear hC hinv hown hbel hlen hbad hans hx hd g1 g2 hdr htk hsz e0 h2 h3 hrw hcell hv2 hv3 c2
        go_wp2_with fail
        refine HC.out.mono ?_
        intro e w2 h
        obtain ⟨v1, n, rfl, hn, hi1, hf⟩ := h
        have ho1 : w2.ownsRow w.heap.size 31 3 u8 k (ansCells al) := by
          refine hf.1.own (HO.out.alloc _) (fun i hi' hS => ?_)
          obtain ⟨rest, _, hbk⟩ := HI.out.wr
          rcases hS with h | h | h
          · exact own_ne HO.out hbk (by decide) (by rw [hi', h])
          · exact own_ne HO.out HI.out.sk (by decide) (by rw [hi', h])
          · exact own_apart HO.out HI.out.own (by decide) i hi' h
        have hsz2 : w.heap.size ≤ w2.heap.size := by
          have g1 := hf.1.size
          have g2 := HB.out.size
          simp at g1; omega
        have hf2 : Fr (w.heap.size + 1) w.heap.size wr v w2 v1 := ((Fr.refl _ _ wr v).alloc _).trans hf
        have HN := Lib.hid hn
        have HI1 := Lib.hid hi1
        have HF := Lib.hid hf2
        have HO1 := Lib.hid ho1
        clear hn hi1 hf hf2 ho1
        generalize hbb : (Qp.callP none bin (Qp.endP none bin Qp.st0 (List.take k xs)) x).bad = bb at *
        generalize hgg : (Qp.callP none bin (Qp.endP none bin Qp.st0 (List.take k xs)) x).got.length = gl at *
        have HBB := Lib.hid hbb
        have HGG := Lib.hid hgg
        clear hbb hgg
        go_wp2_with (at_builtin; refine wpList_app _ rfl _ _ 27 rfl w.heap.size 31 i0 (.agg #[.int .i64 0, .bool false, .int .i64 0]) 3 24 Try.underlying27 hi hz0 hz1 hz2 rfl (by decide) u8 k (ansCells al) rfl (HO1.out.alloc _) (.slice (some ⟨w2.heap.size, 0, none⟩) 1 1) 1 [.int .i64 n, .bool bb, .int .i64 (gl : Int)] rfl (rd_three w2 _ _ _) (ones_ans ⟨n, bb, gl⟩) (by unfold maxLen; omega) (by omega) (by simp; omega) ?_)
        intro va' w3 g1 g2 g3
        have R := RRel.next HX.out hbuf HBad.out HL.out HAns.out HB.out HI.out HI1.out HF.out (by rw [HBB.out]; exact HN.out) HO1.out (by rw [HBB.out, HGG.out]; exact g1) g2
        have HRR := Lib.hid R
        clear g1 g2 g3 R
        go_wp2
        go_roundw
        case rel =>
          obtain ⟨al', r1, r2, r3, r4, r5, r6, _⟩ := HRR.out
          have r7 := (Qp.good_endP bin (xs.take (k + 1))).fine Qp.st0 rfl
          exact ⟨k + 1, by omega, by go_num, v1, al', r3, r2, r4, r1, r7, r5 r7, r6⟩
        case measure => simp [intOf]; omega
    · have hke : k = xs.length := by omega
      subst hke
      have hfin : Qp.endP none bin Qp.st0 (xs.take xs.length) = Qp.endP none bin Qp.st0 xs := by rw [List.take_length]
      rw [hfin] at hinv hbad
      obtain ⟨ao, cap, hv⟩ := own_shape hinv.own
      have c0 : wr.cell? ⟨w.heap.size, 0, none⟩ = some v := hinv.sk.cell 0
      rw [hv] at c0
      have hP : RunPost w bin none xs (.returned (.tuple #[.slice ao (Qp.endP none bin Qp.st0 xs).got.length cap, u8])) wr := by
        refine ⟨v, u8, al, by rw [← hv], hinv.own, by rw [hlen]; exact hown, hbel, by omega, fun _ => hlen, fun i a x h1 h2 => ⟨hans i a x h1 h2, fun _ => ?_⟩, fun h => by rw [hbad] at h; cases h⟩
        rw [(hans i a x h1 h2).1]
        exact (Qp.good_endP bin (xs.take (i + 1))).fine Qp.st0 rfl
      have HP := Lib.hid hP
      clear hinv hown hbel hlen hbad hbuf hans hfin hv hP
      go_wp2
      go_ret2
      exact HP.out
end Go.Proofs.Ytgdfbnedmifjlaa
