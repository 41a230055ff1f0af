/- Encode and EncodeParts of the thin package; Same, Whole of the reference. -/
import Derived.Test.YtgdfbnedmifjlaaReads
import Derived.Laws.IdiomStrings
import Derived.Laws.BytesArg
namespace Go.Proofs.Ytgdfbnedmifjlaa
open Go.RowKit

theorem own_base {w : World} {base base' : Nat} {e : TypeId} {size n : Nat} {v : Value} {xs : List Value} (h : w.ownsRow base e size v n xs) (hb : base' ≤ base) : w.ownsRow base' e size v n xs := by
  refine ⟨h.1, ?_⟩
  rcases h.2 with h2 | ⟨g, cap, cur, hv, hg, r⟩
  · exact .inl h2
  · exact .inr ⟨g, cap, cur, hv, by omega, r⟩
theorem bel_old {w w1 w2 : World} (h : Below w.heap.size w w1) (k : Below w1.heap.size w1 w2) : Below w.heap.size w w2 := h.trans (k.mono h.size)
theorem rd_nil (w : World) : Rd w 1 (.slice none 0 0) 0 [] := ⟨rfl, .inl ⟨rfl, rfl⟩⟩

theorem Yes.of {w w' : World} {b : Bool} (h : b = true) (hb : Below w.heap.size w w') : Yes w (.returned (.bool b)) w' := ⟨by rw [h], hb⟩
theorem len_zero {l : List UInt8} (h : l.length ≤ 0) : ((l.length : Int) == 0) = true := by
  have e : (l.length : Int) = 0 := by omega
  rw [e]; rfl

theorem steps_two (w : World) (d : Value) (l : List UInt8) (h : Rd w 1 d l.length (l.map bv)) :
    Steps (w.alloc (.cells #[.bool false, d, .bool true, .slice none 0 0] 26)) (.slice (some ⟨w.heap.size, 0, none⟩) 2 2) [⟨false, l⟩, ⟨true, []⟩] := by
  refine ⟨[d, .slice none 0 0], rfl, ⟨rfl, .inr ⟨_, _, rfl, Nat.le_refl _, fun _ => ⟨rfl, by simp, fun j u hu => ?_⟩⟩⟩, ?_⟩
  · have := (Blk.new w 26 #[.bool false, d, .bool true, .slice none 0 0]).cell (0 + j)
    rw [this, ← hu]; simp [stepCells]
  · intro i e x h1 h2
    match i with
    | 0 => simp at h1 h2; subst h1 h2; exact h.alloc _
    | 1 => simp at h1 h2; subst h1 h2; exact rd_nil _
    | i + 2 => simp at h1
theorem tot_two (l : List UInt8) : tot [⟨false, l⟩, ⟨true, []⟩] = l.length + 2 := by simp [tot]
theorem end_two (bin : Bool) (l : List UInt8) : (Qp.endP none bin Qp.st0 [⟨false, l⟩, ⟨true, []⟩]).got = Qp.enc bin l := rfl

set_option maxHeartbeats 1000000 in
theorem Encode_calls (w : World) (bin : Bool) (v : Value) (l : List UInt8) (hr : Rd w 1 v l.length (l.map bv)) (hl : l.length ≤ 16777000) :
    Calls Try.prog 38 #[.bool bin, v] w (NewRow w 5 1 (Qp.enc bin l).length ((Qp.enc bin l).map bv)) := by
  obtain ⟨A, c, rfl, _⟩ := hr.shape
  have hS := steps_two w _ l hr
  have HC := Lib.hid (Run_calls _ bin _ _ hS (by rw [tot_two]; omega))
  clear hr hS
  go_enter Try.func38, Try.ntmps38
  go_wp2_with fail
  refine HC.out.mono ?_
  intro e w1 h
  obtain ⟨v1, va, al, rfl, h1, h2, h3, _⟩ := h
  have hP : NewRow w 5 1 (Qp.enc bin l).length ((Qp.enc bin l).map bv) (.returned v1) w1 :=
    ⟨v1, rfl, own_base h1 (by simp), bel_old ((Below.refl _ w).alloc (Nat.le_refl _) _) h3⟩
  have HP := Lib.hid hP
  clear h1 h2 h3 hP
  go_wp2
  go_ret
  exact HP.out

/-- The same for whoever reads on: the bytes, in new memory. -/
def NewBytes (w : World) (l : List UInt8) (e : Ending) (w' : World) : Prop :=
  ∃ A c, e = .returned (.slice A l.length c) ∧ l.length ≤ c ∧ Rd w' 1 (.slice A l.length c) l.length (l.map bv) ∧ Below w.heap.size w w'
theorem NewRow.bytes {w : World} {l : List UInt8} {e : Ending} {w' : World} (h : NewRow w 5 1 l.length (l.map bv) e w') : NewBytes w l e w' := by
  obtain ⟨v, rfl, h1, h2⟩ := h
  have hr := Rd.of_own h1
  obtain ⟨A, c, rfl, hc⟩ := hr.shape
  exact ⟨A, c, rfl, hc, hr, h2⟩
theorem Encode_bytes (w : World) (bin : Bool) (v : Value) (l : List UInt8) (hr : Rd w 1 v l.length (l.map bv)) (hl : l.length ≤ 16777000) : Calls Try.prog 38 #[.bool bin, v] w (NewBytes w (Qp.enc bin l)) :=
  (Encode_calls w bin v l hr hl).mono fun _ _ h => h.bytes

/-! Strings out of bytes. -/
theorem conv_bytes {w : World} {v : Value} {l : List UInt8} (h : Rd w 1 v l.length (l.map bv)) : (convert 24 9 v).run Try.prog w = .ok (.string ⟨l.toArray⟩) w := by
  rcases h.2 with ⟨rfl, h0⟩ | ⟨ad, c, rfl, hc, hcell⟩
  · have hl : l = [] := List.eq_nil_of_length_eq_zero h0
    subst hl
    exact run_convert_bytes_nil w 24 5 Try.underlying24 Try.underlying5 0 0 9 Try.underlying9
  · rcases Nat.eq_zero_or_pos l.length with h0 | h0
    · have hl : l = [] := List.eq_nil_of_length_eq_zero h0
      subst hl
      exact run_convert_bytes_back w 24 9 5 ad c [] Try.underlying24 Try.underlying5 Try.underlying9 (by simp)
    · obtain ⟨h1, _, h3⟩ := hcell h0
      refine run_convert_bytes_back w 24 9 5 ad c l Try.underlying24 Try.underlying5 Try.underlying9 (fun j hj => ?_)
      rw [add_plain ad h1]
      exact h3 j _ (by simp [hj, bv])

theorem Same_calls (w : World) (u v : Value) (a b : List UInt8) (ha : Rd w 1 u a.length (a.map bv)) (hb : Rd w 1 v b.length (b.map bv)) :
    Calls Try.prog 33 #[u, v] w fun e w' => e = .returned (.bool (a == b)) ∧ w = w' := by
  have k1 := conv_bytes ha
  have k2 := conv_bytes hb
  obtain ⟨A, c, rfl, _⟩ := ha.shape
  obtain ⟨A', c', rfl, _⟩ := hb.shape
  clear ha hb
  go_enter Try.func33, Try.ntmps33
  go_wp2
  go_ret
  exact ⟨rfl, rfl⟩
theorem Same_yes (w : World) (u v : Value) (a b : List UInt8) (ha : Rd w 1 u a.length (a.map bv)) (hb : Rd w 1 v b.length (b.map bv)) (h : a = b) :
    Calls Try.prog 33 #[u, v] w fun e w' => e = .returned (.bool true) ∧ w = w' := by
  have := Same_calls w u v a b ha hb
  have e : (a == b) = true := by simp [h]
  rwa [e] at this
theorem Same_no (w : World) (u v : Value) (a b : List UInt8) (ha : Rd w 1 u a.length (a.map bv)) (hb : Rd w 1 v b.length (b.map bv)) (h : a ≠ b) :
    Calls Try.prog 33 #[u, v] w fun e w' => e = .returned (.bool false) ∧ w = w' := by
  have := Same_calls w u v a b ha hb
  have e : (a == b) = false := by simp [h]
  rwa [e] at this

/-! EncodeParts. -/
theorem PRel.closed {w wr w2 : World} {ps : List (List UInt8)} {ds : List Value} {sv sv' : Value} {o : Obj} (h : PRel w ps ds ps.length sv wr) (hds : ds.length = ps.length)
    (hdat : ∀ (i : Nat) (d : Value) (p : List UInt8), ds[i]? = some d → ps[i]? = some p → Rd w 1 d p.length (p.map bv))
    (ho : w2.ownsRow w.heap.size 26 2 sv' (ps.length + 1) (pcells ps ds ps.length ++ [.bool true, .slice none 0 0])) (hg : (wr.alloc o).grownBy w2 sv.ownBlock) :
    Steps w2 sv' (ps.map wst ++ [⟨true, []⟩]) ∧ Below w.heap.size w w2 := by
  have hb : Below w.heap.size w w2 := (h.2.alloc h.2.size o).grown hg (by simp; have := h.2.size; omega) (fun i hi => (h.1.lt i hi).1)
  refine ⟨⟨ds ++ [.slice none 0 0], by simp [hds], ?_, fun i d x g1 g2 => ?_⟩, hb⟩
  · have h1 := Rd.of_own ho
    unfold pcells at h1
    rw [List.take_length, ← hds, List.take_length, ← stepCells_append _ _ ⟨true, []⟩ _ (by simp [hds])] at h1
    simpa [hds] using h1
  · rcases Nat.lt_or_ge i ds.length with hi | hi
    · rw [List.getElem?_append_left hi] at g1
      rw [List.getElem?_append_left (by simp; omega), List.getElem?_map] at g2
      cases hp : ps[i]? with
      | none => rw [hp] at g2; cases g2
      | some p =>
        rw [hp] at g2
        simp at g2
        subst g2
        exact (hdat i d p g1 hp).keep hb
    · rw [List.getElem?_append_right hi] at g1
      rw [List.getElem?_append_right (by simp; omega)] at g2
      have e0 : i - ds.length = 0 := by
        rcases Nat.eq_zero_or_pos (i - ds.length) with h | h
        · exact h
        · rw [List.getElem?_eq_none (by simp; omega)] at g1; cases g1
      have e1 : i - (ps.map wst).length = 0 := by simp; omega
      rw [e0] at g1
      rw [e1] at g2
      simp at g1 g2
      subst g1 g2
      exact rd_nil _
theorem end_parts (bin : Bool) (ps : List (List UInt8)) : (Qp.endP none bin Qp.st0 (ps.map wst ++ [⟨true, []⟩])).got = Qp.enc bin ps.flatten := by
  have h : ∀ s, Qp.endP none bin s (ps.map wst) = Qp.write none bin s ps.flatten := by
    induction ps with
    | nil => intro s; rfl
    | cons p ps ih =>
      intro s
      show Qp.endP none bin (Qp.write none bin s p) (ps.map wst) = _
      rw [ih, List.flatten_cons, Qp.write_append]
  have e : Qp.endP none bin Qp.st0 (ps.map wst ++ [⟨true, []⟩]) = Qp.close none (Qp.endP none bin Qp.st0 (ps.map wst)) := by
    simp [Qp.endP, Qp.callP]
  rw [e, h]; rfl
theorem ptot_flatten (ps : List (List UInt8)) : ps.flatten.length ≤ ptot ps := by
  induction ps with
  | nil => simp [ptot]
  | cons p ps ih => simp only [List.flatten_cons, List.length_append, ptot]; omega

set_option maxHeartbeats 2000000 in
theorem EncodeParts_calls (w : World) (bin : Bool) (pv : Value) (ps : List (List UInt8)) (hp : Parts w pv ps) (ht : ptot ps ≤ 8388608) : Calls Try.prog 32 #[.bool bin, pv] w (NewBytes w (Qp.enc bin ps.flatten)) := by
  obtain ⟨i0, hi, hz0, hz1, hz2⟩ := info_parts info26
  obtain ⟨ds, hds, hrd, hdat⟩ := hp
  obtain ⟨A, c, rfl, hc⟩ := hrd.shape
  have hpl := ptot_len ps
  have HD := Lib.hid hdat
  have HR := Lib.hid hrd
  have HDS := Lib.hid hds
  have HST := Lib.hid (PRel.start w ps ds)
  clear hdat hrd hds
  go_enter Try.func32, Try.ntmps32
  go_wp2_with fail
  go_loopw [5, 13] (fun sv i wr => ∃ k : Nat, k ≤ ps.length ∧ i = .int .i64 k ∧ PRel w ps ds k sv wr) (fun _ i _ => ps.length - (intOf i).toNat)
  case atStart => exact ⟨0, Nat.zero_le _, rfl, HST.out⟩
  case round =>
    obtain ⟨k, hk, rfl, hrel⟩ := hrel
    clear HST
    by_cases hkl : k < ps.length
    · obtain ⟨ab, ao, rfl, hab, hcell⟩ := (HR.out.keep hrel.2).get hkl
      obtain ⟨p, hp⟩ : ∃ p, ps[k]? = some p := ⟨ps[k], by simp [hkl]⟩
      obtain ⟨d, hd⟩ : ∃ d, ds[k]? = some d := ⟨ds[k]'(by rw [HDS.out]; exact hkl), by rw [List.getElem?_eq_getElem]⟩
      have c1 := hcell k d hd
      obtain ⟨dA, dc, rfl, _⟩ := (HD.out k d p hd hp).shape
      have hsz := hrel.2.size
      have H1 := Lib.hid hrel
      have HP := Lib.hid hp
      have HDD := Lib.hid hd
      clear hrel hcell hp hd
      go_wp2_with (at_builtin; refine wpList_app _ rfl _ _ 23 rfl w.heap.size 26 i0 (.agg #[.bool false, .slice none 0 0]) 2 32 Try.underlying23 hi hz0 hz1 hz2 rfl (by decide) u5 k _ rfl (H1.out.1.alloc _) (.slice (some ⟨wr.heap.size, 0, none⟩) 1 1) 1 [.bool false, .slice dA p.length dc] rfl (rd_two wr _ _) (two_one _ _ _ _) (by unfold maxLen; omega) (by omega) (by simp; omega) ?_)
      intro v' w1 g1 g2 _
      have R := PRel.next H1.out HP.out HDD.out g1 g2
      have HRR := Lib.hid R
      clear R g1 g2
      go_wp2
      go_roundw
      case rel => exact ⟨k + 1, by omega, by go_num, HRR.out⟩
      case measure => simp [intOf]; omega
    · have hke : k = ps.length := by omega
      subst hke
      have hsz := hrel.2.size
      have H1 := Lib.hid hrel
      clear hrel
      go_wp2_with (at_builtin; refine wpList_app _ rfl _ _ 23 rfl w.heap.size 26 i0 (.agg #[.bool false, .slice none 0 0]) 2 32 Try.underlying23 hi hz0 hz1 hz2 rfl (by decide) u5 ps.length _ rfl (H1.out.1.alloc _) (.slice (some ⟨wr.heap.size, 0, none⟩) 1 1) 1 [.bool true, .slice none 0 0] rfl (rd_two wr _ _) (two_one _ _ _ _) (by unfold maxLen; omega) (by omega) (by simp; omega) ?_)
      intro v' w1 g1 g2 _
      obtain ⟨hS, hb1⟩ := PRel.closed H1.out HDS.out HD.out g1 g2
      have HC := Lib.hid (Run_calls w1 bin v' _ hS (by rw [tot_append, tot_wst]; simp [tot]; omega))
      have HB := Lib.hid hb1
      clear hS hb1 g1 g2
      go_wp2_with fail
      refine HC.out.mono ?_
      intro e w2 h
      obtain ⟨v1, va, al, rfl, h1, h2, h3, _⟩ := h
      rw [end_parts] at h1
      have hN : NewBytes w (Qp.enc bin ps.flatten) (.returned v1) w2 := NewRow.bytes ⟨v1, rfl, own_base h1 HB.out.size, bel_old HB.out h3⟩
      have HN := Lib.hid hN
      clear h1 h2 h3 hN
      go_wp2
      go_ret
      exact HN.out
end Go.Proofs.Ytgdfbnedmifjlaa
