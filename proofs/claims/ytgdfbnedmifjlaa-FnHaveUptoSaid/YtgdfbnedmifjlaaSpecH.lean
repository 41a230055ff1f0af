/- written of the laws, Begins of the reference. -/
import Derived.Test.YtgdfbnedmifjlaaGrow
import Derived.Test.YtgdfbnedmifjlaaPlainD
import Derived.Deep.QuietTactic
import Derived.BigQuiet
namespace Go.Proofs.Ytgdfbnedmifjlaa
open Go.RowKit

/-! Begins. -/
theorem rd_take {w : World} {A : Option Addr} {c n : Nat} {l : List UInt8} (h : Rd w 1 (.slice A l.length c) l.length (l.map bv)) (hn : n ≤ l.length) : Rd w 1 (.slice A n c) (l.take n).length ((l.take n).map bv) := by
  have e : (l.take n).length = n := by simp; omega
  rw [e]
  refine ⟨by simp; omega, ?_⟩
  rcases h.2 with ⟨h1, h2⟩ | ⟨ad, c', h1, h2, h3⟩
  · injection h1 with h1 h4 h5
    have hn0 : n = 0 := by omega
    subst h1 h5 hn0
    exact .inl ⟨rfl, rfl⟩
  · injection h1 with h1 h4 h5
    subst h1 h5
    refine .inr ⟨ad, c, rfl, by omega, fun h0 => ?_⟩
    obtain ⟨g1, g2, g3⟩ := h3 (by omega)
    refine ⟨g1, g2, fun j u hu => g3 j u ?_⟩
    rw [← hu]
    have hj : j < n := by
      have := (List.getElem?_eq_some_iff.1 hu).1
      simp at this; omega
    simp [List.getElem?_map, hj]
theorem rd_drewN {w : World} {size n k : Nat} {v : Value} {xs : List Value} (h : Rd w size v n xs) : Rd (w.drewN k) size v n xs := h

theorem Begins_yes (w : World) (u v : Value) (s h : List UInt8) (hs : Rd w 1 u s.length (s.map bv)) (hh : Rd w 1 v h.length (h.map bv)) (hp : h <+: s) :
    Calls Try.prog 31 #[u, v] w fun e w' => e = .returned (.bool true) ∧ ∃ n, w' = w.drewN n := by
  have hle : h.length ≤ s.length := hp.length_le
  obtain ⟨A, c, rfl, hc⟩ := hs.shape
  obtain ⟨A', c', rfl, hc'⟩ := hh.shape
  have k1 : ∀ n, (convert 24 9 (.slice A h.length c)).run Try.prog (w.drewN n) = .ok (.string ⟨h.toArray⟩) (w.drewN n) := by
    intro n
    have := conv_bytes (w := w.drewN n) (rd_take hs hle)
    rwa [Qp.take_of_prefix hp] at this
  have k2 : ∀ n, (convert 24 9 (.slice A' h.length c')).run Try.prog (w.drewN n) = .ok (.string ⟨h.toArray⟩) (w.drewN n) := fun n => conv_bytes (w := w.drewN n) hh
  have hle' : (h.length : Int) ≤ (s.length : Int) := by omega
  have hle2 : (h.length : Int) ≤ (c : Int) := by omega
  clear hs hh hp
  cases A with
  | none =>
    go_enter Try.func31, Try.ntmps31
    go_wp2_with fail
    go_quiet (fail)
    go_wp2
    go_ret
    exact ⟨rfl, _, rfl⟩
  | some ad =>
    go_enter Try.func31, Try.ntmps31
    go_wp2_with fail
    go_quiet (fail)
    go_wp2
    go_ret
    exact ⟨rfl, _, rfl⟩

/-! written. -/
theorem wdata_take (xs : List Qp.Stp) (k : Nat) (x : Qp.Stp) (h : xs[k]? = some x) : Qp.wdata (xs.take (k + 1)) = Qp.wdata (xs.take k) ++ (if x.cl then [] else x.data) := by
  rw [List.take_add_one, h, Qp.wdata_append]
  simp [Qp.wdata]
theorem wdata_tot (xs : List Qp.Stp) : (Qp.wdata xs).length ≤ tot xs := by
  induction xs with
  | nil => simp [Qp.wdata]
  | cons x xs ih =>
    have e : Qp.wdata (x :: xs) = (if x.cl then [] else x.data) ++ Qp.wdata xs := by simp [Qp.wdata]
    rw [e]
    simp only [List.length_append, tot]
    split <;> simp <;> omega
theorem tot_take (xs : List Qp.Stp) (k : Nat) : tot (xs.take k) ≤ tot xs := by
  have e : tot xs = tot (xs.take k) + tot (xs.drop k) := by rw [← tot_append, List.take_append_drop]
  omega
theorem tot_at (xs : List Qp.Stp) : ∀ (k : Nat) (x : Qp.Stp), xs[k]? = some x → x.data.length ≤ tot xs := by
  induction xs with
  | nil => intro k x h; simp at h
  | cons y xs ih =>
    intro k x h
    cases k with
    | zero => simp at h; subst h; simp only [tot]; omega
    | succ k => have := ih k x (by simpa using h); simp only [tot]; omega
theorem ends_of (xs : List Qp.Stp) (h0 : 0 < xs.length) (h : ∀ (i : Nat) (x : Qp.Stp), xs[i]? = some x → x.cl = decide (i + 1 = xs.length)) : Qp.Ends xs := by
  rcases List.eq_nil_or_concat xs with rfl | ⟨ys, z, rfl⟩
  · simp at h0
  · rw [List.concat_eq_append] at h ⊢
    refine ⟨ys, z, rfl, ?_, fun y hy => ?_⟩
    · have := h ys.length z (by simp)
      rw [this]; simp
    · obtain ⟨i, hi, rfl⟩ := List.mem_iff_getElem.1 hy
      have := h i ys[i] (by rw [List.getElem?_append_left hi, List.getElem?_eq_getElem hi])
      rw [this]
      simp; omega
/-- What written leaves. -/
def WnPost (w : World) (xs : List Qp.Stp) (e : Ending) (w' : World) : Prop :=
  ∃ A n c b, e = .returned (.tuple #[.slice A n c, .bool b]) ∧ Below w.heap.size w w' ∧ (b = true → Qp.Ends xs ∧ n = (Qp.wdata xs).length ∧ Rd w' 1 (.slice A (Qp.wdata xs).length c) (Qp.wdata xs).length ((Qp.wdata xs).map bv))
/-- What holds at the head of each round. -/
def WnRel (w : World) (xs : List Qp.Stp) (k : Nat) (v : Value) (wr : World) : Prop :=
  Grow w (Qp.wdata (xs.take k)) v wr ∧ ∀ (i : Nat) (x : Qp.Stp), i < k → xs[i]? = some x → x.cl = decide (i + 1 = xs.length)
theorem WnRel.step {w wr w2 : World} {xs : List Qp.Stp} {k : Nat} {v v2 : Value} {x : Qp.Stp} (h : WnRel w xs k v wr) (hx : xs[k]? = some x) (hc : x.cl = decide (k + 1 = xs.length))
    (hg : Grow w (Qp.wdata (xs.take k) ++ (if x.cl then [] else x.data)) v2 w2) : WnRel w xs (k + 1) v2 w2 := by
  refine ⟨by rw [wdata_take xs k x hx]; exact hg, fun i y hi hy => ?_⟩
  rcases Nat.lt_or_ge i k with h1 | h1
  · exact h.2 i y h1 hy
  · have e : i = k := by omega
    subst e
    rw [hx] at hy
    injection hy with hy
    subst hy
    exact hc

set_option maxHeartbeats 4000000 in
theorem written_calls (w : World) (sv : Value) (xs : List Qp.Stp) (hs : Steps w sv xs) (ht : tot xs ≤ 16777216) : Calls Try.prog 30 #[sv] w (WnPost w xs) := by
  obtain ⟨i0, hi, hz0, hz1, hz2⟩ := info_parts info5
  obtain ⟨ds, hds, hrd, hdat⟩ := hs
  obtain ⟨A, c, rfl, hc⟩ := hrd.shape
  have hxl := tot_len xs
  have HD := Lib.hid hdat
  have HR := Lib.hid hrd
  have HDS := Lib.hid hds
  have hst : WnRel w xs 0 (.slice (some ⟨w.heap.size, 0, none⟩) 0 0) (w.alloc (.cells #[] 5)) := ⟨Grow.start w, fun i x h => by omega⟩
  have HST := Lib.hid hst
  clear hdat hrd hds hst
  go_enter Try.func30, Try.ntmps30
  go_wp2_with fail
  go_loopw [4, 10] (fun v i wr => ∃ k : Nat, k ≤ xs.length ∧ i = .int .i64 k ∧ WnRel w xs k v wr) (fun _ i _ => xs.length - (intOf i).toNat)
  case atStart => exact ⟨0, Nat.zero_le _, rfl, HST.out⟩
  case round =>
    obtain ⟨k, hk, rfl, hrel⟩ := hrel
    clear HST
    have hbel := hrel.1.2
    have hsz := hbel.size
    by_cases hkl : k < xs.length
    · obtain ⟨ab, ao, rfl, hab, hcell⟩ := (HR.out.keep hbel).get hkl
      obtain ⟨x, hx⟩ : ∃ x, xs[k]? = some x := ⟨xs[k], by simp [hkl]⟩
      obtain ⟨d, hd⟩ : ∃ d, ds[k]? = some d := ⟨ds[k]'(by rw [HDS.out]; exact hkl), by rw [List.getElem?_eq_getElem]⟩
      obtain ⟨g1, g2⟩ := stepCells_at xs ds k x d hx hd
      have c1 := hcell _ _ g1
      have c2 := hcell _ _ g2
      have hdr := (HD.out k d x hd hx).keep hbel
      obtain ⟨dA, dc, rfl, _⟩ := hdr.shape
      rw [← Nat.add_assoc] at c2
      have hxd := tot_at xs k x hx
      have hwt : (Qp.wdata (xs.take k)).length ≤ tot xs := Nat.le_trans (wdata_tot _) (tot_take xs k)
      have hq : ((k : Int) == (xs.length : Int) - 1) = decide (k + 1 = xs.length) := by
        rw [Bool.eq_iff_iff]; simp; omega
      have HREL := Lib.hid hrel
      have HX := Lib.hid hx
      have HDR := Lib.hid hdr
      have HB := Lib.hid hbel
      clear hcell hx hd g1 g2 hdr hrel hbel
      cases hcl : x.cl with
      | true =>
        rw [hcl] at c1
        cases hql : decide (k + 1 = xs.length) with
        | true =>
          have hN : WnRel w xs (k + 1) u4 (wr.alloc (.cells #[.bool true, .slice dA x.data.length dc] 26)) := by
            refine HREL.out.step HX.out (by rw [hcl, hql]) ?_
            rw [hcl]
            have := HREL.out.1.alloc (.cells #[.bool true, .slice dA x.data.length dc] 26)
            simpa using this
          have HN := Lib.hid hN
          rw [hql] at hq
          clear hN hcl hql
          go_wp2_with fail
          go_roundw
          case rel => exact ⟨k + 1, by omega, by go_num, HN.out⟩
          case measure => simp [intOf]; omega
        | false =>
          rw [hql] at hq
          have HBN := Lib.hid (bel_new HB.out (.cells #[.bool true, .slice dA x.data.length dc] 26))
          clear hcl hql
          go_wp2_with fail
          go_ret2
          exact ⟨_, _, _, _, rfl, HBN.out, fun h => by cases h⟩
      | false =>
        rw [hcl] at c1
        cases hql : decide (k + 1 = xs.length) with
        | true =>
          rw [hql] at hq
          have HBN := Lib.hid (bel_new HB.out (.cells #[.bool false, .slice dA x.data.length dc] 26))
          clear hcl hql
          go_wp2_with fail
          go_ret2
          exact ⟨_, _, _, _, rfl, HBN.out, fun h => by cases h⟩
        | false =>
          have HCC : Hid (x.cl = decide (k + 1 = xs.length)) := Lib.hid (by rw [hcl, hql])
          have HCL := Lib.hid hcl
          rw [hql] at hq
          have HG := Lib.hid (HREL.out.1.alloc (.cells #[.bool false, .slice dA x.data.length dc] 26))
          clear hcl hql
          generalize hwd : Qp.wdata (xs.take k) = wd at *
          have HWD := Lib.hid hwd
          clear hwd
          go_wp2_with (at_builtin; refine wpList_app _ rfl (.tmp 26) (.tmp 28) 24 rfl w.heap.size 5 i0 (.int .u8 0) 1 1 Try.underlying24 hi hz0 hz1 hz2 rfl (by decide) u4 wd.length (wd.map bv) rfl HG.out.1 (.slice dA x.data.length dc) x.data.length (x.data.map bv) rfl (HDR.out.alloc _) (bvs_one _) (by unfold maxLen; omega) (by omega) (by simp; omega) ?_)
          intro v2 w2 q1 q2 _
          have hN : WnRel w xs (k + 1) v2 w2 := by
            refine HREL.out.step HX.out HCC.out ?_
            rw [HCL.out, HWD.out]
            exact HG.out.app _ q1 q2
          have HN := Lib.hid hN
          clear hN q1 q2
          go_wp2
          go_roundw
          case rel => exact ⟨k + 1, by omega, by go_num, HN.out⟩
          case measure => simp [intOf]; omega
    · have hke : k = xs.length := by omega
      have hg := hrel.1
      have hall := hrel.2
      rw [hke, List.take_length] at hg
      rw [hke] at hall
      obtain ⟨dA, dc, e, _, hd, hb⟩ := hg.bytes
      injection e with e
      by_cases h0 : 0 < xs.length
      · have h0' : (0 : Int) < (xs.length : Int) := by omega
        have hP : WnPost w xs (.returned (.tuple #[u4, .bool true])) wr := ⟨dA, _, dc, true, by rw [e], hb, fun _ => ⟨ends_of xs h0 (fun i x hx => hall i x (List.getElem?_eq_some_iff.1 hx).1 hx), rfl, hd⟩⟩
        have HP := Lib.hid hP
        clear hP hg hall hd hb e hrel hbel hke
        go_wp2
        go_ret2
        exact HP.out
      · have h0' : ¬ (0 : Int) < (xs.length : Int) := by omega
        have hP : WnPost w xs (.returned (.tuple #[u4, .bool false])) wr := ⟨dA, _, dc, false, by rw [e], hb, fun h => by cases h⟩
        have HP := Lib.hid hP
        clear hP hg hall hd hb e hrel hbel hke
        go_wp2
        go_ret2
        exact HP.out
end Go.Proofs.Ytgdfbnedmifjlaa
