/- FnLimited: with an underlying writer that takes no more than so many bytes, the same script gives the whole form if that has no more bytes; otherwise the last call that is made fails, and the underlying writer has a beginning of the whole form, where what comes in is of bulk at most 1048576. -/
import Derived.Test.YtgdfbnedmifjlaaCounts
import Derived.Test.YtgdfbnedmifjlaaSpecG
import Derived.Test.YtgdfbnedmifjlaaFull
import Derived.Test.YtgdfbnedmifjlaaHead
namespace Go.Proofs.Ytgdfbnedmifjlaa.fnLimited
open Go.RowKit Go.ChangeShapes Go.WideShapes Go.ChangeAt

theorem cnt_end {L : Option Nat} {bin : Bool} {xs : List Qp.Stp} {n : Nat} (h : Cnt L bin xs n) : Qp.endP L bin Qp.st0 (xs.take n) = Qp.endP L bin Qp.st0 xs := by
  cases hb : (Qp.endP L bin Qp.st0 xs).bad with
  | false => rw [h.all hb, List.take_length]
  | true => obtain ⟨k, hk, hke⟩ := h.last hb; rw [hk]; exact hke

set_option maxHeartbeats 4000000 in
theorem walk (w : World) (bin : Bool) (most : Int) (u : Value) (xs : List Qp.Stp) (hm : -9223372036854775808 ≤ most ∧ most ≤ 9223372036854775807) (hs : Steps w u xs) (ht : tot xs ≤ 1048576) : Calls Try.prog 7 #[.bool bin, .int .i64 most, u] w (Yes w) := by
  have hxl := tot_len xs
  have hwt := wdata_tot xs
  have HC0 := Lib.hid (written_calls w u xs hs (by omega))
  have HStep := Lib.hid hs
  obtain ⟨sA, sc, rfl, _⟩ : ∃ A c, u = .slice A xs.length c ∧ xs.length ≤ c := by obtain ⟨_, _, h, _⟩ := hs; exact h.shape
  clear hs
  go_enter Try.func7, Try.ntmps7
  go_wp2_with fail
  refine HC0.out.mono ?_
  intro e w1 h
  obtain ⟨dA, dn, dc, b, rfl, hb1, hpost⟩ := h
  have HB1 := Lib.hid hb1
  clear hb1 HC0
  cases b with
  | false =>
    clear hpost
    go_wp2
    go_ret
    exact ⟨rfl, HB1.out⟩
  | true =>
    obtain ⟨hends, rfl, hdata⟩ := hpost rfl
    have h0 : 0 < xs.length := by obtain ⟨ys, z, rfl, _⟩ := hends; simp
    have hgot := Qp.end_script bin xs hends
    have HF := Lib.hid (fixed_calls w1 bin _ (Qp.wdata xs) hdata (by omega))
    have HData := Lib.hid hdata
    clear hpost hends hdata
    generalize Qp.wdata xs = data at *
    cases hp : (bin || Qp.paired data) with
    | false =>
      rw [hp] at HF
      clear hp
      go_wp2_with fail
      refine HF.out.mono ?_
      rintro e w' ⟨rfl, rfl⟩
      go_wp2
      go_ret
      exact ⟨rfl, HB1.out⟩
    | true =>
      have HC2 := Lib.hid (Encoded_calls w1 bin _ data HData.out (by omega) hp)
      rw [hp] at HF
      clear hp
      by_cases hneg : most < 0
      · go_wp2_with fail
        refine HF.out.mono ?_
        rintro e w' ⟨rfl, rfl⟩
        go_wp2
        go_ret
        exact ⟨rfl, HB1.out⟩
      obtain ⟨m, rfl⟩ : ∃ m : Nat, most = (m : Int) := ⟨most.toNat, by omega⟩
      have HC3 := Lib.hid (fun w' (h : Below w.heap.size w w') => Limited_calls w' bin m (by omega) _ xs (HStep.out.keep h) (by omega))
      have hpre := Qp.rel_prefix (Qp.lim_rel bin m none trivial xs)
      have hfits := Qp.lim_fits bin m xs
      have hfails := Qp.lim_fails bin m xs
      have hfine := Qp.end_fine bin xs
      rw [hgot] at hpre hfits hfails
      have HPre := Lib.hid hpre
      have HFits := Lib.hid hfits
      have HFails := Lib.hid hfails
      have HGot := Lib.hid hgot
      have HFine := Lib.hid hfine
      clear hpre hfits hfails hgot hfine HStep
      generalize Qp.enc bin data = x at *
      go_wp2_with fail
      refine HF.out.mono ?_
      rintro e w' ⟨rfl, rfl⟩
      go_wp2_with fail
      refine HC2.out.mono ?_
      intro e w2 h
      obtain ⟨xA, xc, rfl, _, hx, hb2⟩ := h
      have HX := Lib.hid hx
      have HB2 := Lib.hid (bel_old HB1.out hb2)
      clear hx hb2 HC2 HF
      go_wp2_with fail
      refine (HC3.out w2 HB2.out).mono ?_
      intro e w3 h
      obtain ⟨oA, oc, gA, gc, al, he, ho, hans, hb3, hcnt, hok⟩ := run_out h
      obtain ⟨n1, hn1⟩ : ∃ n1, al.length = n1 + 1 := ⟨al.length - 1, by have := hcnt.pos h0; omega⟩
      rw [hn1] at he hans hcnt
      subst he
      have hle := hcnt.le
      have hend := cnt_end hcnt
      have hlast : ∃ a, al[n1]? = some a ∧ a.bad = (Qp.endP (some m) bin Qp.st0 xs).bad ∧ a.hv = (Qp.endP (some m) bin Qp.st0 xs).got.length := by
        have g1 : al[n1]? = some (al[n1]'(by omega)) := List.getElem?_eq_getElem _
        have g2 : xs[n1]? = some (xs[n1]'(by omega)) := List.getElem?_eq_getElem _
        obtain ⟨g3, g4, _⟩ := hok n1 _ _ g1 g2
        rw [hend] at g3 g4
        exact ⟨_, g1, g3, g4⟩
      have hother : ∀ (k : Nat), k < n1 → ∃ a, al[k]? = some a ∧ a.bad = false := by
        intro k hk
        have g1 : al[k]? = some (al[k]'(by omega)) := List.getElem?_eq_getElem _
        have g2 : xs[k]? = some (xs[k]'(by omega)) := List.getElem?_eq_getElem _
        obtain ⟨g3, _⟩ := hok k _ _ g1 g2
        exact ⟨_, g1, by rw [g3]; exact hcnt.fine k (by omega)⟩
      have hall : (Qp.endP (some m) bin Qp.st0 xs).bad = false → n1 + 1 = xs.length := hcnt.all
      obtain ⟨rb, ro, rfl, hrb, hcell⟩ := hans.get (k := 0) (by omega)
      have hgc : n1 + 1 ≤ gc := by
        obtain ⟨_, _, e1, e2⟩ := hans.shape
        injection e1 with _ _ e1
        omega
      have HO := Lib.hid ho
      have HLast := Lib.hid hlast
      have HOther := Lib.hid hother
      have HAll := Lib.hid hall
      have HCell := Lib.hid hcell
      have HRb := Lib.hid hrb
      have HX3 := Lib.hid (HX.out.keep hb3)
      have HB3 := Lib.hid (bel_old HB2.out hb3)
      have HLen := Lib.hid hn1
      clear h ho hans hb3 hcnt hok hend hlast hother hall hcell hrb HX HB2 HC3 hn1
      generalize Qp.endP (some m) bin Qp.st0 xs = st at *
      have HBeg := Lib.hid (Begins_yes w3 _ _ x st.got HX3.out HO.out HPre.out)
      have z1 : ((n1 : Int) + 1 == 0) = false := beq_eq_false_iff_ne.2 (by omega)
      have z2 : ¬ (xs.length : Int) < (n1 : Int) + 1 := by omega
      go_wp2_with fail
      refine HBeg.out.mono ?_
      rintro e w' ⟨rfl, nd, rfl⟩
      have HB4 := Lib.hid (bel_drewN HB3.out nd)
      have HX4 := Lib.hid (rd_drewN (k := nd) HX3.out)
      have HO4 := Lib.hid (rd_drewN (k := nd) HO.out)
      have HC4 : Hid (∀ (j : Nat) (u : Value), (ansCells al)[j]? = some u → (w3.drewN nd).cell? ⟨rb, ro + j, none⟩ = some u) := HCell
      have HRb4 : Hid (rb < (w3.drewN nd).heap.size) := HRb
      generalize w3.drewN nd = w4 at *
      clear HBeg HX3 HO HB3 HCell HRb
      go_wp2_with fail
      go_loopw [64] (fun i wr => ∃ k : Nat, k ≤ n1 ∧ i = .int .i64 k ∧ Below w4.heap.size w4 wr) (fun i _ => n1 - (intOf i).toNat)
      case atStart => exact ⟨0, Nat.zero_le _, rfl, Below.refl _ _⟩
      case round =>
        obtain ⟨k, hk, rfl, hb⟩ := hrel
        by_cases hkl : k < n1
        · obtain ⟨a, ha, hab⟩ := HOther.out k hkl
          obtain ⟨g1, g2, g3⟩ := ansCells_at al k a ha
          rw [hab] at g2
          have c1 := (hb.cell (p := ⟨rb, ro + k * 3, none⟩) HRb4.out).trans (HC4.out _ _ g1)
          have c2 := (hb.cell (p := ⟨rb, ro + (k * 3 + 1), none⟩) HRb4.out).trans (HC4.out _ _ g2)
          have c3 := (hb.cell (p := ⟨rb, ro + (k * 3 + 2), none⟩) HRb4.out).trans (HC4.out _ _ g3)
          rw [← Nat.add_assoc] at c2 c3
          have HB5 := Lib.hid hb
          clear ha hab g1 g2 g3 hb
          go_wp2_with fail
          go_roundw
          case rel => exact ⟨k + 1, by omega, by go_num, bel_new HB5.out _⟩
          case measure => simp [intOf]; omega
        · obtain ⟨a, ha, hab, hah⟩ := HLast.out
          obtain ⟨g1, g2, g3⟩ := ansCells_at al n1 a ha
          rw [hab] at g2
          rw [hah] at g3
          have c1 := (hb.cell (p := ⟨rb, ro + n1 * 3, none⟩) HRb4.out).trans (HC4.out _ _ g1)
          have c2 := (hb.cell (p := ⟨rb, ro + (n1 * 3 + 1), none⟩) HRb4.out).trans (HC4.out _ _ g2)
          have c3 := (hb.cell (p := ⟨rb, ro + (n1 * 3 + 2), none⟩) HRb4.out).trans (HC4.out _ _ g3)
          rw [← Nat.add_assoc] at c2 c3
          have HB5 := Lib.hid hb
          clear ha hab hah g1 g2 g3
          by_cases hfit : x.length ≤ m
          · have hst := HFits.out hfit
            have hsb : st.bad = false := by rw [hst]; exact HFine.out
            have hsg : st.got = x := by rw [hst]; exact HGot.out
            have hnn := HAll.out hsb
            rw [hsb] at c2
            have hfit' : (x.length : Int) ≤ (m : Int) := by omega
            have z3 : ((n1 : Int) + 1 == (xs.length : Int)) = true := by rw [← hnn]; simp
            have HS := Lib.hid (fun o => Same_yes (wr.alloc o) _ _ st.got x ((HO4.out.keep hb).alloc o) ((HX4.out.keep hb).alloc o) hsg)
            clear hst hsb hsg hnn hb
            go_wp2_with fail
            refine (HS.out _).mono ?_
            rintro e w' ⟨rfl, rfl⟩
            go_wp2
            go_ret
            exact ⟨rfl, bel_old HB4.out (bel_new HB5.out _)⟩
          · have hsb := HFails.out (by omega)
            rw [hsb] at c2
            have hfit' : ¬ (x.length : Int) ≤ (m : Int) := by omega
            clear hsb hb
            go_wp2
            go_ret
            exact Yes.of (by simp) (bel_old HB4.out (bel_new HB5.out _))

theorem contract (H : Type) (enc : TypeId × Value → H) (W : World) (base : Nat) (args : Array Value) (ds gs : List (DataW H)) (before : List MemPlace)
    (hval : ∀ (j : Nat) t v, Try.f7.params[j]? = some t → args[j]? = some v → Value.okWide Try.prog W .any base t v)
    (hW : DataW.Whole enc Try.prog Try.f7.params.toList Rows.fnLimitedSpec.vars false W args.toList ds gs before) (hk : Rows.uptoSmall H (ds ++ gs) = true) :
    Calls Try.prog 7 args W fun e W' => ∃ v, e = .returned v ∧ Rows.fnLimitedSpec.post enc Try.prog Try.f7 false true false false W args v W' := by
  have hW' := hW
  have hlt := hW.lt
  obtain ⟨p, q, hA0, hV, rfl, _, _⟩ := hW
  have hA : DataW.TrodAll enc Try.prog W 0 (fun _ => true) true Try.f7.params.toList args.toList ds p := hA0
  rw [Try.params7] at hA hval
  obtain ⟨v0, vs0, d0, ds0, p0, q0, hargs, rfl, rfl, h0, r0⟩ := trodAll_cons hA
  obtain ⟨v1, vs1, d1, ds1, p1, q1, rfl, rfl, rfl, h1, r1⟩ := trodAll_cons r0
  obtain ⟨v2, vs2, d2, ds2, p2, q2, rfl, rfl, rfl, h2, r2⟩ := trodAll_cons r1
  obtain ⟨rfl, rfl, rfl⟩ := trodAll_nil r2
  obtain rfl : args = #[v0, v1, v2] := by cases args; simp_all
  obtain ⟨rfl, rfl⟩ := trodVars_none hV
  have hbulk := bulk_of hk
  obtain ⟨a0, rfl, _, _⟩ := open_bool Try.underlying4 (hval 0 4 v0 rfl rfl) h0
  obtain ⟨a1, rfl, _, _, w1⟩ := open_int Try.underlying3 (hval 1 3 v1 rfl rfl) h1
  obtain ⟨l2, g2, b2⟩ := open_steps (hval 2 23 v2 rfl rfl) h2 (fun y hy => hlt y (by simp [hy]))
  simp only [List.append_nil, Rows.uptoBulkAll] at hbulk
  refine (walk W a0 a1 v2 l2 (int_range w1) g2 (by omega)).mono fun e W' ⟨he, hg⟩ => ?_
  subst he
  exact ⟨_, rfl, law_post hW' rfl rfl rfl rfl rfl (by rw [Try.params7]; intro t ht; simp at ht; rcases ht with rfl | rfl | rfl <;> exact ⟨by kernel_rfl, of_decide_eq_true (by kernel_rfl)⟩) hg⟩

set_option maxRecDepth 100000 in
theorem lifted (os : Os) (started : os.Started) (H : Type) (enc : TypeId × Value → H) (F : Stop.Interp) :
    ReturnsInHanded {} Try.checked os 7 .any ((Rows.OpenSpec.upto Rows.fnLimitedSpec).pre6 enc Try.prog Try.f7 Rows.fnLimitedUptoRow.domain false) (((Rows.OpenSpec.upto Rows.fnLimitedSpec).at F).post enc Try.prog Try.f7 false true false false) := by
  refine returnsInHanded_of_cond (C := Try.checked) (s := Rows.OpenSpec.upto Rows.fnLimitedSpec) (k := Rows.uptoSmall) rfl Try.ownk started (by kernel_rfl) Try.func7
    (OpenSpec.witness (enc := enc) (C := Try.checked) (s := Rows.OpenSpec.upto Rows.fnLimitedSpec) (k := Rows.uptoSmall) rfl false ⟨#[], #[.bool false, .int .i64 0, .slice none 0 0], []⟩ 8 (by kernel_rfl) (by kernel_rfl) (by kernel_rfl)
      (x := ([.lit (.bool false), .lit (.int .i64 0), .nil], [], [])) (by kernel_rfl) rfl (by kernel_rfl)) ?_
  intro W base args ds gs before hval hW _ hk _
  exact contract H enc W base args ds gs before hval hW hk

theorem closed : joinedFacts Try.prog 7 Try.f7 (Rows.OpenSpec.upto Rows.fnLimitedSpec).bare Rows.fnLimitedUptoRow = true := by
  unfold joinedFacts
  rw [enters, lifts_no, make_cut]
  kernel_rfl

theorem proved : Rows.FnLimitedUptoSaid :=
  OpenClaim.holds_of_cond 7 Try.f7 rfl rfl rfl rfl rfl rfl rfl ⟨rfl, rfl, rfl, rfl, rfl⟩ rfl rfl rfl rfl rfl (by kernel_rfl) Try.func7 closed
    (of_decide_eq_true (by kernel_rfl)) (by unfold Func.isWrapper; rw [if_neg (of_decide_eq_false (by kernel_rfl))]; exact ⟨rfl, rfl⟩)
    (fun os started H enc _ F => lifted os started H enc F)
end Go.Proofs.Ytgdfbnedmifjlaa.fnLimited
