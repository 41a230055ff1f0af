/- FnCounts: each Write tells that all of its bytes were written, and none tells an error, where what comes in is of bulk at most 1048576. -/
import Derived.Test.YtgdfbnedmifjlaaReads
import Derived.Test.YtgdfbnedmifjlaaHead
namespace Go.Proofs.Ytgdfbnedmifjlaa.fnCounts
open Go.RowKit Go.ChangeShapes Go.WideShapes Go.ChangeAt

set_option maxHeartbeats 2000000 in
theorem walk (w : World) (bin : Bool) (pv : Value) (ps : List (List UInt8)) (hp : Parts w pv ps) (ht : ptot ps ≤ 1048576) : Calls Try.prog 3 #[.bool bin, pv] w (Yes w) := by
  obtain ⟨i0, hi, hz0, hz1, hz2⟩ := info_parts info26
  obtain ⟨ds, hds, hrd, hdat⟩ := hp
  obtain ⟨A, c, rfl, hc⟩ := hrd.shape
  have hpl := ptot_len ps
  have HD := Lib.hid hdat
  have HR := Lib.hid hrd
  have HDS := Lib.hid hds
  have HST := Lib.hid (PRel.start w ps ds)
  clear hdat hrd hds
  go_enter Try.func3, Try.ntmps3
  go_wp2_with fail
  go_loopw [5, 15] (fun sv i wr => ∃ k : Nat, k ≤ ps.length ∧ i = .int .i64 k ∧ PRel w ps ds k sv wr) (fun _ i _ => ps.length - (intOf i).toNat)
  case atStart => exact ⟨0, Nat.zero_le _, rfl, HST.out⟩
  case round =>
    obtain ⟨k, hk, rfl, hrel⟩ := hrel
    clear HST
    by_cases hkl : k < ps.length
    · obtain ⟨ab, ao, rfl, hab, hcell⟩ := (HR.out.keep hrel.2).get hkl
      obtain ⟨p, hp⟩ : ∃ p, ps[k]? = some p := ⟨ps[k], by simp [hkl]⟩
      obtain ⟨d, hd⟩ : ∃ d, ds[k]? = some d := ⟨ds[k]'(by rw [HDS.out]; exact hkl), by rw [List.getElem?_eq_getElem]⟩
      have c1 := hcell k d hd
      obtain ⟨dA, dc, rfl, _⟩ := (HD.out k d p hd hp).shape
      have hsz := hrel.2.size
      have H1 := Lib.hid hrel
      have HP := Lib.hid hp
      have HDD := Lib.hid hd
      clear hrel hcell hp hd
      go_wp2_with (at_builtin; refine wpList_app _ rfl _ _ 23 rfl w.heap.size 26 i0 (.agg #[.bool false, .slice none 0 0]) 2 32 Try.underlying23 hi hz0 hz1 hz2 rfl (by decide) u5 k _ rfl (H1.out.1.alloc _) (.slice (some ⟨wr.heap.size, 0, none⟩) 1 1) 1 [.bool false, .slice dA p.length dc] rfl (rd_two wr _ _) (two_one _ _ _ _) (by unfold maxLen; omega) (by omega) (by simp; omega) ?_)
      intro v' w1 g1 g2 _
      have R := PRel.next H1.out HP.out HDD.out g1 g2
      have HRR := Lib.hid R
      clear R g1 g2
      go_wp2
      go_roundw
      case rel => exact ⟨k + 1, by omega, by go_num, HRR.out⟩
      case measure => simp [intOf]; omega
    · have hke : k = ps.length := by omega
      subst hke
      have hS := hrel.steps HDS.out HD.out (pv := u5)
      have hb1 := hrel.2
      have HC := Lib.hid (Run_calls wr bin u5 (ps.map wst) hS (by rw [tot_wst]; omega))
      have HB := Lib.hid hb1
      clear hrel hS hb1
      go_wp2_with fail
      refine HC.out.mono ?_
      intro e w2 h
      obtain ⟨v, va, al, rfl, h1, h2, h3, h4, h5, h6, h7⟩ := h
      have hbad := (Qp.good_endP bin (ps.map wst)).fine Qp.st0 rfl
      have hal : al.length = ps.length := by rw [h5 hbad]; simp
      rw [hal] at h2
      have hok : ∀ (i : Nat) (p : List UInt8), ps[i]? = some p → ∃ a, al[i]? = some a ∧ a.bad = false ∧ a.n = (p.length : Int) := by
        intro i p hp
        have hi' := (List.getElem?_eq_some_iff.1 hp).1
        obtain ⟨a, ha⟩ : ∃ a, al[i]? = some a := ⟨al[i]'(by omega), by rw [List.getElem?_eq_getElem]⟩
        have hx : (ps.map wst)[i]? = some (wst p) := by simp [hp]
        obtain ⟨g1, _, g3⟩ := (h6 i a (wst p) ha hx).1
        have hb := (Qp.good_endP bin ((ps.map wst).take (i + 1))).fine Qp.st0 rfl
        exact ⟨a, ha, by rw [g1]; exact hb, by rw [g3 hb]; rfl⟩
      obtain ⟨vA, vc, rfl⟩ := own_shape h1
      obtain ⟨aA, ac, rfl⟩ := own_shape h2
      have HA := Lib.hid (Rd.of_own h2)
      have HOK := Lib.hid hok
      have HB2 := Lib.hid (HB.out.trans (h3.mono HB.out.size))
      clear h1 h2 h3 h4 h5 h6 h7 hbad hal hok
      have hne : ((ps.length : Int) != (ps.length : Int)) = false := by simp
      go_wp2_with fail
      go_loopw [38] (fun i w3 => ∃ k : Nat, k ≤ ps.length ∧ i = .int .i64 k ∧ Below w2.heap.size w2 w3) (fun i _ => ps.length - (intOf i).toNat)
      case atStart => exact ⟨0, Nat.zero_le _, rfl, Below.refl _ _⟩
      case round =>
        obtain ⟨k, hk, rfl, hb⟩ := hrel
        by_cases hkl : k < ps.length
        · obtain ⟨p, hp⟩ : ∃ p, ps[k]? = some p := ⟨ps[k], by simp [hkl]⟩
          obtain ⟨d, hd⟩ : ∃ d, ds[k]? = some d := ⟨ds[k]'(by rw [HDS.out]; exact hkl), by rw [List.getElem?_eq_getElem]⟩
          obtain ⟨a, ha, ha1, ha2⟩ := HOK.out k p hp
          obtain ⟨g1, g2, g3⟩ := ansCells_at al k a ha
          rw [ha2] at g1
          rw [ha1] at g2
          obtain ⟨ab, ao, rfl, hab, hcell⟩ := (HA.out.keep hb).get (k := k) (by omega)
          have hbw : Below w.heap.size w wr := HB2.out.trans (hb.mono HB2.out.size)
          obtain ⟨pb, po, rfl, hpb, hcell2⟩ := (HR.out.keep hbw).get hkl
          obtain ⟨dA, dc, rfl, _⟩ := (HD.out k d p hd hp).shape
          have c1 := hcell _ _ g1
          have c2 := hcell _ _ g2
          have c3 := hcell _ _ g3
          rw [← Nat.add_assoc] at c2 c3
          have c4 := hcell2 k _ hd
          have hne2 : ((p.length : Int) != (p.length : Int)) = false := by simp
          have HB3 := Lib.hid hb
          clear hcell hcell2 hp hd ha ha1 ha2 g1 g2 g3 hb hbw
          go_wp2_with fail
          go_quiet (fail)
          go_wp2_with fail
          go_roundw
          case rel => exact ⟨k + 1, by omega, by go_num, bel_drewN (bel_new HB3.out _) _⟩
          case measure => simp [intOf]; omega
        · have HB3 := Lib.hid hb
          clear hb
          go_wp2
          go_ret
          exact ⟨rfl, HB2.out.trans (HB3.out.mono HB2.out.size)⟩

theorem contract (H : Type) (enc : TypeId × Value → H) (W : World) (base : Nat) (args : Array Value) (ds gs : List (DataW H)) (before : List MemPlace)
    (hval : ∀ (j : Nat) t v, Try.f3.params[j]? = some t → args[j]? = some v → Value.okWide Try.prog W .any base t v)
    (hW : DataW.Whole enc Try.prog Try.f3.params.toList Rows.fnCountsSpec.vars false W args.toList ds gs before) (hk : Rows.uptoSmall H (ds ++ gs) = true) :
    Calls Try.prog 3 args W fun e W' => ∃ v, e = .returned v ∧ Rows.fnCountsSpec.post enc Try.prog Try.f3 false true false false W args v W' := by
  have hW' := hW
  have hlt := hW.lt
  obtain ⟨p, q, hA0, hV, rfl, _, _⟩ := hW
  have hA : DataW.TrodAll enc Try.prog W 0 (fun _ => true) true Try.f3.params.toList args.toList ds p := hA0
  rw [Try.params3] at hA hval
  obtain ⟨v0, vs0, d0, ds0, p0, q0, hargs, rfl, rfl, h0, r0⟩ := trodAll_cons hA
  obtain ⟨v1, vs1, d1, ds1, p1, q1, rfl, rfl, rfl, h1, r1⟩ := trodAll_cons r0
  obtain ⟨rfl, rfl, rfl⟩ := trodAll_nil r1
  obtain rfl : args = #[v0, v1] := by cases args; simp_all
  obtain ⟨rfl, rfl⟩ := trodVars_none hV
  have hbulk := bulk_of hk
  obtain ⟨a0, rfl, _, _⟩ := open_bool Try.underlying4 (hval 0 4 v0 rfl rfl) h0
  obtain ⟨l1, g1, b1⟩ := open_parts (hval 1 22 v1 rfl rfl) h1 (fun y hy => hlt y (by simp [hy]))
  simp only [List.append_nil, Rows.uptoBulkAll] at hbulk
  refine (walk W a0 v1 l1 g1 (by omega)).mono fun e W' ⟨he, hg⟩ => ?_
  subst he
  exact ⟨_, rfl, law_post hW' rfl rfl rfl rfl rfl (by rw [Try.params3]; intro t ht; simp at ht; rcases ht with rfl | rfl <;> exact ⟨by kernel_rfl, of_decide_eq_true (by kernel_rfl)⟩) hg⟩

set_option maxRecDepth 100000 in
theorem lifted (os : Os) (started : os.Started) (H : Type) (enc : TypeId × Value → H) (F : Stop.Interp) :
    ReturnsInHanded {} Try.checked os 3 .any ((Rows.OpenSpec.upto Rows.fnCountsSpec).pre6 enc Try.prog Try.f3 Rows.fnCountsUptoRow.domain false) (((Rows.OpenSpec.upto Rows.fnCountsSpec).at F).post enc Try.prog Try.f3 false true false false) := by
  refine returnsInHanded_of_cond (C := Try.checked) (s := Rows.OpenSpec.upto Rows.fnCountsSpec) (k := Rows.uptoSmall) rfl Try.ownk started (by kernel_rfl) Try.func3
    (OpenSpec.witness (enc := enc) (C := Try.checked) (s := Rows.OpenSpec.upto Rows.fnCountsSpec) (k := Rows.uptoSmall) rfl false ⟨#[], #[.bool false, .slice none 0 0], []⟩ 8 (by kernel_rfl) (by kernel_rfl) (by kernel_rfl)
      (x := ([.lit (.bool false), .nil], [], [])) (by kernel_rfl) rfl (by kernel_rfl)) ?_
  intro W base args ds gs before hval hW _ hk _
  exact contract H enc W base args ds gs before hval hW hk

theorem closed : joinedFacts Try.prog 3 Try.f3 (Rows.OpenSpec.upto Rows.fnCountsSpec).bare Rows.fnCountsUptoRow = true := by
  unfold joinedFacts
  rw [enters, lifts_no, make_cut]
  kernel_rfl

theorem proved : Rows.FnCountsUptoSaid :=
  OpenClaim.holds_of_cond 3 Try.f3 rfl rfl rfl rfl rfl rfl rfl ⟨rfl, rfl, rfl, rfl, rfl⟩ rfl rfl rfl rfl rfl (by kernel_rfl) Try.func3 closed
    (of_decide_eq_true (by kernel_rfl)) (by unfold Func.isWrapper; rw [if_neg (of_decide_eq_false (by kernel_rfl))]; exact ⟨rfl, rfl⟩)
    (fun os started H enc _ F => lifted os started H enc F)
end Go.Proofs.Ytgdfbnedmifjlaa.fnCounts
