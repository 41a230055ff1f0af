/- FnRun: a script of Writes and, at its end, a Close gives the quoted-printable form of all that was written; each Write tells that all of its bytes were written, and nothing fails, where what comes in is of bulk at most 1048576. -/
import Derived.Test.YtgdfbnedmifjlaaCounts
import Derived.Test.YtgdfbnedmifjlaaSpecG
import Derived.Test.YtgdfbnedmifjlaaHead
namespace Go.Proofs.Ytgdfbnedmifjlaa.fnRun
open Go.RowKit Go.ChangeShapes Go.WideShapes Go.ChangeAt

set_option maxHeartbeats 4000000 in
theorem walk (w : World) (bin : Bool) (u : Value) (xs : List Qp.Stp) (hs : Steps w u xs) (ht : tot xs ≤ 1048576) : Calls Try.prog 6 #[.bool bin, u] w (Yes w) := by
  have hxl := tot_len xs
  have hwt := wdata_tot xs
  have HC0 := Lib.hid (written_calls w u xs hs (by omega))
  have HC1 := Lib.hid (fun w' (h : Below w.heap.size w w') => Run_calls w' bin u xs (hs.keep h) (by omega))
  obtain ⟨ds, hds, hrd, hdat⟩ := hs
  obtain ⟨sA, sc, rfl, _⟩ := hrd.shape
  have HD := Lib.hid hdat
  have HR := Lib.hid hrd
  have HDS := Lib.hid hds
  clear hdat hrd hds
  go_enter Try.func6, Try.ntmps6
  go_wp2_with fail
  refine HC0.out.mono ?_
  intro e w1 h
  obtain ⟨dA, dn, dc, b, rfl, hb1, hpost⟩ := h
  have HB1 := Lib.hid hb1
  clear hb1 HC0
  cases b with
  | false =>
    clear hpost
    go_wp2
    go_ret
    exact ⟨rfl, HB1.out⟩
  | true =>
    obtain ⟨hends, rfl, hdata⟩ := hpost rfl
    have h0 : 0 < xs.length := by obtain ⟨ys, z, rfl, _⟩ := hends; simp
    have hgot := Qp.end_script bin xs hends
    have HF := Lib.hid (fixed_calls w1 bin _ (Qp.wdata xs) hdata (by omega))
    have HData := Lib.hid hdata
    clear hpost hends hdata
    generalize Qp.wdata xs = data at *
    cases hp : (bin || Qp.paired data) with
    | false =>
      rw [hp] at HF
      clear hp
      go_wp2_with fail
      refine HF.out.mono ?_
      rintro e w' ⟨rfl, rfl⟩
      go_wp2
      go_ret
      exact ⟨rfl, HB1.out⟩
    | true =>
      have HC2 := Lib.hid (fun w' (h : Below w1.heap.size w1 w') => Encoded_calls w' bin _ data (HData.out.keep h) (by omega) hp)
      rw [hp] at HF
      clear hp
      go_wp2_with fail
      refine HF.out.mono ?_
      rintro e w' ⟨rfl, rfl⟩
      go_wp2_with fail
      refine (HC1.out w1 HB1.out).mono ?_
      intro e w2 h
      obtain ⟨xA, xc, gA, gc, al, he, hx, hans, hb2, hcnt, hok⟩ := run_out h
      have hal : al.length = xs.length := hcnt.all (Qp.end_fine bin xs)
      rw [hgot] at he hx
      rw [hal] at he hans
      subst he
      have hok2 : ∀ (i : Nat) (x : Qp.Stp), xs[i]? = some x → ∃ a, al[i]? = some a ∧ a.bad = false ∧ a.n = (if x.cl then 0 else (x.data.length : Int)) ∧ a.hv = (Qp.endP none bin Qp.st0 (xs.take (i + 1))).got.length := by
        intro i x hxi
        have hi' := (List.getElem?_eq_some_iff.1 hxi).1
        have ha : al[i]? = some (al[i]'(by omega)) := List.getElem?_eq_getElem _
        obtain ⟨g1, g2, g3⟩ := hok i _ x ha hxi
        have hb := Qp.end_fine bin (xs.take (i + 1))
        exact ⟨_, ha, by rw [g1]; exact hb, g3 hb, g2⟩
      have hlast : ∃ a, al[xs.length - 1]? = some a ∧ a.hv = (Qp.enc bin data).length := by
        obtain ⟨a, g1, _, _, g4⟩ := hok2 (xs.length - 1) _ (List.getElem?_eq_getElem (by omega))
        refine ⟨a, g1, ?_⟩
        rw [g4, ← hgot]
        have e1 : xs.length - 1 + 1 = xs.length := by omega
        rw [e1, List.take_length]
      have HOK := Lib.hid hok2
      have HLast := Lib.hid hlast
      have HX := Lib.hid hx
      have HAns := Lib.hid hans
      have HB2 := Lib.hid hb2
      clear h hx hans hb2 hcnt hok hal hok2 hlast hgot HC1 HF
      generalize Qp.enc bin data = x at *
      go_wp2_with fail
      refine (HC2.out w2 HB2.out).mono ?_
      intro e w3 h
      obtain ⟨yA, yc, rfl, _, hy, hb3⟩ := h
      have HS := Lib.hid (Same_yes w3 _ _ x x (HX.out.keep hb3) hy rfl)
      have HAns3 := Lib.hid (HAns.out.keep hb3)
      have HB3 := Lib.hid (bel_old (bel_old HB1.out HB2.out) hb3)
      clear hy hb3 HAns HB2 HX HC2
      go_wp2_with fail
      refine HS.out.mono ?_
      rintro e w' ⟨rfl, rfl⟩
      have hne : ((xs.length : Int) != (xs.length : Int)) = false := by simp
      go_wp2_with fail
      go_loopw [45] (fun i wr => ∃ k : Nat, k ≤ xs.length ∧ i = .int .i64 k ∧ Below w3.heap.size w3 wr) (fun i _ => xs.length - (intOf i).toNat)
      case atStart => exact ⟨0, Nat.zero_le _, rfl, Below.refl _ _⟩
      case round =>
        obtain ⟨k, hk, rfl, hb⟩ := hrel
        by_cases hkl : k < xs.length
        · obtain ⟨s, hsx⟩ : ∃ s, xs[k]? = some s := ⟨xs[k], List.getElem?_eq_getElem hkl⟩
          obtain ⟨d, hd⟩ : ∃ d, ds[k]? = some d := ⟨ds[k]'(by rw [HDS.out]; exact hkl), by rw [List.getElem?_eq_getElem]⟩
          obtain ⟨a, ha, ha1, ha2, _⟩ := HOK.out k s hsx
          obtain ⟨g1, g2, g3⟩ := ansCells_at al k a ha
          obtain ⟨t1, t2⟩ := stepCells_at xs ds k s d hsx hd
          rw [ha2] at g1
          rw [ha1] at g2
          obtain ⟨ab, ao, rfl, hab, hcell⟩ := (HAns3.out.keep hb).get (k := k) (by omega)
          have hbw : Below w.heap.size w wr := bel_old HB3.out hb
          obtain ⟨pb, po, rfl, hpb, hcell2⟩ := (HR.out.keep hbw).get hkl
          obtain ⟨eA, ec, rfl, _⟩ := (HD.out k d s hd hsx).shape
          have c1 := hcell _ _ g1
          have c2 := hcell _ _ g2
          have c3 := hcell _ _ g3
          rw [← Nat.add_assoc] at c2 c3
          have c4 := hcell2 _ _ t1
          have c5 := hcell2 _ _ t2
          rw [← Nat.add_assoc] at c5
          have HB4 := Lib.hid hb
          clear hcell hcell2 hsx hd ha ha1 ha2 g1 g2 g3 t1 t2 hb hbw
          cases hcl : s.cl with
          | false =>
            rw [hcl] at c1 c4
            simp only [Bool.false_eq_true, if_false] at c1
            have hne2 : ((s.data.length : Int) != (s.data.length : Int)) = false := by simp
            clear hcl
            go_wp2_with fail
            go_quiet (fail)
            go_wp2_with fail
            go_roundw
            case rel => exact ⟨k + 1, by omega, by go_num, bel_drewN (bel_new HB4.out _) _⟩
            case measure => simp [intOf]; omega
          | true =>
            rw [hcl] at c1 c4
            simp only [if_true] at c1
            clear hcl
            by_cases hd0 : s.data.length = 0
            · rw [hd0] at c5
              clear hd0
              go_wp2_with fail
              go_quiet (fail)
              go_wp2_with fail
              go_roundw
              case rel => exact ⟨k + 1, by omega, by go_num, bel_drewN (bel_new HB4.out _) _⟩
              case measure => simp [intOf]; omega
            · have hne2 : ((0 : Int) != (s.data.length : Int)) = true := bne_iff_ne.2 (by omega)
              go_wp2_with fail
              go_quiet (fail)
              go_wp2_with fail
              go_roundw
              case rel => exact ⟨k + 1, by omega, by go_num, bel_drewN (bel_new HB4.out _) _⟩
              case measure => simp [intOf]; omega
        · obtain ⟨a, ha, ha2⟩ := HLast.out
          obtain ⟨_, _, g3⟩ := ansCells_at al _ a ha
          rw [ha2] at g3
          obtain ⟨ab, ao, rfl, hab, hcell⟩ := (HAns3.out.keep hb).get (k := 0) (by omega)
          have c3 := hcell _ _ g3
          rw [← Nat.add_assoc] at c3
          have q1 : (0 : Int) ≤ (xs.length : Int) - 1 := by omega
          have q2 : ((xs.length : Int) - 1).toNat = xs.length - 1 := by omega
          have HB4 := Lib.hid hb
          clear hb hcell ha ha2 g3
          go_wp2
          go_ret
          exact Yes.of (by simp) (bel_old HB3.out HB4.out)

theorem contract (H : Type) (enc : TypeId × Value → H) (W : World) (base : Nat) (args : Array Value) (ds gs : List (DataW H)) (before : List MemPlace)
    (hval : ∀ (j : Nat) t v, Try.f6.params[j]? = some t → args[j]? = some v → Value.okWide Try.prog W .any base t v)
    (hW : DataW.Whole enc Try.prog Try.f6.params.toList Rows.fnRunSpec.vars false W args.toList ds gs before) (hk : Rows.uptoSmall H (ds ++ gs) = true) :
    Calls Try.prog 6 args W fun e W' => ∃ v, e = .returned v ∧ Rows.fnRunSpec.post enc Try.prog Try.f6 false true false false W args v W' := by
  have hW' := hW
  have hlt := hW.lt
  obtain ⟨p, q, hA0, hV, rfl, _, _⟩ := hW
  have hA : DataW.TrodAll enc Try.prog W 0 (fun _ => true) true Try.f6.params.toList args.toList ds p := hA0
  rw [Try.params6] at hA hval
  obtain ⟨v0, vs0, d0, ds0, p0, q0, hargs, rfl, rfl, h0, r0⟩ := trodAll_cons hA
  obtain ⟨v1, vs1, d1, ds1, p1, q1, rfl, rfl, rfl, h1, r1⟩ := trodAll_cons r0
  obtain ⟨rfl, rfl, rfl⟩ := trodAll_nil r1
  obtain rfl : args = #[v0, v1] := by cases args; simp_all
  obtain ⟨rfl, rfl⟩ := trodVars_none hV
  have hbulk := bulk_of hk
  obtain ⟨a0, rfl, _, _⟩ := open_bool Try.underlying4 (hval 0 4 v0 rfl rfl) h0
  obtain ⟨l1, g1, b1⟩ := open_steps (hval 1 23 v1 rfl rfl) h1 (fun y hy => hlt y (by simp [hy]))
  simp only [List.append_nil, Rows.uptoBulkAll] at hbulk
  refine (walk W a0 v1 l1 g1 (by omega)).mono fun e W' ⟨he, hg⟩ => ?_
  subst he
  exact ⟨_, rfl, law_post hW' rfl rfl rfl rfl rfl (by rw [Try.params6]; intro t ht; simp at ht; rcases ht with rfl | rfl <;> exact ⟨by kernel_rfl, of_decide_eq_true (by kernel_rfl)⟩) hg⟩

set_option maxRecDepth 100000 in
theorem lifted (os : Os) (started : os.Started) (H : Type) (enc : TypeId × Value → H) (F : Stop.Interp) :
    ReturnsInHanded {} Try.checked os 6 .any ((Rows.OpenSpec.upto Rows.fnRunSpec).pre6 enc Try.prog Try.f6 Rows.fnRunUptoRow.domain false) (((Rows.OpenSpec.upto Rows.fnRunSpec).at F).post enc Try.prog Try.f6 false true false false) := by
  refine returnsInHanded_of_cond (C := Try.checked) (s := Rows.OpenSpec.upto Rows.fnRunSpec) (k := Rows.uptoSmall) rfl Try.ownk started (by kernel_rfl) Try.func6
    (OpenSpec.witness (enc := enc) (C := Try.checked) (s := Rows.OpenSpec.upto Rows.fnRunSpec) (k := Rows.uptoSmall) rfl false ⟨#[], #[.bool false, .slice none 0 0], []⟩ 8 (by kernel_rfl) (by kernel_rfl) (by kernel_rfl)
      (x := ([.lit (.bool false), .nil], [], [])) (by kernel_rfl) rfl (by kernel_rfl)) ?_
  intro W base args ds gs before hval hW _ hk _
  exact contract H enc W base args ds gs before hval hW hk

theorem closed : joinedFacts Try.prog 6 Try.f6 (Rows.OpenSpec.upto Rows.fnRunSpec).bare Rows.fnRunUptoRow = true := by
  unfold joinedFacts
  rw [enters, lifts_no, make_cut]
  kernel_rfl

theorem proved : Rows.FnRunUptoSaid :=
  OpenClaim.holds_of_cond 6 Try.f6 rfl rfl rfl rfl rfl rfl rfl ⟨rfl, rfl, rfl, rfl, rfl⟩ rfl rfl rfl rfl rfl (by kernel_rfl) Try.func6 closed
    (of_decide_eq_true (by kernel_rfl)) (by unfold Func.isWrapper; rw [if_neg (of_decide_eq_false (by kernel_rfl))]; exact ⟨rfl, rfl⟩)
    (fun os started H enc _ F => lifted os started H enc F)
end Go.Proofs.Ytgdfbnedmifjlaa.fnRun
