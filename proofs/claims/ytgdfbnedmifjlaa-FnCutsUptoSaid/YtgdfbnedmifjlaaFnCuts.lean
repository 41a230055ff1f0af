/- FnCuts: wherever the data is cut into Writes, the encoded text is that of one Write, where what comes in is of bulk at most 1048576. -/
import Derived.Test.YtgdfbnedmifjlaaSpecB
import Derived.Test.YtgdfbnedmifjlaaHead
namespace Go.Proofs.Ytgdfbnedmifjlaa.fnCuts
open Go.RowKit Go.ChangeShapes Go.WideShapes Go.ChangeAt

set_option maxHeartbeats 1000000 in
theorem walk (w : World) (bin : Bool) (pv : Value) (ps : List (List UInt8)) (hp : Parts w pv ps) (ht : ptot ps ≤ 1048576) : Calls Try.prog 9 #[.bool bin, pv] w (Yes w) := by
  have hfl := ptot_flatten ps
  have hpos := Qp.enc_pos bin ps.flatten
  have HC1 := Lib.hid (Whole_calls w pv ps hp (by omega))
  have HC2 := Lib.hid (fun w1 (h : Below w.heap.size w w1) => EncodeParts_calls w1 bin pv ps (hp.keep h) (by omega))
  obtain ⟨A, n, c, rfl⟩ : ∃ A n c, pv = .slice A n c := by
    obtain ⟨ds, _, hrd, _⟩ := hp
    obtain ⟨A, c, h, _⟩ := hrd.shape
    exact ⟨A, _, c, h⟩
  clear hp
  generalize ps.flatten = l at *
  generalize hx : Qp.enc bin l = x at *
  have HX := Lib.hid hx
  clear hx
  go_enter Try.func9, Try.ntmps9
  go_wp2_with fail
  refine HC1.out.mono ?_
  intro e w1 h
  obtain ⟨lA, lc, rfl, _, hl, hb1⟩ := h
  have HLd := Lib.hid hl
  have HB1 := Lib.hid hb1
  clear hl hb1
  go_wp2_with fail
  refine (HC2.out w1 HB1.out).mono ?_
  intro e w2 h
  obtain ⟨xA, xc, rfl, _, hx, hb2⟩ := h
  have HXd := Lib.hid hx
  have HB2 := Lib.hid hb2
  clear hx hb2
  have HC3 := Lib.hid (Encode_bytes w2 bin _ l (HLd.out.keep HB2.out) (by omega))
  rw [HX.out] at HC3
  go_wp2_with fail
  refine HC3.out.mono ?_
  intro e w3 h
  obtain ⟨yA, yc, rfl, _, hy, hb3⟩ := h
  have HS := Lib.hid (Same_yes w3 _ _ x x (HXd.out.keep hb3) hy rfl)
  have HB := Lib.hid (bel_old (bel_old HB1.out HB2.out) hb3)
  clear hy hb3
  go_wp2_with fail
  refine HS.out.mono ?_
  rintro e w' ⟨rfl, rfl⟩
  by_cases hp : 0 < x.length
  · have hp' : (0 : Int) < (x.length : Int) := by omega
    clear hpos
    go_wp2
    go_ret
    exact ⟨rfl, HB.out⟩
  · have hp' : ¬ (0 : Int) < (x.length : Int) := by omega
    have ha0 : l.length ≤ 0 := by omega
    clear hpos
    go_wp2
    go_ret
    exact Yes.of (len_zero ha0) HB.out

theorem contract (H : Type) (enc : TypeId × Value → H) (W : World) (base : Nat) (args : Array Value) (ds gs : List (DataW H)) (before : List MemPlace)
    (hval : ∀ (j : Nat) t v, Try.f9.params[j]? = some t → args[j]? = some v → Value.okWide Try.prog W .any base t v)
    (hW : DataW.Whole enc Try.prog Try.f9.params.toList Rows.fnCutsSpec.vars false W args.toList ds gs before) (hk : Rows.uptoSmall H (ds ++ gs) = true) :
    Calls Try.prog 9 args W fun e W' => ∃ v, e = .returned v ∧ Rows.fnCutsSpec.post enc Try.prog Try.f9 false true false false W args v W' := by
  have hW' := hW
  have hlt := hW.lt
  obtain ⟨p, q, hA0, hV, rfl, _, _⟩ := hW
  have hA : DataW.TrodAll enc Try.prog W 0 (fun _ => true) true Try.f9.params.toList args.toList ds p := hA0
  rw [Try.params9] at hA hval
  obtain ⟨v0, vs0, d0, ds0, p0, q0, hargs, rfl, rfl, h0, r0⟩ := trodAll_cons hA
  obtain ⟨v1, vs1, d1, ds1, p1, q1, rfl, rfl, rfl, h1, r1⟩ := trodAll_cons r0
  obtain ⟨rfl, rfl, rfl⟩ := trodAll_nil r1
  obtain rfl : args = #[v0, v1] := by cases args; simp_all
  obtain ⟨rfl, rfl⟩ := trodVars_none hV
  have hbulk := bulk_of hk
  obtain ⟨a0, rfl, _, _⟩ := open_bool Try.underlying4 (hval 0 4 v0 rfl rfl) h0
  obtain ⟨l1, g1, b1⟩ := open_parts (hval 1 22 v1 rfl rfl) h1 (fun y hy => hlt y (by simp [hy]))
  simp only [List.append_nil, Rows.uptoBulkAll] at hbulk
  refine (walk W a0 v1 l1 g1 (by omega)).mono fun e W' ⟨he, hg⟩ => ?_
  subst he
  exact ⟨_, rfl, law_post hW' rfl rfl rfl rfl rfl (by rw [Try.params9]; intro t ht; simp at ht; rcases ht with rfl | rfl <;> exact ⟨by kernel_rfl, of_decide_eq_true (by kernel_rfl)⟩) hg⟩

set_option maxRecDepth 100000 in
theorem lifted (os : Os) (started : os.Started) (H : Type) (enc : TypeId × Value → H) (F : Stop.Interp) :
    ReturnsInHanded {} Try.checked os 9 .any ((Rows.OpenSpec.upto Rows.fnCutsSpec).pre6 enc Try.prog Try.f9 Rows.fnCutsUptoRow.domain false) (((Rows.OpenSpec.upto Rows.fnCutsSpec).at F).post enc Try.prog Try.f9 false true false false) := by
  refine returnsInHanded_of_cond (C := Try.checked) (s := Rows.OpenSpec.upto Rows.fnCutsSpec) (k := Rows.uptoSmall) rfl Try.ownk started (by kernel_rfl) Try.func9
    (OpenSpec.witness (enc := enc) (C := Try.checked) (s := Rows.OpenSpec.upto Rows.fnCutsSpec) (k := Rows.uptoSmall) rfl false ⟨#[], #[.bool false, .slice none 0 0], []⟩ 8 (by kernel_rfl) (by kernel_rfl) (by kernel_rfl)
      (x := ([.lit (.bool false), .nil], [], [])) (by kernel_rfl) rfl (by kernel_rfl)) ?_
  intro W base args ds gs before hval hW _ hk _
  exact contract H enc W base args ds gs before hval hW hk

theorem closed : joinedFacts Try.prog 9 Try.f9 (Rows.OpenSpec.upto Rows.fnCutsSpec).bare Rows.fnCutsUptoRow = true := by
  unfold joinedFacts
  rw [enters, lifts_no, make_cut]
  kernel_rfl

theorem proved : Rows.FnCutsUptoSaid :=
  OpenClaim.holds_of_cond 9 Try.f9 rfl rfl rfl rfl rfl rfl rfl ⟨rfl, rfl, rfl, rfl, rfl⟩ rfl rfl rfl rfl rfl (by kernel_rfl) Try.func9 closed
    (of_decide_eq_true (by kernel_rfl)) (by unfold Func.isWrapper; rw [if_neg (of_decide_eq_false (by kernel_rfl))]; exact ⟨rfl, rfl⟩)
    (fun os started H enc _ F => lifted os started H enc F)
end Go.Proofs.Ytgdfbnedmifjlaa.fnCuts
