/- FnLoneFeeds: a LF without a CR before it becomes a line break in text mode, where what comes in is of bulk at most 1048576. -/
import Derived.Test.YtgdfbnedmifjlaaSpecC
import Derived.Test.YtgdfbnedmifjlaaHead
namespace Go.Proofs.Ytgdfbnedmifjlaa.fnLoneFeeds
open Go.RowKit Go.ChangeShapes Go.WideShapes Go.ChangeAt

set_option maxHeartbeats 2000000 in
theorem walk (w : World) (u : Value) (l : List UInt8) (hr : Rd w 1 u l.length (l.map bv)) (hl : l.length ≤ 1048576) : Calls Try.prog 18 #[u] w (Yes w) := by
  have hle := (Qp.enc_len false l).2
  have hcl : (Qp.canonical l).length ≤ 2 * l.length := canonGo_len l false
  have HC0 := Lib.hid (Paired_calls w u l hr (by omega))
  have HC1 := Lib.hid (Encode_bytes w false u l hr (by omega))
  have HC3 := Lib.hid (fun w1 (h : Below w.heap.size w w1) => Canonical_calls w1 u l (hr.keep h) (by omega))
  obtain ⟨A, c, rfl, _⟩ := hr.shape
  clear hr
  cases hp : Qp.paired l with
  | false =>
    rw [hp] at HC0
    clear hp
    go_enter Try.func18, Try.ntmps18
    go_wp2_with fail
    refine HC0.out.mono ?_
    rintro e w' ⟨rfl, rfl⟩
    go_wp2
    go_ret
    exact ⟨rfl, Below.refl _ _⟩
  | true =>
    have HD := Lib.hid (Qp.decode_text l hp)
    rw [hp] at HC0
    clear hp
    generalize Qp.enc false l = x at *
    generalize Qp.canonical l = d at *
    go_enter Try.func18, Try.ntmps18
    go_wp2_with fail
    refine HC0.out.mono ?_
    rintro e w' ⟨rfl, rfl⟩
    go_wp2_with fail
    refine HC1.out.mono ?_
    intro e w1 h
    obtain ⟨xA, xc, rfl, _, hx, hb1⟩ := h
    have HC2 := Lib.hid (Decode_calls w1 _ x d hx (by omega) HD.out (by omega))
    have HB1 := Lib.hid hb1
    clear hx hb1
    go_wp2_with fail
    refine HC2.out.mono ?_
    intro e w2 h
    obtain ⟨dA, dc, rfl, hd, hb2⟩ := h
    have HD2 := Lib.hid hd
    have HB2 := Lib.hid (bel_old HB1.out hb2)
    clear hd hb2
    go_wp2_with fail
    refine (HC3.out w2 HB2.out).mono ?_
    intro e w3 h
    obtain ⟨yA, yc, rfl, _, hy, hb3⟩ := h
    have HB := Lib.hid (bel_old HB2.out hb3)
    have HS := Lib.hid (Same_yes w3 _ _ d d (HD2.out.keep hb3) hy rfl)
    clear hy hb3
    go_wp2_with fail
    refine HS.out.mono ?_
    rintro e w' ⟨rfl, rfl⟩
    go_wp2
    go_ret
    exact ⟨rfl, HB.out⟩

theorem contract (H : Type) (enc : TypeId × Value → H) (W : World) (base : Nat) (args : Array Value) (ds gs : List (DataW H)) (before : List MemPlace)
    (hval : ∀ (j : Nat) t v, Try.f18.params[j]? = some t → args[j]? = some v → Value.okWide Try.prog W .any base t v)
    (hW : DataW.Whole enc Try.prog Try.f18.params.toList Rows.fnLoneFeedsSpec.vars false W args.toList ds gs before) (hk : Rows.uptoSmall H (ds ++ gs) = true) :
    Calls Try.prog 18 args W fun e W' => ∃ v, e = .returned v ∧ Rows.fnLoneFeedsSpec.post enc Try.prog Try.f18 false true false false W args v W' := by
  have hW' := hW
  have hlt := hW.lt
  obtain ⟨p, q, hA0, hV, rfl, _, _⟩ := hW
  have hA : DataW.TrodAll enc Try.prog W 0 (fun _ => true) true Try.f18.params.toList args.toList ds p := hA0
  rw [Try.params18] at hA hval
  obtain ⟨v0, vs0, d0, ds0, p0, q0, hargs, rfl, rfl, h0, r0⟩ := trodAll_cons hA
  obtain ⟨rfl, rfl, rfl⟩ := trodAll_nil r0
  obtain rfl : args = #[v0] := by cases args; simp_all
  obtain ⟨rfl, rfl⟩ := trodVars_none hV
  have hbulk := bulk_of hk
  obtain ⟨l0, g0, b0⟩ := open_bytes (hval 0 24 v0 rfl rfl) h0 (fun y hy => hlt y (by simp [hy]))
  simp only [List.append_nil, Rows.uptoBulkAll] at hbulk
  refine (walk W v0 l0 g0 (by omega)).mono fun e W' ⟨he, hg⟩ => ?_
  subst he
  exact ⟨_, rfl, law_post hW' rfl rfl rfl rfl rfl (by rw [Try.params18]; intro t ht; simp at ht; subst ht; exact ⟨by kernel_rfl, of_decide_eq_true (by kernel_rfl)⟩) hg⟩

set_option maxRecDepth 100000 in
theorem lifted (os : Os) (started : os.Started) (H : Type) (enc : TypeId × Value → H) (F : Stop.Interp) :
    ReturnsInHanded {} Try.checked os 18 .any ((Rows.OpenSpec.upto Rows.fnLoneFeedsSpec).pre6 enc Try.prog Try.f18 Rows.fnLoneFeedsUptoRow.domain false) (((Rows.OpenSpec.upto Rows.fnLoneFeedsSpec).at F).post enc Try.prog Try.f18 false true false false) := by
  refine returnsInHanded_of_cond (C := Try.checked) (s := Rows.OpenSpec.upto Rows.fnLoneFeedsSpec) (k := Rows.uptoSmall) rfl Try.ownk started (by kernel_rfl) Try.func18
    (OpenSpec.witness (enc := enc) (C := Try.checked) (s := Rows.OpenSpec.upto Rows.fnLoneFeedsSpec) (k := Rows.uptoSmall) rfl false ⟨#[], #[.slice none 0 0], []⟩ 8 (by kernel_rfl) (by kernel_rfl) (by kernel_rfl)
      (x := ([.nil], [], [])) (by kernel_rfl) rfl (by kernel_rfl)) ?_
  intro W base args ds gs before hval hW _ hk _
  exact contract H enc W base args ds gs before hval hW hk

theorem closed : joinedFacts Try.prog 18 Try.f18 (Rows.OpenSpec.upto Rows.fnLoneFeedsSpec).bare Rows.fnLoneFeedsUptoRow = true := by
  unfold joinedFacts
  rw [enters, lifts_no, make_cut]
  kernel_rfl

theorem proved : Rows.FnLoneFeedsUptoSaid :=
  OpenClaim.holds_of_cond 18 Try.f18 rfl rfl rfl rfl rfl rfl rfl ⟨rfl, rfl, rfl, rfl, rfl⟩ rfl rfl rfl rfl rfl (by kernel_rfl) Try.func18 closed
    (of_decide_eq_true (by kernel_rfl)) (by unfold Func.isWrapper; rw [if_neg (of_decide_eq_false (by kernel_rfl))]; exact ⟨rfl, rfl⟩)
    (fun os started H enc _ F => lifted os started H enc F)
end Go.Proofs.Ytgdfbnedmifjlaa.fnLoneFeeds
