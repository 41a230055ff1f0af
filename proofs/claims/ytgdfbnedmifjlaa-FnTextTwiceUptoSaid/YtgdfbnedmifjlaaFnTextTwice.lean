/- FnTextTwice: encoded text is right text itself: encoded in text mode it keeps its line breaks, where what comes in is of bulk at most 1048576. -/
import Derived.Test.YtgdfbnedmifjlaaDecode
import Derived.Test.YtgdfbnedmifjlaaPlainC
import Derived.Test.YtgdfbnedmifjlaaHead
namespace Go.Proofs.Ytgdfbnedmifjlaa.fnTextTwice
open Go.RowKit Go.ChangeShapes Go.WideShapes Go.ChangeAt

set_option maxHeartbeats 2000000 in
theorem walk (w : World) (u : Value) (l : List UInt8) (hr : Rd w 1 u l.length (l.map bv)) (hl : l.length ≤ 1048576) : Calls Try.prog 25 #[u] w (Yes w) := by
  have hle := (Qp.enc_len false l).2
  have hpos := Qp.enc_pos false l
  obtain ⟨hge, hle2⟩ := Qp.enc_len false (Qp.enc false l)
  have HD := Lib.hid (Qp.decode_twice l false)
  have HC0 := Lib.hid (Paired_calls w u l hr (by omega))
  have HC1 := Lib.hid (Encode_bytes w false u l hr (by omega))
  obtain ⟨A, c, rfl, _⟩ := hr.shape
  clear hr
  cases hp : Qp.paired l with
  | false =>
    rw [hp] at HC0
    clear hp
    go_enter Try.func25, Try.ntmps25
    go_wp2_with fail
    refine HC0.out.mono ?_
    rintro e w' ⟨rfl, rfl⟩
    go_wp2
    go_ret
    exact ⟨rfl, Below.refl _ _⟩
  | true =>
    rw [hp] at HC0
    clear hp
    generalize Qp.enc false l = x at *
    have HC2 := Lib.hid (fun w1 v1 (h : Rd w1 1 v1 x.length (x.map bv)) => Encode_bytes w1 false v1 x h (by omega))
    generalize Qp.enc false x = y at *
    have hge' : (x.length : Int) ≤ (y.length : Int) := by omega
    go_enter Try.func25, Try.ntmps25
    go_wp2_with fail
    refine HC0.out.mono ?_
    rintro e w' ⟨rfl, rfl⟩
    go_wp2_with fail
    refine HC1.out.mono ?_
    intro e w1 h
    obtain ⟨xA, xc, rfl, _, hx, hb1⟩ := h
    have HX := Lib.hid hx
    have HB1 := Lib.hid hb1
    clear hx hb1
    go_wp2_with fail
    refine (HC2.out w1 _ HX.out).mono ?_
    intro e w2 h
    obtain ⟨yA, yc, rfl, _, hy, hb2⟩ := h
    have HC3 := Lib.hid (Decode_calls w2 _ y x hy (by omega) HD.out (by omega))
    have HX2 := Lib.hid (HX.out.keep hb2)
    have HB2 := Lib.hid (bel_old HB1.out hb2)
    clear hy hb2 HX HB1
    go_wp2_with fail
    refine HC3.out.mono ?_
    intro e w3 h
    obtain ⟨dA, dc, rfl, hd, hb3⟩ := h
    have HB := Lib.hid (bel_old HB2.out hb3)
    have HS := Lib.hid (Same_yes w3 _ _ x x hd (HX2.out.keep hb3) rfl)
    clear hd hb3 HX2 HB2
    go_wp2_with fail
    refine HS.out.mono ?_
    rintro e w' ⟨rfl, rfl⟩
    by_cases hp : 0 < x.length
    · have hp' : (0 : Int) < (x.length : Int) := by omega
      clear hpos
      go_wp2
      go_ret
      exact ⟨rfl, HB.out⟩
    · have hp' : ¬ (0 : Int) < (x.length : Int) := by omega
      have ha0 : l.length ≤ 0 := by omega
      clear hpos
      go_wp2
      go_ret
      exact Yes.of (len_zero ha0) HB.out

theorem contract (H : Type) (enc : TypeId × Value → H) (W : World) (base : Nat) (args : Array Value) (ds gs : List (DataW H)) (before : List MemPlace)
    (hval : ∀ (j : Nat) t v, Try.f25.params[j]? = some t → args[j]? = some v → Value.okWide Try.prog W .any base t v)
    (hW : DataW.Whole enc Try.prog Try.f25.params.toList Rows.fnTextTwiceSpec.vars false W args.toList ds gs before) (hk : Rows.uptoSmall H (ds ++ gs) = true) :
    Calls Try.prog 25 args W fun e W' => ∃ v, e = .returned v ∧ Rows.fnTextTwiceSpec.post enc Try.prog Try.f25 false true false false W args v W' := by
  have hW' := hW
  have hlt := hW.lt
  obtain ⟨p, q, hA0, hV, rfl, _, _⟩ := hW
  have hA : DataW.TrodAll enc Try.prog W 0 (fun _ => true) true Try.f25.params.toList args.toList ds p := hA0
  rw [Try.params25] at hA hval
  obtain ⟨v0, vs0, d0, ds0, p0, q0, hargs, rfl, rfl, h0, r0⟩ := trodAll_cons hA
  obtain ⟨rfl, rfl, rfl⟩ := trodAll_nil r0
  obtain rfl : args = #[v0] := by cases args; simp_all
  obtain ⟨rfl, rfl⟩ := trodVars_none hV
  have hbulk := bulk_of hk
  obtain ⟨l0, g0, b0⟩ := open_bytes (hval 0 24 v0 rfl rfl) h0 (fun y hy => hlt y (by simp [hy]))
  simp only [List.append_nil, Rows.uptoBulkAll] at hbulk
  refine (walk W v0 l0 g0 (by omega)).mono fun e W' ⟨he, hg⟩ => ?_
  subst he
  exact ⟨_, rfl, law_post hW' rfl rfl rfl rfl rfl (by rw [Try.params25]; intro t ht; simp at ht; subst ht; exact ⟨by kernel_rfl, of_decide_eq_true (by kernel_rfl)⟩) hg⟩

set_option maxRecDepth 100000 in
theorem lifted (os : Os) (started : os.Started) (H : Type) (enc : TypeId × Value → H) (F : Stop.Interp) :
    ReturnsInHanded {} Try.checked os 25 .any ((Rows.OpenSpec.upto Rows.fnTextTwiceSpec).pre6 enc Try.prog Try.f25 Rows.fnTextTwiceUptoRow.domain false) (((Rows.OpenSpec.upto Rows.fnTextTwiceSpec).at F).post enc Try.prog Try.f25 false true false false) := by
  refine returnsInHanded_of_cond (C := Try.checked) (s := Rows.OpenSpec.upto Rows.fnTextTwiceSpec) (k := Rows.uptoSmall) rfl Try.ownk started (by kernel_rfl) Try.func25
    (OpenSpec.witness (enc := enc) (C := Try.checked) (s := Rows.OpenSpec.upto Rows.fnTextTwiceSpec) (k := Rows.uptoSmall) rfl false ⟨#[], #[.slice none 0 0], []⟩ 8 (by kernel_rfl) (by kernel_rfl) (by kernel_rfl)
      (x := ([.nil], [], [])) (by kernel_rfl) rfl (by kernel_rfl)) ?_
  intro W base args ds gs before hval hW _ hk _
  exact contract H enc W base args ds gs before hval hW hk

theorem closed : joinedFacts Try.prog 25 Try.f25 (Rows.OpenSpec.upto Rows.fnTextTwiceSpec).bare Rows.fnTextTwiceUptoRow = true := by
  unfold joinedFacts
  rw [enters, lifts_no, make_cut]
  kernel_rfl

theorem proved : Rows.FnTextTwiceUptoSaid :=
  OpenClaim.holds_of_cond 25 Try.f25 rfl rfl rfl rfl rfl rfl rfl ⟨rfl, rfl, rfl, rfl, rfl⟩ rfl rfl rfl rfl rfl (by kernel_rfl) Try.func25 closed
    (of_decide_eq_true (by kernel_rfl)) (by unfold Func.isWrapper; rw [if_neg (of_decide_eq_false (by kernel_rfl))]; exact ⟨rfl, rfl⟩)
    (fun os started H enc _ F => lifted os started H enc F)
end Go.Proofs.Ytgdfbnedmifjlaa.fnTextTwice
