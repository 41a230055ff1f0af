/- FnEncode: what is written and closed is the quoted-printable form of the data, where what comes in is of bulk at most 1048576. -/
import Derived.Test.YtgdfbnedmifjlaaSpecG
import Derived.Test.YtgdfbnedmifjlaaHead
namespace Go.Proofs.Ytgdfbnedmifjlaa.fnEncode
open Go.RowKit Go.ChangeShapes Go.WideShapes Go.ChangeAt

set_option maxHeartbeats 2000000 in
theorem walk (w : World) (bin : Bool) (u : Value) (l : List UInt8) (hr : Rd w 1 u l.length (l.map bv)) (hl : l.length ≤ 1048576) : Calls Try.prog 14 #[.bool bin, u] w (Yes w) := by
  have HC0 := Lib.hid (fixed_calls w bin u l hr (by omega))
  have HC1 := Lib.hid (Encode_bytes w bin u l hr (by omega))
  have HC2 := Lib.hid (fun w' (h : Below w.heap.size w w') => Encoded_calls w' bin u l (hr.keep h) (by omega))
  obtain ⟨A, c, rfl, _⟩ := hr.shape
  clear hr
  cases hp : (bin || Qp.paired l) with
  | false =>
    rw [hp] at HC0
    clear hp
    go_enter Try.func14, Try.ntmps14
    go_wp2_with fail
    refine HC0.out.mono ?_
    rintro e w' ⟨rfl, rfl⟩
    go_wp2
    go_ret
    exact ⟨rfl, Below.refl _ _⟩
  | true =>
    have HC3 := Lib.hid (fun w' (h : Below w.heap.size w w') => HC2.out w' h hp)
    rw [hp] at HC0
    clear hp HC2
    generalize Qp.enc bin l = x at *
    go_enter Try.func14, Try.ntmps14
    go_wp2_with fail
    refine HC0.out.mono ?_
    rintro e w' ⟨rfl, rfl⟩
    go_wp2_with fail
    refine HC1.out.mono ?_
    intro e w1 h
    obtain ⟨xA, xc, rfl, _, hx, hb1⟩ := h
    have HX := Lib.hid hx
    have HB1 := Lib.hid hb1
    clear hx hb1
    go_wp2_with fail
    refine (HC3.out w1 HB1.out).mono ?_
    intro e w2 h
    obtain ⟨yA, yc, rfl, _, hy, hb2⟩ := h
    have HS := Lib.hid (Same_yes w2 _ _ x x (HX.out.keep hb2) hy rfl)
    have HB := Lib.hid (bel_old HB1.out hb2)
    clear hy hb2
    go_wp2_with fail
    refine HS.out.mono ?_
    rintro e w' ⟨rfl, rfl⟩
    go_wp2
    go_ret
    exact ⟨rfl, HB.out⟩

theorem contract (H : Type) (enc : TypeId × Value → H) (W : World) (base : Nat) (args : Array Value) (ds gs : List (DataW H)) (before : List MemPlace)
    (hval : ∀ (j : Nat) t v, Try.f14.params[j]? = some t → args[j]? = some v → Value.okWide Try.prog W .any base t v)
    (hW : DataW.Whole enc Try.prog Try.f14.params.toList Rows.fnEncodeSpec.vars false W args.toList ds gs before) (hk : Rows.uptoSmall H (ds ++ gs) = true) :
    Calls Try.prog 14 args W fun e W' => ∃ v, e = .returned v ∧ Rows.fnEncodeSpec.post enc Try.prog Try.f14 false true false false W args v W' := by
  have hW' := hW
  have hlt := hW.lt
  obtain ⟨p, q, hA0, hV, rfl, _, _⟩ := hW
  have hA : DataW.TrodAll enc Try.prog W 0 (fun _ => true) true Try.f14.params.toList args.toList ds p := hA0
  rw [Try.params14] at hA hval
  obtain ⟨v0, vs0, d0, ds0, p0, q0, hargs, rfl, rfl, h0, r0⟩ := trodAll_cons hA
  obtain ⟨v1, vs1, d1, ds1, p1, q1, rfl, rfl, rfl, h1, r1⟩ := trodAll_cons r0
  obtain ⟨rfl, rfl, rfl⟩ := trodAll_nil r1
  obtain rfl : args = #[v0, v1] := by cases args; simp_all
  obtain ⟨rfl, rfl⟩ := trodVars_none hV
  have hbulk := bulk_of hk
  obtain ⟨a0, rfl, _, _⟩ := open_bool Try.underlying4 (hval 0 4 v0 rfl rfl) h0
  obtain ⟨l1, g1, b1⟩ := open_bytes (hval 1 24 v1 rfl rfl) h1 (fun y hy => hlt y (by simp [hy]))
  simp only [List.append_nil, Rows.uptoBulkAll] at hbulk
  refine (walk W a0 v1 l1 g1 (by omega)).mono fun e W' ⟨he, hg⟩ => ?_
  subst he
  exact ⟨_, rfl, law_post hW' rfl rfl rfl rfl rfl (by rw [Try.params14]; intro t ht; simp at ht; rcases ht with rfl | rfl <;> exact ⟨by kernel_rfl, of_decide_eq_true (by kernel_rfl)⟩) hg⟩

set_option maxRecDepth 100000 in
theorem lifted (os : Os) (started : os.Started) (H : Type) (enc : TypeId × Value → H) (F : Stop.Interp) :
    ReturnsInHanded {} Try.checked os 14 .any ((Rows.OpenSpec.upto Rows.fnEncodeSpec).pre6 enc Try.prog Try.f14 Rows.fnEncodeUptoRow.domain false) (((Rows.OpenSpec.upto Rows.fnEncodeSpec).at F).post enc Try.prog Try.f14 false true false false) := by
  refine returnsInHanded_of_cond (C := Try.checked) (s := Rows.OpenSpec.upto Rows.fnEncodeSpec) (k := Rows.uptoSmall) rfl Try.ownk started (by kernel_rfl) Try.func14
    (OpenSpec.witness (enc := enc) (C := Try.checked) (s := Rows.OpenSpec.upto Rows.fnEncodeSpec) (k := Rows.uptoSmall) rfl false ⟨#[], #[.bool false, .slice none 0 0], []⟩ 8 (by kernel_rfl) (by kernel_rfl) (by kernel_rfl)
      (x := ([.lit (.bool false), .nil], [], [])) (by kernel_rfl) rfl (by kernel_rfl)) ?_
  intro W base args ds gs before hval hW _ hk _
  exact contract H enc W base args ds gs before hval hW hk

theorem closed : joinedFacts Try.prog 14 Try.f14 (Rows.OpenSpec.upto Rows.fnEncodeSpec).bare Rows.fnEncodeUptoRow = true := by
  unfold joinedFacts
  rw [enters, lifts_no, make_cut]
  kernel_rfl

theorem proved : Rows.FnEncodeUptoSaid :=
  OpenClaim.holds_of_cond 14 Try.f14 rfl rfl rfl rfl rfl rfl rfl ⟨rfl, rfl, rfl, rfl, rfl⟩ rfl rfl rfl rfl rfl (by kernel_rfl) Try.func14 closed
    (of_decide_eq_true (by kernel_rfl)) (by unfold Func.isWrapper; rw [if_neg (of_decide_eq_false (by kernel_rfl))]; exact ⟨rfl, rfl⟩)
    (fun os started H enc _ F => lifted os started H enc F)
end Go.Proofs.Ytgdfbnedmifjlaa.fnEncode
