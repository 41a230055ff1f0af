/- FnEncodeParts: what is written in parts and closed is the quoted-printable form of the data, wherever it is cut, where what comes in is of bulk at most 1048576. -/
import Derived.Test.YtgdfbnedmifjlaaSpecG
import Derived.Test.YtgdfbnedmifjlaaHead
namespace Go.Proofs.Ytgdfbnedmifjlaa.fnEncodeParts
open Go.RowKit Go.ChangeShapes Go.WideShapes Go.ChangeAt

set_option maxHeartbeats 2000000 in
theorem walk (w : World) (bin : Bool) (u : Value) (ps : List (List UInt8)) (hp : Parts w u ps) (hl : ptot ps ≤ 1048576) : Calls Try.prog 28 #[.bool bin, u] w (Yes w) := by
  have hfl := ptot_flatten ps
  have HC0 := Lib.hid (Whole_calls w u ps hp (by omega))
  have HC1 := Lib.hid (fun w' (h : Below w.heap.size w w') => EncodeParts_calls w' bin u ps (hp.keep h) (by omega))
  obtain ⟨A, c, rfl, _⟩ : ∃ A c, u = .slice A ps.length c ∧ ps.length ≤ c := by obtain ⟨_, _, h, _⟩ := hp; exact h.shape
  clear hp
  generalize ps.flatten = l at *
  go_enter Try.func28, Try.ntmps28
  go_wp2_with fail
  refine HC0.out.mono ?_
  intro e w1 h
  obtain ⟨dA, dc, rfl, _, hd, hb1⟩ := h
  have HD := Lib.hid hd
  have HB1 := Lib.hid hb1
  have HF := Lib.hid (fixed_calls w1 bin _ l hd (by omega))
  clear hd hb1
  cases hp : (bin || Qp.paired l) with
  | false =>
    rw [hp] at HF
    clear hp
    go_wp2_with fail
    refine HF.out.mono ?_
    rintro e w' ⟨rfl, rfl⟩
    go_wp2
    go_ret
    exact ⟨rfl, HB1.out⟩
  | true =>
    have HC3 := Lib.hid (fun w' (h : Below w1.heap.size w1 w') => Encoded_calls w' bin _ l (HD.out.keep h) (by omega) hp)
    rw [hp] at HF
    clear hp
    generalize Qp.enc bin l = x at *
    go_wp2_with fail
    refine HF.out.mono ?_
    rintro e w' ⟨rfl, rfl⟩
    go_wp2_with fail
    refine (HC1.out w1 HB1.out).mono ?_
    intro e w2 h
    obtain ⟨xA, xc, rfl, _, hx, hb2⟩ := h
    have HX := Lib.hid hx
    have HB2 := Lib.hid hb2
    clear hx hb2
    go_wp2_with fail
    refine (HC3.out w2 HB2.out).mono ?_
    intro e w3 h
    obtain ⟨yA, yc, rfl, _, hy, hb3⟩ := h
    have HS := Lib.hid (Same_yes w3 _ _ x x (HX.out.keep hb3) hy rfl)
    have HB := Lib.hid (bel_old (bel_old HB1.out HB2.out) hb3)
    clear hy hb3
    go_wp2_with fail
    refine HS.out.mono ?_
    rintro e w' ⟨rfl, rfl⟩
    go_wp2
    go_ret
    exact ⟨rfl, HB.out⟩

theorem contract (H : Type) (enc : TypeId × Value → H) (W : World) (base : Nat) (args : Array Value) (ds gs : List (DataW H)) (before : List MemPlace)
    (hval : ∀ (j : Nat) t v, Try.f28.params[j]? = some t → args[j]? = some v → Value.okWide Try.prog W .any base t v)
    (hW : DataW.Whole enc Try.prog Try.f28.params.toList Rows.fnEncodePartsSpec.vars false W args.toList ds gs before) (hk : Rows.uptoSmall H (ds ++ gs) = true) :
    Calls Try.prog 28 args W fun e W' => ∃ v, e = .returned v ∧ Rows.fnEncodePartsSpec.post enc Try.prog Try.f28 false true false false W args v W' := by
  have hW' := hW
  have hlt := hW.lt
  obtain ⟨p, q, hA0, hV, rfl, _, _⟩ := hW
  have hA : DataW.TrodAll enc Try.prog W 0 (fun _ => true) true Try.f28.params.toList args.toList ds p := hA0
  rw [Try.params28] at hA hval
  obtain ⟨v0, vs0, d0, ds0, p0, q0, hargs, rfl, rfl, h0, r0⟩ := trodAll_cons hA
  obtain ⟨v1, vs1, d1, ds1, p1, q1, rfl, rfl, rfl, h1, r1⟩ := trodAll_cons r0
  obtain ⟨rfl, rfl, rfl⟩ := trodAll_nil r1
  obtain rfl : args = #[v0, v1] := by cases args; simp_all
  obtain ⟨rfl, rfl⟩ := trodVars_none hV
  have hbulk := bulk_of hk
  obtain ⟨a0, rfl, _, _⟩ := open_bool Try.underlying4 (hval 0 4 v0 rfl rfl) h0
  obtain ⟨l1, g1, b1⟩ := open_parts (hval 1 22 v1 rfl rfl) h1 (fun y hy => hlt y (by simp [hy]))
  simp only [List.append_nil, Rows.uptoBulkAll] at hbulk
  refine (walk W a0 v1 l1 g1 (by omega)).mono fun e W' ⟨he, hg⟩ => ?_
  subst he
  exact ⟨_, rfl, law_post hW' rfl rfl rfl rfl rfl (by rw [Try.params28]; intro t ht; simp at ht; rcases ht with rfl | rfl <;> exact ⟨by kernel_rfl, of_decide_eq_true (by kernel_rfl)⟩) hg⟩

set_option maxRecDepth 100000 in
theorem lifted (os : Os) (started : os.Started) (H : Type) (enc : TypeId × Value → H) (F : Stop.Interp) :
    ReturnsInHanded {} Try.checked os 28 .any ((Rows.OpenSpec.upto Rows.fnEncodePartsSpec).pre6 enc Try.prog Try.f28 Rows.fnEncodePartsUptoRow.domain false) (((Rows.OpenSpec.upto Rows.fnEncodePartsSpec).at F).post enc Try.prog Try.f28 false true false false) := by
  refine returnsInHanded_of_cond (C := Try.checked) (s := Rows.OpenSpec.upto Rows.fnEncodePartsSpec) (k := Rows.uptoSmall) rfl Try.ownk started (by kernel_rfl) Try.func28
    (OpenSpec.witness (enc := enc) (C := Try.checked) (s := Rows.OpenSpec.upto Rows.fnEncodePartsSpec) (k := Rows.uptoSmall) rfl false ⟨#[], #[.bool false, .slice none 0 0], []⟩ 8 (by kernel_rfl) (by kernel_rfl) (by kernel_rfl)
      (x := ([.lit (.bool false), .nil], [], [])) (by kernel_rfl) rfl (by kernel_rfl)) ?_
  intro W base args ds gs before hval hW _ hk _
  exact contract H enc W base args ds gs before hval hW hk

theorem closed : joinedFacts Try.prog 28 Try.f28 (Rows.OpenSpec.upto Rows.fnEncodePartsSpec).bare Rows.fnEncodePartsUptoRow = true := by
  unfold joinedFacts
  rw [enters, lifts_no, make_cut]
  kernel_rfl

theorem proved : Rows.FnEncodePartsUptoSaid :=
  OpenClaim.holds_of_cond 28 Try.f28 rfl rfl rfl rfl rfl rfl rfl ⟨rfl, rfl, rfl, rfl, rfl⟩ rfl rfl rfl rfl rfl (by kernel_rfl) Try.func28 closed
    (of_decide_eq_true (by kernel_rfl)) (by unfold Func.isWrapper; rw [if_neg (of_decide_eq_false (by kernel_rfl))]; exact ⟨rfl, rfl⟩)
    (fun os started H enc _ F => lifted os started H enc F)
end Go.Proofs.Ytgdfbnedmifjlaa.fnEncodeParts
