/- FnRight: what is encoded is right quoted-printable text, whatever the data, where what comes in is of bulk at most 1048576. -/
import Derived.Test.YtgdfbnedmifjlaaDecode
import Derived.Test.YtgdfbnedmifjlaaPlainC
import Derived.Test.YtgdfbnedmifjlaaHead
namespace Go.Proofs.Ytgdfbnedmifjlaa.fnRight
open Go.RowKit Go.ChangeShapes Go.WideShapes Go.ChangeAt

set_option maxHeartbeats 1000000 in
theorem walk (w : World) (bin : Bool) (u : Value) (l : List UInt8) (hr : Rd w 1 u l.length (l.map bv)) (hl : l.length ≤ 1048576) : Calls Try.prog 21 #[.bool bin, u] w (Yes w) := by
  have hle := (Qp.enc_len bin l).2
  have hpos := Qp.enc_pos bin l
  have hdec := Qp.decode_enc bin l
  have hdl := Qp.dec_len bin l
  have HC1 := Lib.hid (Encode_bytes w bin u l hr (by omega))
  have HD := Lib.hid hdec
  obtain ⟨A, c, rfl, _⟩ := hr.shape
  clear hr hdec
  generalize Qp.enc bin l = x at *
  generalize Qp.joined (Qp.segs bin l) = d at *
  go_enter Try.func21, Try.ntmps21
  go_wp2_with fail
  refine HC1.out.mono ?_
  intro e w1 h
  obtain ⟨xA, xc, rfl, _, hx, hb1⟩ := h
  have HC2 := Lib.hid (Decode_calls w1 _ x d hx (by omega) HD.out (by omega))
  have HB1 := Lib.hid hb1
  clear hx hb1
  go_wp2_with fail
  refine HC2.out.mono ?_
  intro e w2 h
  obtain ⟨dA, dc, rfl, hd, hb2⟩ := h
  have HB := Lib.hid (bel_old HB1.out hb2)
  clear hd hb2
  by_cases hp : 0 < x.length
  · have hp' : (0 : Int) < (x.length : Int) := by omega
    clear hpos
    go_wp2
    go_ret
    exact ⟨rfl, HB.out⟩
  · have hp' : ¬ (0 : Int) < (x.length : Int) := by omega
    have ha0 : l.length ≤ 0 := by omega
    clear hpos
    go_wp2
    go_ret
    exact Yes.of (len_zero ha0) HB.out

theorem contract (H : Type) (enc : TypeId × Value → H) (W : World) (base : Nat) (args : Array Value) (ds gs : List (DataW H)) (before : List MemPlace)
    (hval : ∀ (j : Nat) t v, Try.f21.params[j]? = some t → args[j]? = some v → Value.okWide Try.prog W .any base t v)
    (hW : DataW.Whole enc Try.prog Try.f21.params.toList Rows.fnRightSpec.vars false W args.toList ds gs before) (hk : Rows.uptoSmall H (ds ++ gs) = true) :
    Calls Try.prog 21 args W fun e W' => ∃ v, e = .returned v ∧ Rows.fnRightSpec.post enc Try.prog Try.f21 false true false false W args v W' := by
  have hW' := hW
  have hlt := hW.lt
  obtain ⟨p, q, hA0, hV, rfl, _, _⟩ := hW
  have hA : DataW.TrodAll enc Try.prog W 0 (fun _ => true) true Try.f21.params.toList args.toList ds p := hA0
  rw [Try.params21] at hA hval
  obtain ⟨v0, vs0, d0, ds0, p0, q0, hargs, rfl, rfl, h0, r0⟩ := trodAll_cons hA
  obtain ⟨v1, vs1, d1, ds1, p1, q1, rfl, rfl, rfl, h1, r1⟩ := trodAll_cons r0
  obtain ⟨rfl, rfl, rfl⟩ := trodAll_nil r1
  obtain rfl : args = #[v0, v1] := by cases args; simp_all
  obtain ⟨rfl, rfl⟩ := trodVars_none hV
  have hbulk := bulk_of hk
  obtain ⟨a0, rfl, _, _⟩ := open_bool Try.underlying4 (hval 0 4 v0 rfl rfl) h0
  obtain ⟨l1, g1, b1⟩ := open_bytes (hval 1 24 v1 rfl rfl) h1 (fun y hy => hlt y (by simp [hy]))
  simp only [List.append_nil, Rows.uptoBulkAll] at hbulk
  refine (walk W a0 v1 l1 g1 (by omega)).mono fun e W' ⟨he, hg⟩ => ?_
  subst he
  exact ⟨_, rfl, law_post hW' rfl rfl rfl rfl rfl (by rw [Try.params21]; intro t ht; simp at ht; rcases ht with rfl | rfl <;> exact ⟨by kernel_rfl, of_decide_eq_true (by kernel_rfl)⟩) hg⟩

set_option maxRecDepth 100000 in
theorem lifted (os : Os) (started : os.Started) (H : Type) (enc : TypeId × Value → H) (F : Stop.Interp) :
    ReturnsInHanded {} Try.checked os 21 .any ((Rows.OpenSpec.upto Rows.fnRightSpec).pre6 enc Try.prog Try.f21 Rows.fnRightUptoRow.domain false) (((Rows.OpenSpec.upto Rows.fnRightSpec).at F).post enc Try.prog Try.f21 false true false false) := by
  refine returnsInHanded_of_cond (C := Try.checked) (s := Rows.OpenSpec.upto Rows.fnRightSpec) (k := Rows.uptoSmall) rfl Try.ownk started (by kernel_rfl) Try.func21
    (OpenSpec.witness (enc := enc) (C := Try.checked) (s := Rows.OpenSpec.upto Rows.fnRightSpec) (k := Rows.uptoSmall) rfl false ⟨#[], #[.bool false, .slice none 0 0], []⟩ 8 (by kernel_rfl) (by kernel_rfl) (by kernel_rfl)
      (x := ([.lit (.bool false), .nil], [], [])) (by kernel_rfl) rfl (by kernel_rfl)) ?_
  intro W base args ds gs before hval hW _ hk _
  exact contract H enc W base args ds gs before hval hW hk

theorem closed : joinedFacts Try.prog 21 Try.f21 (Rows.OpenSpec.upto Rows.fnRightSpec).bare Rows.fnRightUptoRow = true := by
  unfold joinedFacts
  rw [enters, lifts_no, make_cut]
  kernel_rfl

theorem proved : Rows.FnRightUptoSaid :=
  OpenClaim.holds_of_cond 21 Try.f21 rfl rfl rfl rfl rfl rfl rfl ⟨rfl, rfl, rfl, rfl, rfl⟩ rfl rfl rfl rfl rfl (by kernel_rfl) Try.func21 closed
    (of_decide_eq_true (by kernel_rfl)) (by unfold Func.isWrapper; rw [if_neg (of_decide_eq_false (by kernel_rfl))]; exact ⟨rfl, rfl⟩)
    (fun os started H enc _ F => lifted os started H enc F)
end Go.Proofs.Ytgdfbnedmifjlaa.fnRight
