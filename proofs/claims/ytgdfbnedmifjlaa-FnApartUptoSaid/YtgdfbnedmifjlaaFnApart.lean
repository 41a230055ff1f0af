/- FnApart: in binary mode two data have the same encoded text if and only if they are the same, where what comes in is of bulk at most 1048576. -/
import Derived.Test.YtgdfbnedmifjlaaEnc
import Derived.Test.YtgdfbnedmifjlaaHead
namespace Go.Proofs.Ytgdfbnedmifjlaa.fnApart
open Go.RowKit Go.ChangeShapes Go.WideShapes Go.ChangeAt

set_option maxHeartbeats 1000000 in
theorem walk (w : World) (u : Value) (a : List UInt8) (v : Value) (b : List UInt8) (ha : Rd w 1 u a.length (a.map bv)) (hla : a.length ≤ 1048576) (hb : Rd w 1 v b.length (b.map bv)) (hlb : b.length ≤ 1048576) :
    Calls Try.prog 8 #[u, v] w (Yes w) := by
  have hiff : (Qp.enc true a == Qp.enc true b) = (a == b) := by
    rw [Bool.eq_iff_iff]
    simp only [beq_iff_eq]
    exact ⟨Qp.enc_apart a b, fun h => by rw [h]⟩
  have hpos := Qp.enc_pos true a
  have HC1 := Lib.hid (Encode_bytes w true u a ha (by omega))
  have HC2 := Lib.hid (fun w1 (h : Below w.heap.size w w1) => Encode_bytes w1 true v b (hb.keep h) (by omega))
  have HA := Lib.hid ha
  have HBB := Lib.hid hb
  have HI := Lib.hid hiff
  obtain ⟨A, c, rfl, _⟩ := ha.shape
  obtain ⟨A', c', rfl, _⟩ := hb.shape
  clear ha hb hiff
  generalize Qp.enc true a = x at *
  generalize Qp.enc true b = y at *
  go_enter Try.func8, Try.ntmps8
  go_wp2_with fail
  refine HC1.out.mono ?_
  intro e w1 h
  obtain ⟨xA, xc, rfl, _, hx, hb1⟩ := h
  have HX := Lib.hid hx
  have HB1 := Lib.hid hb1
  clear hx hb1
  go_wp2_with fail
  refine (HC2.out w1 HB1.out).mono ?_
  intro e w2 h
  obtain ⟨yA, yc, rfl, _, hy, hb2⟩ := h
  have HY := Lib.hid hy
  have HB2 := Lib.hid hb2
  clear hy hb2
  have HB := Lib.hid (bel_old HB1.out HB2.out)
  have HS1 := Lib.hid (Same_calls w2 _ _ x y (HX.out.keep HB2.out) HY.out)
  have HS2 := Lib.hid (Same_calls w2 _ _ a b (HA.out.keep HB.out) (HBB.out.keep HB.out))
  rw [HI.out] at HS1
  generalize (a == b) = r at HS1 HS2
  clear HI HA HBB HX HY
  go_wp2_with fail
  refine HS1.out.mono ?_
  rintro e w' ⟨rfl, rfl⟩
  go_wp2_with fail
  refine HS2.out.mono ?_
  rintro e w' ⟨rfl, rfl⟩
  by_cases hp : 0 < x.length
  · have hp' : (0 : Int) < (x.length : Int) := by omega
    clear hpos
    go_wp2
    go_ret
    exact ⟨rfl, HB.out⟩
  · have hp' : ¬ (0 : Int) < (x.length : Int) := by omega
    have ha0 : a.length ≤ 0 := by omega
    clear hpos
    go_wp2
    go_ret
    exact Yes.of (len_zero ha0) HB.out

theorem contract (H : Type) (enc : TypeId × Value → H) (W : World) (base : Nat) (args : Array Value) (ds gs : List (DataW H)) (before : List MemPlace)
    (hval : ∀ (j : Nat) t v, Try.f8.params[j]? = some t → args[j]? = some v → Value.okWide Try.prog W .any base t v)
    (hW : DataW.Whole enc Try.prog Try.f8.params.toList Rows.fnApartSpec.vars false W args.toList ds gs before) (hk : Rows.uptoSmall H (ds ++ gs) = true) :
    Calls Try.prog 8 args W fun e W' => ∃ v, e = .returned v ∧ Rows.fnApartSpec.post enc Try.prog Try.f8 false true false false W args v W' := by
  have hW' := hW
  have hlt := hW.lt
  obtain ⟨p, q, hA0, hV, rfl, _, _⟩ := hW
  have hA : DataW.TrodAll enc Try.prog W 0 (fun _ => true) true Try.f8.params.toList args.toList ds p := hA0
  rw [Try.params8] at hA hval
  obtain ⟨v0, vs0, d0, ds0, p0, q0, hargs, rfl, rfl, h0, r0⟩ := trodAll_cons hA
  obtain ⟨v1, vs1, d1, ds1, p1, q1, rfl, rfl, rfl, h1, r1⟩ := trodAll_cons r0
  obtain ⟨rfl, rfl, rfl⟩ := trodAll_nil r1
  obtain rfl : args = #[v0, v1] := by cases args; simp_all
  obtain ⟨rfl, rfl⟩ := trodVars_none hV
  have hbulk := bulk_of hk
  obtain ⟨l0, g0, b0⟩ := open_bytes (hval 0 24 v0 rfl rfl) h0 (fun y hy => hlt y (by simp [hy]))
  obtain ⟨l1, g1, b1⟩ := open_bytes (hval 1 24 v1 rfl rfl) h1 (fun y hy => hlt y (by simp [hy]))
  simp only [List.append_nil, Rows.uptoBulkAll] at hbulk
  refine (walk W v0 l0 v1 l1 g0 (by omega) g1 (by omega)).mono fun e W' ⟨he, hg⟩ => ?_
  subst he
  exact ⟨_, rfl, law_post hW' rfl rfl rfl rfl rfl (by rw [Try.params8]; intro t ht; simp at ht; subst ht; exact ⟨by kernel_rfl, of_decide_eq_true (by kernel_rfl)⟩) hg⟩

set_option maxRecDepth 100000 in
theorem lifted (os : Os) (started : os.Started) (H : Type) (enc : TypeId × Value → H) (F : Stop.Interp) :
    ReturnsInHanded {} Try.checked os 8 .any ((Rows.OpenSpec.upto Rows.fnApartSpec).pre6 enc Try.prog Try.f8 Rows.fnApartUptoRow.domain false) (((Rows.OpenSpec.upto Rows.fnApartSpec).at F).post enc Try.prog Try.f8 false true false false) := by
  refine returnsInHanded_of_cond (C := Try.checked) (s := Rows.OpenSpec.upto Rows.fnApartSpec) (k := Rows.uptoSmall) rfl Try.ownk started (by kernel_rfl) Try.func8
    (OpenSpec.witness (enc := enc) (C := Try.checked) (s := Rows.OpenSpec.upto Rows.fnApartSpec) (k := Rows.uptoSmall) rfl false ⟨#[], #[.slice none 0 0, .slice none 0 0], []⟩ 8 (by kernel_rfl) (by kernel_rfl) (by kernel_rfl)
      (x := ([.nil, .nil], [], [])) (by kernel_rfl) rfl (by kernel_rfl)) ?_
  intro W base args ds gs before hval hW _ hk _
  exact contract H enc W base args ds gs before hval hW hk

theorem closed : joinedFacts Try.prog 8 Try.f8 (Rows.OpenSpec.upto Rows.fnApartSpec).bare Rows.fnApartUptoRow = true := by
  unfold joinedFacts
  rw [enters, lifts_no, make_cut]
  kernel_rfl

theorem proved : Rows.FnApartUptoSaid :=
  OpenClaim.holds_of_cond 8 Try.f8 rfl rfl rfl rfl rfl rfl rfl ⟨rfl, rfl, rfl, rfl, rfl⟩ rfl rfl rfl rfl rfl (by kernel_rfl) Try.func8 closed
    (of_decide_eq_true (by kernel_rfl)) (by unfold Func.isWrapper; rw [if_neg (of_decide_eq_false (by kernel_rfl))]; exact ⟨rfl, rfl⟩)
    (fun os started H enc _ F => lifted os started H enc F)
end Go.Proofs.Ytgdfbnedmifjlaa.fnApart
