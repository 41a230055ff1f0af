/- FnLineLength: no encoded line has more than 76 characters, where what comes in is of bulk at most 1048576. -/
import Derived.Test.YtgdfbnedmifjlaaLines
import Derived.Test.YtgdfbnedmifjlaaHead
namespace Go.Proofs.Ytgdfbnedmifjlaa.fnLineLength
open Go.RowKit Go.ChangeShapes Go.WideShapes Go.ChangeAt

set_option maxHeartbeats 2000000 in
theorem walk (w : World) (bin : Bool) (u : Value) (l : List UInt8) (hr : Rd w 1 u l.length (l.map bv)) (hl : l.length ≤ 1048576) : Calls Try.prog 17 #[.bool bin, u] w (Yes w) := by
  have hle := (Qp.enc_len bin l).2
  have hpos := Qp.enc_pos bin l
  have HSh := Lib.hid (Qp.lines_short bin l)
  have HC1 := Lib.hid (Encode_bytes w bin u l hr (by omega))
  obtain ⟨A, c, rfl, _⟩ := hr.shape
  clear hr
  generalize Qp.enc bin l = x at *
  have hcnt : (Qp.lines x).length ≤ x.length + 1 := lines_count x []
  go_enter Try.func17, Try.ntmps17
  go_wp2_with fail
  refine HC1.out.mono ?_
  intro e w1 h
  obtain ⟨xA, xc, rfl, _, hx, hb1⟩ := h
  have HC2 := Lib.hid (Lines_calls w1 _ x hx (by omega))
  have HB1 := Lib.hid hb1
  clear hx hb1
  go_wp2_with fail
  refine HC2.out.mono ?_
  intro e w2 h
  obtain ⟨yA, yc, rfl, _, hy, hb2⟩ := h
  have HP := Lib.hid hy
  have HB := Lib.hid (bel_old HB1.out hb2)
  clear hy hb2
  generalize Qp.lines x = ls at *
  go_wp2_with fail
  go_loop [14] (fun i => ∃ k : Nat, k ≤ ls.length ∧ i = .int .i64 k) (fun i => ls.length - (intOf i).toNat)
  case atStart => exact ⟨0, Nat.zero_le _, rfl⟩
  case round =>
    obtain ⟨k, hk, rfl⟩ := hrel
    by_cases hkl : k < ls.length
    · obtain ⟨ab, ao, rfl, _, hcell⟩ := HP.out.get hkl
      obtain ⟨p, hp⟩ : ∃ p, ls[k]? = some p := ⟨ls[k], List.getElem?_eq_getElem hkl⟩
      obtain ⟨dA, dc, c1, _⟩ := hcell k p hp
      have h76 : p.length ≤ 76 := HSh.out p (List.mem_of_getElem? hp)
      clear hcell hp
      go_wp2_with fail
      go_round
      case rel => exact ⟨k + 1, by omega, by go_num⟩
      case measure => simp [intOf]; omega
    · by_cases hp : 0 < x.length
      · have hp' : (0 : Int) < (x.length : Int) := by omega
        clear hpos
        go_wp2
        go_ret
        exact ⟨rfl, HB.out⟩
      · have hp' : ¬ (0 : Int) < (x.length : Int) := by omega
        have ha0 : l.length ≤ 0 := by omega
        clear hpos
        go_wp2
        go_ret
        exact Yes.of (len_zero ha0) HB.out

theorem contract (H : Type) (enc : TypeId × Value → H) (W : World) (base : Nat) (args : Array Value) (ds gs : List (DataW H)) (before : List MemPlace)
    (hval : ∀ (j : Nat) t v, Try.f17.params[j]? = some t → args[j]? = some v → Value.okWide Try.prog W .any base t v)
    (hW : DataW.Whole enc Try.prog Try.f17.params.toList Rows.fnLineLengthSpec.vars false W args.toList ds gs before) (hk : Rows.uptoSmall H (ds ++ gs) = true) :
    Calls Try.prog 17 args W fun e W' => ∃ v, e = .returned v ∧ Rows.fnLineLengthSpec.post enc Try.prog Try.f17 false true false false W args v W' := by
  have hW' := hW
  have hlt := hW.lt
  obtain ⟨p, q, hA0, hV, rfl, _, _⟩ := hW
  have hA : DataW.TrodAll enc Try.prog W 0 (fun _ => true) true Try.f17.params.toList args.toList ds p := hA0
  rw [Try.params17] at hA hval
  obtain ⟨v0, vs0, d0, ds0, p0, q0, hargs, rfl, rfl, h0, r0⟩ := trodAll_cons hA
  obtain ⟨v1, vs1, d1, ds1, p1, q1, rfl, rfl, rfl, h1, r1⟩ := trodAll_cons r0
  obtain ⟨rfl, rfl, rfl⟩ := trodAll_nil r1
  obtain rfl : args = #[v0, v1] := by cases args; simp_all
  obtain ⟨rfl, rfl⟩ := trodVars_none hV
  have hbulk := bulk_of hk
  obtain ⟨a0, rfl, _, _⟩ := open_bool Try.underlying4 (hval 0 4 v0 rfl rfl) h0
  obtain ⟨l1, g1, b1⟩ := open_bytes (hval 1 24 v1 rfl rfl) h1 (fun y hy => hlt y (by simp [hy]))
  simp only [List.append_nil, Rows.uptoBulkAll] at hbulk
  refine (walk W a0 v1 l1 g1 (by omega)).mono fun e W' ⟨he, hg⟩ => ?_
  subst he
  exact ⟨_, rfl, law_post hW' rfl rfl rfl rfl rfl (by rw [Try.params17]; intro t ht; simp at ht; rcases ht with rfl | rfl <;> exact ⟨by kernel_rfl, of_decide_eq_true (by kernel_rfl)⟩) hg⟩

set_option maxRecDepth 100000 in
theorem lifted (os : Os) (started : os.Started) (H : Type) (enc : TypeId × Value → H) (F : Stop.Interp) :
    ReturnsInHanded {} Try.checked os 17 .any ((Rows.OpenSpec.upto Rows.fnLineLengthSpec).pre6 enc Try.prog Try.f17 Rows.fnLineLengthUptoRow.domain false) (((Rows.OpenSpec.upto Rows.fnLineLengthSpec).at F).post enc Try.prog Try.f17 false true false false) := by
  refine returnsInHanded_of_cond (C := Try.checked) (s := Rows.OpenSpec.upto Rows.fnLineLengthSpec) (k := Rows.uptoSmall) rfl Try.ownk started (by kernel_rfl) Try.func17
    (OpenSpec.witness (enc := enc) (C := Try.checked) (s := Rows.OpenSpec.upto Rows.fnLineLengthSpec) (k := Rows.uptoSmall) rfl false ⟨#[], #[.bool false, .slice none 0 0], []⟩ 8 (by kernel_rfl) (by kernel_rfl) (by kernel_rfl)
      (x := ([.lit (.bool false), .nil], [], [])) (by kernel_rfl) rfl (by kernel_rfl)) ?_
  intro W base args ds gs before hval hW _ hk _
  exact contract H enc W base args ds gs before hval hW hk

theorem closed : joinedFacts Try.prog 17 Try.f17 (Rows.OpenSpec.upto Rows.fnLineLengthSpec).bare Rows.fnLineLengthUptoRow = true := by
  unfold joinedFacts
  rw [enters, lifts_no, make_cut]
  kernel_rfl

theorem proved : Rows.FnLineLengthUptoSaid :=
  OpenClaim.holds_of_cond 17 Try.f17 rfl rfl rfl rfl rfl rfl rfl ⟨rfl, rfl, rfl, rfl, rfl⟩ rfl rfl rfl rfl rfl (by kernel_rfl) Try.func17 closed
    (of_decide_eq_true (by kernel_rfl)) (by unfold Func.isWrapper; rw [if_neg (of_decide_eq_false (by kernel_rfl))]; exact ⟨rfl, rfl⟩)
    (fun os started H enc _ F => lifted os started H enc F)
end Go.Proofs.Ytgdfbnedmifjlaa.fnLineLength
