/- FnByte: a single byte is itself, or an equals sign and two digits, a LF in text mode a line break, whatever comes in. -/
import Derived.Test.YtgdfbnedmifjlaaDecode
import Derived.Test.YtgdfbnedmifjlaaFull
import Derived.Test.YtgdfbnedmifjlaaHead
import Derived.BigQuiet
import Derived.Deep.QuietTactic
namespace Go.Proofs.Ytgdfbnedmifjlaa.fnByte
open Go.RowKit Go.ChangeShapes Go.WideShapes Go.ChangeAt

theorem enc_feed : Qp.enc false [10] = [13, 10] := by decide +kernel
theorem enc_lit (bin : Bool) (b : UInt8) (h : Qp.lit b = true) : Qp.enc bin [b] = [b] := by
  refine Qp.enc_short bin [b] (by simp) fun l1 c l2 e => ?_
  cases l1 with
  | nil => simp at e; rw [← e.1]; exact .inl h
  | cons x xs => simp at e
theorem enc_hex (bin : Bool) (b : UInt8) (h : Qp.lit b = false) (h10 : bin = false → b ≠ 10 ∧ b ≠ 13) : Qp.enc bin [b] = [61, Qp.hexd (b.toNat / 16), Qp.hexd (b.toNat % 16)] := by
  have hs : Qp.segs bin [b] = [[b]] := by
    cases bin with
    | true => exact Qp.segs_bin [b]
    | false =>
      obtain ⟨h1, h2⟩ := h10 rfl
      have e1 : (b == 10) = false := by simpa using h1
      have e2 : (b == 13) = false := by simpa using h2
      simp [Qp.segs, Qp.segGo, e1, e2]
  rw [Qp.enc_eq, hs]
  have ht : Qp.token b true = [61, Qp.hexd (b.toNat / 16), Qp.hexd (b.toNat % 16)] := by simp [Qp.token, h, Qp.enc3]
  simp [Qp.joined, Qp.joinGo, Qp.filled, Qp.fillGo, ht]

set_option maxHeartbeats 2000000 in
theorem walk (w : World) (bin : Bool) (b : UInt8) : Calls Try.prog 11 #[.bool bin, .int .u8 (b.toNat : Int)] w (Yes w) := by
  have hlt := b.toNat_lt
  have HC1 := Lib.hid (Encode_bytes (w.alloc (.cells #[.int .u8 (b.toNat : Int)] 5)) bin _ [b] (rd_row w [b] _ rfl) (by simp))
  have HB0 := Lib.hid ((Below.refl w.heap.size w).alloc (Nat.le_refl _) (.cells #[.int .u8 (b.toNat : Int)] 5))
  obtain ⟨t1, t2⟩ := u8_tests b
  by_cases hcr : bin = false ∧ b = 13
  · obtain ⟨rfl, rfl⟩ := hcr
    clear HC1 HB0 t1 t2
    go_enter Try.func11, Try.ntmps11
    go_wp2
    go_ret
    exact ⟨rfl, Below.refl _ _⟩
  by_cases hlf : bin = false ∧ b = 10
  · obtain ⟨rfl, rfl⟩ := hlf
    rw [enc_feed] at HC1
    clear hcr t1 t2 hlt
    go_enter Try.func11, Try.ntmps11
    go_wp2_with fail
    refine HC1.out.mono ?_
    intro e w1 h
    obtain ⟨xA, xc, rfl, _, hx, hb1⟩ := h
    have k1 : (convert 24 9 (.slice xA 2 xc)).run Try.prog w1 = .ok (.string ⟨#[13, 10]⟩) w1 := conv_bytes hx
    have HB := Lib.hid (bel_old HB0.out hb1)
    clear hx hb1
    go_wp2
    go_ret
    exact ⟨rfl, HB.out⟩
  cases hlit : Qp.lit b with
  | true =>
    rw [enc_lit bin b hlit] at HC1
    have HL := Lib.hid (fun w => Lit_yes b w hlit)
    have h13 : ((b.toNat : Int) == 13) = false := by
      rw [t2]; cases hb : b == 13 with
      | false => rfl
      | true => have : b = 13 := by simpa using hb
                subst this; exact absurd hlit (by decide)
    have h10 : ((b.toNat : Int) == 10) = false := by
      rw [t1]; cases hb : b == 10 with
      | false => rfl
      | true => have : b = 10 := by simpa using hb
                subst this; exact absurd hlit (by decide)
    clear hcr hlf hlit t1 t2
    cases bin with
    | true =>
      go_enter Try.func11, Try.ntmps11
      go_wp2_with fail
      refine HC1.out.mono ?_
      intro e w1 h
      obtain ⟨xA, xc, rfl, _, hx, hb1⟩ := h
      have k1 : (convert 24 9 (.slice xA 1 xc)).run Try.prog w1 = .ok (.string ⟨#[b]⟩) w1 := conv_bytes hx
      have k2 : (convert 24 9 (.slice (some ⟨w1.heap.size, 0, none⟩) 1 1)).run Try.prog (w1.alloc (.cells #[.int .u8 (b.toNat : Int)] 5)) = .ok (.string ⟨#[b]⟩) (w1.alloc (.cells #[.int .u8 (b.toNat : Int)] 5)) := conv_bytes (rd_row w1 [b] #[.int .u8 (b.toNat : Int)] rfl)
      have HB := Lib.hid ((bel_old HB0.out hb1).alloc (bel_old HB0.out hb1).size (.cells #[.int .u8 (b.toNat : Int)] 5))
      clear hx hb1
      go_wp2_with fail
      refine (HL.out _).mono ?_
      rintro e w' ⟨rfl, rfl⟩
      go_wp2
      go_ret
      exact Yes.of (by simp) HB.out
    | false =>
      go_enter Try.func11, Try.ntmps11
      go_wp2_with fail
      refine HC1.out.mono ?_
      intro e w1 h
      obtain ⟨xA, xc, rfl, _, hx, hb1⟩ := h
      have k1 : (convert 24 9 (.slice xA 1 xc)).run Try.prog w1 = .ok (.string ⟨#[b]⟩) w1 := conv_bytes hx
      have k2 : (convert 24 9 (.slice (some ⟨w1.heap.size, 0, none⟩) 1 1)).run Try.prog (w1.alloc (.cells #[.int .u8 (b.toNat : Int)] 5)) = .ok (.string ⟨#[b]⟩) (w1.alloc (.cells #[.int .u8 (b.toNat : Int)] 5)) := conv_bytes (rd_row w1 [b] #[.int .u8 (b.toNat : Int)] rfl)
      have HB := Lib.hid ((bel_old HB0.out hb1).alloc (bel_old HB0.out hb1).size (.cells #[.int .u8 (b.toNat : Int)] 5))
      clear hx hb1
      go_wp2_with fail
      refine (HL.out _).mono ?_
      rintro e w' ⟨rfl, rfl⟩
      go_wp2
      go_ret
      exact Yes.of (by simp) HB.out
  | false =>
    have hne : bin = false → b ≠ 10 ∧ b ≠ 13 := fun h => ⟨fun e => hlf ⟨h, e⟩, fun e => hcr ⟨h, e⟩⟩
    rw [enc_hex bin b hlit hne] at HC1
    have HL := Lib.hid (fun w => Lit_no b w hlit)
    have d1 := Qp.digit_hexd (b.toNat / 16) (by omega)
    have d2 := Qp.digit_hexd (b.toNat % 16) (by omega)
    generalize Qp.hexd (b.toNat / 16) = y at *
    generalize Qp.hexd (b.toNat % 16) = z at *
    have q1 : IntKind.i64.wrap (((b.toNat / 16 : Nat) : Int) * 16) = ((b.toNat / 16 : Nat) : Int) * 16 := IntWalk.i64_in _ (by omega)
    have q2 : IntKind.i64.wrap (((b.toNat / 16 : Nat) : Int) * 16 + ((b.toNat % 16 : Nat) : Int)) = (b.toNat : Int) := by rw [IntWalk.i64_in _ (by omega)]; omega
    have q3 : IntKind.i64.wrap (b.toNat : Int) = (b.toNat : Int) := IntWalk.i64_in _ (by omega)
    have HQ := Lib.hid (And.intro q1 (And.intro q2 q3))
    have HD1 := Lib.hid d1
    have HD2 := Lib.hid d2
    clear hcr hlf hlit d1 d2 q1 q2 q3
    generalize b.toNat / 16 = m at *
    generalize b.toNat % 16 = n at *
    cases bin with
    | true =>
      clear t1 t2 hne
      go_enter Try.func11, Try.ntmps11
      go_wp2_with fail
      refine HC1.out.mono ?_
      intro e w1 h
      obtain ⟨xA, xc, rfl, _, hx, hb1⟩ := h
      obtain ⟨s, hs, k1, g0, e1, e2⟩ : ∃ s : ByteArray, ∃ hs : s.size = 3, (convert 24 9 (.slice xA 3 xc)).run Try.prog w1 = .ok (.string s) w1 ∧ (((s[0]'(by omega)).toNat : Int) == 61) = true ∧ Qp.digit (s[1]'(by omega)) = (m : Int) ∧ Qp.digit (s[2]'(by omega)) = (n : Int) := ⟨⟨#[61, y, z]⟩, rfl, conv_bytes hx, rfl, HD1.out, HD2.out⟩
      have HDy := Lib.hid (fun w => (Digit_calls (s[1]'(by omega)) w).mono fun _ _ h => And.intro h.1 h.2.symm)
      have HDz := Lib.hid (fun w => (Digit_calls (s[2]'(by omega)) w).mono fun _ _ h => And.intro h.1 h.2.symm)
      rw [e1] at HDy
      rw [e2] at HDz
      have HB := Lib.hid (bel_old HB0.out hb1)
      clear hx hb1 e1 e2
      go_wp2_with fail
      refine (HL.out _).mono ?_
      rintro e w' ⟨rfl, rfl⟩
      go_wp2_with fail
      have g3 : ((s.size : Int) == 3) = true := by rw [hs]; rfl
      have b0 : (0 : Int) < (s.size : Int) := by omega
      have b1 : (1 : Int) < (s.size : Int) := by omega
      have b2 : (2 : Int) < (s.size : Int) := by omega
      obtain ⟨q1, q2, q3⟩ := HQ.out
      go_quiet ((go_at_call 41; with_reducible (first | exact Calls.quiet_of_same (HDy.out _) | exact Calls.quiet_of_same (HDz.out _))))
      go_wp2
      go_ret
      exact Yes.of (by simp) (bel_drewN HB.out _)
    | false =>
      obtain ⟨hn1, hn2⟩ := hne rfl
      have h10 : ((b.toNat : Int) == 10) = false := by rw [t1]; simpa using hn1
      have h13 : ((b.toNat : Int) == 13) = false := by rw [t2]; simpa using hn2
      clear t1 t2 hne hn1 hn2
      go_enter Try.func11, Try.ntmps11
      go_wp2_with fail
      refine HC1.out.mono ?_
      intro e w1 h
      obtain ⟨xA, xc, rfl, _, hx, hb1⟩ := h
      obtain ⟨s, hs, k1, g0, e1, e2⟩ : ∃ s : ByteArray, ∃ hs : s.size = 3, (convert 24 9 (.slice xA 3 xc)).run Try.prog w1 = .ok (.string s) w1 ∧ (((s[0]'(by omega)).toNat : Int) == 61) = true ∧ Qp.digit (s[1]'(by omega)) = (m : Int) ∧ Qp.digit (s[2]'(by omega)) = (n : Int) := ⟨⟨#[61, y, z]⟩, rfl, conv_bytes hx, rfl, HD1.out, HD2.out⟩
      have HDy := Lib.hid (fun w => (Digit_calls (s[1]'(by omega)) w).mono fun _ _ h => And.intro h.1 h.2.symm)
      have HDz := Lib.hid (fun w => (Digit_calls (s[2]'(by omega)) w).mono fun _ _ h => And.intro h.1 h.2.symm)
      rw [e1] at HDy
      rw [e2] at HDz
      have HB := Lib.hid (bel_old HB0.out hb1)
      clear hx hb1 e1 e2
      go_wp2_with fail
      refine (HL.out _).mono ?_
      rintro e w' ⟨rfl, rfl⟩
      go_wp2_with fail
      have g3 : ((s.size : Int) == 3) = true := by rw [hs]; rfl
      have b0 : (0 : Int) < (s.size : Int) := by omega
      have b1 : (1 : Int) < (s.size : Int) := by omega
      have b2 : (2 : Int) < (s.size : Int) := by omega
      obtain ⟨q1, q2, q3⟩ := HQ.out
      go_quiet ((go_at_call 41; with_reducible (first | exact Calls.quiet_of_same (HDy.out _) | exact Calls.quiet_of_same (HDz.out _))))
      go_wp2
      go_ret
      exact Yes.of (by simp) (bel_drewN HB.out _)

theorem contract (H : Type) (enc : TypeId × Value → H) (W : World) (base : Nat) (args : Array Value) (ds gs : List (DataW H)) (before : List MemPlace)
    (hval : ∀ (j : Nat) t v, Try.f11.params[j]? = some t → args[j]? = some v → Value.okWide Try.prog W .any base t v)
    (hW : DataW.Whole enc Try.prog Try.f11.params.toList Rows.fnByteSpec.vars false W args.toList ds gs before) :
    Calls Try.prog 11 args W fun e W' => ∃ v, e = .returned v ∧ Rows.fnByteSpec.post enc Try.prog Try.f11 false true false false W args v W' := by
  have hW' := hW
  obtain ⟨p, q, hA0, hV, rfl, _, _⟩ := hW
  have hA : DataW.TrodAll enc Try.prog W 0 (fun _ => true) true Try.f11.params.toList args.toList ds p := hA0
  rw [Try.params11] at hA hval
  obtain ⟨v0, vs0, d0, ds0, p0, q0, hargs, rfl, rfl, h0, r0⟩ := trodAll_cons hA
  obtain ⟨v1, vs1, d1, ds1, p1, q1, rfl, rfl, rfl, h1, r1⟩ := trodAll_cons r0
  obtain ⟨rfl, rfl, rfl⟩ := trodAll_nil r1
  obtain rfl : args = #[v0, v1] := by cases args; simp_all
  obtain ⟨rfl, rfl⟩ := trodVars_none hV
  obtain ⟨a0, rfl, _, _⟩ := open_bool Try.underlying4 (hval 0 4 v0 rfl rfl) h0
  obtain ⟨z1, rfl, _, _, w1⟩ := open_int Try.underlying5 (hval 1 5 v1 rfl rfl) h1
  obtain ⟨a1, rfl⟩ := byte_of_wf w1
  refine (walk W a0 a1).mono fun e W' ⟨he, hg⟩ => ?_
  subst he
  exact ⟨_, rfl, law_post hW' rfl rfl rfl rfl rfl (by rw [Try.params11]; intro t ht; simp at ht; rcases ht with rfl | rfl <;> exact ⟨by kernel_rfl, of_decide_eq_true (by kernel_rfl)⟩) hg⟩

set_option maxRecDepth 100000 in
theorem lifted (os : Os) (started : os.Started) (H : Type) (enc : TypeId × Value → H) :
    ReturnsInHanded {} Try.checked os 11 .any (Rows.fnByteSpec.pre6 enc Try.prog Try.f11 Rows.fnByteRow.domain false) (Rows.fnByteSpec.post enc Try.prog Try.f11 false true false false) := by
  refine returnsInHanded_of_change (C := Try.checked) Try.ownk started (by kernel_rfl) Try.func11
    (ChangeSpec.witness6 (enc := enc) (C := Try.checked) false ⟨#[], #[.bool false, .int .u8 0], []⟩ 8 (by kernel_rfl) (by kernel_rfl) (by kernel_rfl) (by kernel_rfl)) ?_
  intro W base args ds gs before hval hW _ _
  exact contract H enc W base args ds gs before hval hW

theorem closed : joinedFacts Try.prog 11 Try.f11 Rows.fnByteSpec Rows.fnByteRow = true := by
  unfold joinedFacts
  rw [enters, lifts_no, make_cut]
  kernel_rfl

theorem proved : Rows.FnByteSaid :=
  OpenClaim.holds_of_wide 11 Try.f11 rfl rfl rfl rfl rfl rfl rfl ⟨rfl, rfl, rfl, rfl, rfl⟩ rfl rfl rfl rfl rfl (by kernel_rfl) Try.func11 closed
    (of_decide_eq_true (by kernel_rfl)) (by unfold Func.isWrapper; rw [if_neg (of_decide_eq_false (by kernel_rfl))]; exact ⟨rfl, rfl⟩)
    (fun os started H enc _ => lifted os started H enc)
end Go.Proofs.Ytgdfbnedmifjlaa.fnByte
