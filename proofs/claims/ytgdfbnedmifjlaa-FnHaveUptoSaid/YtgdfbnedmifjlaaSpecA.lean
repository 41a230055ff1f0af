/- The reference's small functions: Literal, Blank, Digit, Break, Unbroken, Paired, Fed; Whole. -/
import Derived.Test.YtgdfbnedmifjlaaEnc
namespace Go.Proofs.Ytgdfbnedmifjlaa
open Go.RowKit

theorem Blank_calls (x : UInt8) (w : World) : Calls Try.prog 46 #[.int .u8 (x.toNat : Int)] w fun e w' => e = .returned (.bool (Qp.blank x)) ∧ w = w' := by
  have e : Qp.blank x = (((x.toNat : Int) == 32) || ((x.toNat : Int) == 9)) := by
    unfold Qp.blank
    have h1' : ((x.toNat : Int) == 32) = (x == 32) := int_eq_u8 x 32 (by omega)
    have h2' : ((x.toNat : Int) == 9) = (x == 9) := int_eq_u8 x 9 (by omega)
    rw [h1', h2']
  have HE := Lib.hid e
  clear e
  by_cases g1 : ((x.toNat : Int) == 32) = true
  · go_enter Try.func46, Try.ntmps46
    go_wp2
    go_ret
    exact ⟨by rw [HE.out, g1]; rfl, rfl⟩
  · have g1' : ((x.toNat : Int) == 32) = false := by simpa using g1
    clear g1
    by_cases g2 : ((x.toNat : Int) == 9) = true
    · go_enter Try.func46, Try.ntmps46
      go_wp2
      go_ret
      exact ⟨by rw [HE.out, g1', g2]; rfl, rfl⟩
    · have g2' : ((x.toNat : Int) == 9) = false := by simpa using g2
      clear g2
      go_enter Try.func46, Try.ntmps46
      go_wp2
      go_ret
      exact ⟨by rw [HE.out, g1', g2']; rfl, rfl⟩
theorem lit_kinds (x : UInt8) : (Qp.lit x = true ∧ (33 : Int) ≤ (x.toNat : Int) ∧ (x.toNat : Int) ≤ 126 ∧ ((x.toNat : Int) != 61) = true) ∨ (Qp.lit x = false ∧ (x.toNat : Int) < 33) ∨ (Qp.lit x = false ∧ (126 : Int) < (x.toNat : Int)) ∨
    (Qp.lit x = false ∧ (33 : Int) ≤ (x.toNat : Int) ∧ (x.toNat : Int) ≤ 126 ∧ ((x.toNat : Int) != 61) = false) := by
  have t61 : ((x.toNat : Int) != 61) = (x != 61) := by
    have : ((x.toNat : Int) == 61) = (x == 61) := int_eq_u8 x 61 (by omega)
    simp only [bne, this]
  rw [t61]
  rcases Int.lt_or_le (x.toNat : Int) 33 with h | h
  · exact .inr (.inl ⟨by simp [Qp.lit]; omega, h⟩)
  · rcases Int.lt_or_le (126 : Int) (x.toNat : Int) with h2 | h2
    · exact .inr (.inr (.inl ⟨by simp [Qp.lit]; omega, h2⟩))
    · cases hx : (x != 61) with
      | true => exact .inl ⟨by simp only [Qp.lit, hx, Bool.and_true, Bool.and_eq_true, decide_eq_true_eq]; omega, h, h2, rfl⟩
      | false => exact .inr (.inr (.inr ⟨by simp [Qp.lit, hx], h, h2, rfl⟩))
theorem Literal_calls (x : UInt8) (w : World) : Calls Try.prog 40 #[.int .u8 (x.toNat : Int)] w fun e w' => e = .returned (.bool (Qp.lit x)) ∧ w = w' := by
  have hxlt := x.toNat_lt
  rcases lit_kinds x with ⟨h, g1, g2, g3⟩ | ⟨h, g1⟩ | ⟨h, g1⟩ | ⟨h, g1, g2, g3⟩
  all_goals
    rw [h]
    clear h
    go_enter Try.func40, Try.ntmps40
    go_wp2
    go_ret
    exact ⟨rfl, rfl⟩

theorem digit_kinds (x : UInt8) : ((48 : Int) ≤ (x.toNat : Int) ∧ (x.toNat : Int) ≤ 57 ∧ Qp.digit x = (x.toNat : Int) - 48) ∨ ((65 : Int) ≤ (x.toNat : Int) ∧ (x.toNat : Int) ≤ 70 ∧ Qp.digit x = (x.toNat : Int) - 65 + 10) ∨
    ((x.toNat : Int) < 48 ∧ Qp.digit x = -1) ∨ ((57 : Int) < (x.toNat : Int) ∧ (x.toNat : Int) < 65 ∧ Qp.digit x = -1) ∨ ((70 : Int) < (x.toNat : Int) ∧ Qp.digit x = -1) := by
  unfold Qp.digit
  split
  · omega
  · split <;> omega
theorem ret_int {k : IntKind} {a b : Int} (h : a = b) : Ending.returned (.int k a) = .returned (.int k b) := by rw [h]
theorem Digit_calls (x : UInt8) (w : World) : Calls Try.prog 41 #[.int .u8 (x.toNat : Int)] w fun e w' => e = .returned (.int .i64 (Qp.digit x)) ∧ w = w' := by
  have hxlt := x.toNat_lt
  rcases digit_kinds x with ⟨g1, g2, h⟩ | ⟨g1, g2, h⟩ | ⟨g1, h⟩ | ⟨g1, g2, h⟩ | ⟨g1, h⟩
  all_goals
    have H := Lib.hid h
    clear h
    go_enter Try.func41, Try.ntmps41
    go_wp2
    go_ret
    exact ⟨ret_int (by rw [H.out]), rfl⟩

/-! Break. -/
theorem brk_short (l : List UInt8) (k : Nat) (h : l.length ≤ k + 1) : Qp.brk (l.drop k) = false := by
  have hl : (l.drop k).length ≤ 1 := by simp; omega
  match hd : l.drop k with
  | [] => rfl
  | [_] => rfl
  | _ :: _ :: _ => rw [hd] at hl; simp at hl
theorem brk_at (l : List UInt8) (k : Nat) (h : k + 1 < l.length) : Qp.brk (l.drop k) = (l[k] == 13 && l[k + 1] == 10) := by
  rw [List.drop_eq_getElem_cons (by omega), List.drop_eq_getElem_cons h]
  rfl
theorem Break_calls (w : World) (v : Value) (l : List UInt8) (k : Nat) (z : Int) (hz : z = (k : Int)) (hr : Rd w 1 v l.length (l.map bv)) (_hl : l.length ≤ 1099511627776) (hk : k ≤ 1099511627776) :
    Calls Try.prog 54 #[v, .int .i64 z] w fun e w' => e = .returned (.bool (Qp.brk (l.drop k))) ∧ w = w' := by
  subst hz
  obtain ⟨A, c, rfl, _⟩ := hr.shape
  by_cases hlt : k + 1 < l.length
  · obtain ⟨ab, ao, rfl, _, hcell⟩ := hr.byte (k := k) (by omega)
    have c1 := hcell k (by omega)
    have c2 := hcell (k + 1) hlt
    have e := brk_at l k hlt
    obtain ⟨t1, t2⟩ := u8_tests l[k]
    obtain ⟨t3, t4⟩ := u8_tests l[k + 1]
    generalize l[k] = x at *
    generalize l[k + 1] = y at *
    rw [← t2, ← t3] at e
    have HE := Lib.hid e
    clear hr hcell e t1 t2 t3 t4
    by_cases g1 : ((x.toNat : Int) == 13) = true
    · go_enter Try.func54, Try.ntmps54
      go_wp2
      go_ret
      exact ⟨by rw [HE.out, g1]; rfl, rfl⟩
    · have g1' : ((x.toNat : Int) == 13) = false := by simpa using g1
      clear g1
      go_enter Try.func54, Try.ntmps54
      go_wp2
      go_ret
      exact ⟨by rw [HE.out, g1']; rfl, rfl⟩
  · have e := brk_short l k (by omega)
    have HE := Lib.hid e
    clear hr e
    go_enter Try.func54, Try.ntmps54
    go_wp2
    go_ret
    exact ⟨by rw [HE.out]; rfl, rfl⟩

/-! Unbroken. -/
def URel (l : List UInt8) (k : Nat) : Prop := Qp.unbroken l = Qp.unbroken (l.drop k)
theorem Unbroken_calls (w : World) (v : Value) (l : List UInt8) (hr : Rd w 1 v l.length (l.map bv)) (hl : l.length ≤ 1099511627776) :
    Calls Try.prog 45 #[v] w fun e w' => e = .returned (.bool (Qp.unbroken l)) ∧ w = w' := by
  obtain ⟨A, c, rfl, _⟩ := hr.shape
  have HR := Lib.hid hr
  clear hr
  go_enter Try.func45, Try.ntmps45
  go_wp2_with fail
  go_loop [7] (fun i => ∃ k : Nat, k ≤ l.length ∧ i = .int .i64 k ∧ URel l k) (fun i => l.length - (intOf i).toNat)
  case atStart => exact ⟨0, Nat.zero_le _, rfl, rfl⟩
  case round =>
    obtain ⟨k, hk, rfl, hu⟩ := hrel
    by_cases hkl : k < l.length
    · obtain ⟨ab, ao, rfl, _, hcell⟩ := HR.out.byte hkl
      have c1 := hcell k hkl
      have e : Qp.unbroken l = (!(l[k] == 13 || l[k] == 10) && Qp.unbroken (l.drop (k + 1))) := by
        rw [show Qp.unbroken l = Qp.unbroken (l.drop k) from hu, List.drop_eq_getElem_cons hkl]; rfl
      obtain ⟨t1, t2⟩ := u8_tests l[k]
      generalize l[k] = x at *
      rw [← t1, ← t2] at e
      have HE := Lib.hid e
      clear hcell e t1 t2 hu
      by_cases g1 : ((x.toNat : Int) == 13) = true
      · go_wp2
        go_ret
        exact ⟨by rw [HE.out, g1]; rfl, rfl⟩
      · have g1' : ((x.toNat : Int) == 13) = false := by simpa using g1
        clear g1
        by_cases g2 : ((x.toNat : Int) == 10) = true
        · go_wp2
          go_ret
          exact ⟨by rw [HE.out, g1', g2]; rfl, rfl⟩
        · have g2' : ((x.toNat : Int) == 10) = false := by simpa using g2
          clear g2
          go_wp2
          go_round
          case rel => exact ⟨k + 1, by omega, by go_num, by unfold URel; rw [HE.out, g1', g2']; rfl⟩
          case measure => simp [intOf]; omega
    · have hke : k = l.length := by omega
      have e : Qp.unbroken l = true := by rw [show Qp.unbroken l = Qp.unbroken (l.drop k) from hu, hke, List.drop_length]; rfl
      have HE := Lib.hid e
      clear hu e hke
      go_wp2
      go_ret
      exact ⟨by rw [HE.out]; rfl, rfl⟩
end Go.Proofs.Ytgdfbnedmifjlaa
