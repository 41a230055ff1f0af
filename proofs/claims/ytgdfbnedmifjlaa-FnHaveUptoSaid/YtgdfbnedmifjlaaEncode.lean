/- encode of the writer. -/
import Derived.Test.YtgdfbnedmifjlaaCrlf
namespace Go.Proofs.Ytgdfbnedmifjlaa
open Go.RowKit

theorem hex_at0 (w : World) : (Instr.index 9 (.string { data := #[48, 49, 50, 51, 52, 53, 54, 55, 56, 57, 65, 66, 67, 68, 69, 70] }) (.int .u8 ((0 : Nat) : Int))).run Try.prog w = .ok (.int .u8 ((Qp.hexd 0).toNat : Int)) w := by kernel_rfl
theorem hex_at1 (w : World) : (Instr.index 9 (.string { data := #[48, 49, 50, 51, 52, 53, 54, 55, 56, 57, 65, 66, 67, 68, 69, 70] }) (.int .u8 ((1 : Nat) : Int))).run Try.prog w = .ok (.int .u8 ((Qp.hexd 1).toNat : Int)) w := by kernel_rfl
theorem hex_at2 (w : World) : (Instr.index 9 (.string { data := #[48, 49, 50, 51, 52, 53, 54, 55, 56, 57, 65, 66, 67, 68, 69, 70] }) (.int .u8 ((2 : Nat) : Int))).run Try.prog w = .ok (.int .u8 ((Qp.hexd 2).toNat : Int)) w := by kernel_rfl
theorem hex_at3 (w : World) : (Instr.index 9 (.string { data := #[48, 49, 50, 51, 52, 53, 54, 55, 56, 57, 65, 66, 67, 68, 69, 70] }) (.int .u8 ((3 : Nat) : Int))).run Try.prog w = .ok (.int .u8 ((Qp.hexd 3).toNat : Int)) w := by kernel_rfl
theorem hex_at4 (w : World) : (Instr.index 9 (.string { data := #[48, 49, 50, 51, 52, 53, 54, 55, 56, 57, 65, 66, 67, 68, 69, 70] }) (.int .u8 ((4 : Nat) : Int))).run Try.prog w = .ok (.int .u8 ((Qp.hexd 4).toNat : Int)) w := by kernel_rfl
theorem hex_at5 (w : World) : (Instr.index 9 (.string { data := #[48, 49, 50, 51, 52, 53, 54, 55, 56, 57, 65, 66, 67, 68, 69, 70] }) (.int .u8 ((5 : Nat) : Int))).run Try.prog w = .ok (.int .u8 ((Qp.hexd 5).toNat : Int)) w := by kernel_rfl
theorem hex_at6 (w : World) : (Instr.index 9 (.string { data := #[48, 49, 50, 51, 52, 53, 54, 55, 56, 57, 65, 66, 67, 68, 69, 70] }) (.int .u8 ((6 : Nat) : Int))).run Try.prog w = .ok (.int .u8 ((Qp.hexd 6).toNat : Int)) w := by kernel_rfl
theorem hex_at7 (w : World) : (Instr.index 9 (.string { data := #[48, 49, 50, 51, 52, 53, 54, 55, 56, 57, 65, 66, 67, 68, 69, 70] }) (.int .u8 ((7 : Nat) : Int))).run Try.prog w = .ok (.int .u8 ((Qp.hexd 7).toNat : Int)) w := by kernel_rfl
theorem hex_at8 (w : World) : (Instr.index 9 (.string { data := #[48, 49, 50, 51, 52, 53, 54, 55, 56, 57, 65, 66, 67, 68, 69, 70] }) (.int .u8 ((8 : Nat) : Int))).run Try.prog w = .ok (.int .u8 ((Qp.hexd 8).toNat : Int)) w := by kernel_rfl
theorem hex_at9 (w : World) : (Instr.index 9 (.string { data := #[48, 49, 50, 51, 52, 53, 54, 55, 56, 57, 65, 66, 67, 68, 69, 70] }) (.int .u8 ((9 : Nat) : Int))).run Try.prog w = .ok (.int .u8 ((Qp.hexd 9).toNat : Int)) w := by kernel_rfl
theorem hex_at10 (w : World) : (Instr.index 9 (.string { data := #[48, 49, 50, 51, 52, 53, 54, 55, 56, 57, 65, 66, 67, 68, 69, 70] }) (.int .u8 ((10 : Nat) : Int))).run Try.prog w = .ok (.int .u8 ((Qp.hexd 10).toNat : Int)) w := by kernel_rfl
theorem hex_at11 (w : World) : (Instr.index 9 (.string { data := #[48, 49, 50, 51, 52, 53, 54, 55, 56, 57, 65, 66, 67, 68, 69, 70] }) (.int .u8 ((11 : Nat) : Int))).run Try.prog w = .ok (.int .u8 ((Qp.hexd 11).toNat : Int)) w := by kernel_rfl
theorem hex_at12 (w : World) : (Instr.index 9 (.string { data := #[48, 49, 50, 51, 52, 53, 54, 55, 56, 57, 65, 66, 67, 68, 69, 70] }) (.int .u8 ((12 : Nat) : Int))).run Try.prog w = .ok (.int .u8 ((Qp.hexd 12).toNat : Int)) w := by kernel_rfl
theorem hex_at13 (w : World) : (Instr.index 9 (.string { data := #[48, 49, 50, 51, 52, 53, 54, 55, 56, 57, 65, 66, 67, 68, 69, 70] }) (.int .u8 ((13 : Nat) : Int))).run Try.prog w = .ok (.int .u8 ((Qp.hexd 13).toNat : Int)) w := by kernel_rfl
theorem hex_at14 (w : World) : (Instr.index 9 (.string { data := #[48, 49, 50, 51, 52, 53, 54, 55, 56, 57, 65, 66, 67, 68, 69, 70] }) (.int .u8 ((14 : Nat) : Int))).run Try.prog w = .ok (.int .u8 ((Qp.hexd 14).toNat : Int)) w := by kernel_rfl
theorem hex_at15 (w : World) : (Instr.index 9 (.string { data := #[48, 49, 50, 51, 52, 53, 54, 55, 56, 57, 65, 66, 67, 68, 69, 70] }) (.int .u8 ((15 : Nat) : Int))).run Try.prog w = .ok (.int .u8 ((Qp.hexd 15).toNat : Int)) w := by kernel_rfl
theorem hex_at (n : Nat) (hn : n < 16) (w : World) : (Instr.index 9 (.string { data := #[48, 49, 50, 51, 52, 53, 54, 55, 56, 57, 65, 66, 67, 68, 69, 70] }) (.int .u8 (n : Int))).run Try.prog w = .ok (.int .u8 ((Qp.hexd n).toNat : Int)) w := by
  have h : n = 0 ∨ n = 1 ∨ n = 2 ∨ n = 3 ∨ n = 4 ∨ n = 5 ∨ n = 6 ∨ n = 7 ∨ n = 8 ∨ n = 9 ∨ n = 10 ∨ n = 11 ∨ n = 12 ∨ n = 13 ∨ n = 14 ∨ n = 15 := by omega
  rcases h with rfl | rfl | rfl | rfl | rfl | rfl | rfl | rfl | rfl | rfl | rfl | rfl | rfl | rfl | rfl | rfl
  · exact hex_at0 w
  · exact hex_at1 w
  · exact hex_at2 w
  · exact hex_at3 w
  · exact hex_at4 w
  · exact hex_at5 w
  · exact hex_at6 w
  · exact hex_at7 w
  · exact hex_at8 w
  · exact hex_at9 w
  · exact hex_at10 w
  · exact hex_at11 w
  · exact hex_at12 w
  · exact hex_at13 w
  · exact hex_at14 w
  · exact hex_at15 w
theorem hex_hi (x : UInt8) (w : World) : (Instr.index 9 (.string { data := #[48, 49, 50, 51, 52, 53, 54, 55, 56, 57, 65, 66, 67, 68, 69, 70] }) (.int .u8 ((x.toNat : Int) / 16))).run Try.prog w = .ok (.int .u8 ((Qp.hexd (x.toNat / 16)).toNat : Int)) w := by
  have hx := x.toNat_lt
  have e : (x.toNat : Int) / 16 = ((x.toNat / 16 : Nat) : Int) := by omega
  rw [e]; exact hex_at _ (by omega) w
theorem hex_lo (x : UInt8) (w : World) : (Instr.index 9 (.string { data := #[48, 49, 50, 51, 52, 53, 54, 55, 56, 57, 65, 66, 67, 68, 69, 70] }) (.int .u8 ((x.toNat : Int) % 16))).run Try.prog w = .ok (.int .u8 ((Qp.hexd (x.toNat % 16)).toNat : Int)) w := by
  have hx := x.toNat_lt
  have e : (x.toNat : Int) % 16 = ((x.toNat % 16 : Nat) : Int) := by omega
  rw [e]; exact hex_at _ (by omega) w

/-- The world behind the three stores of encode. -/
theorem enc_stores {w : World} {B b g : Nat} {bin : Bool} {L : Option Nat} {s : Qp.St} {v : Value} (x : UInt8) (hi : Inv w B b g bin L s v) (hb : s.bad = false) (hl : s.buf.length ≤ 72) (n : Nat) (hn : s.buf.length = n) :
    Inv ((((w.setCell ⟨b, 3 + n, none⟩ (.int .u8 61)).setCell ⟨b, 3 + (n + 1), none⟩ (.int .u8 ((Qp.hexd (x.toNat / 16)).toNat : Int))).setCell ⟨b, 3 + (n + 2), none⟩ (.int .u8 ((Qp.hexd (x.toNat % 16)).toNat : Int))).setCell ⟨b, 2, none⟩ (.int .i64 ((n : Int) + 3))).drew.drew.drew B b g bin L (Qp.app (Qp.enc3 x) s) v ∧
    Fr b g w v ((((w.setCell ⟨b, 3 + n, none⟩ (.int .u8 61)).setCell ⟨b, 3 + (n + 1), none⟩ (.int .u8 ((Qp.hexd (x.toNat / 16)).toNat : Int))).setCell ⟨b, 3 + (n + 2), none⟩ (.int .u8 ((Qp.hexd (x.toNat % 16)).toNat : Int))).setCell ⟨b, 2, none⟩ (.int .i64 ((n : Int) + 3))).drew.drew.drew v := by
  subst hn
  obtain ⟨rest, hlen, hr⟩ := hi.raw
  have r3 := (((hr.putLine s.buf.length 61 (by omega) (.int .u8 61) rfl).putLine (s.buf.length + 1) (Qp.hexd (x.toNat / 16)) (by omega) _ rfl).putLine (s.buf.length + 2) (Qp.hexd (x.toNat % 16)) (by omega) _ rfl).putN (s.buf.length + 3) ((s.buf.length : Int) + 3) (by omega)
  rw [put_three _ _ _ _ _ (by omega)] at r3
  refine ⟨?_, (((((Fr.refl b g w v).put _ rfl _).put _ rfl _).put _ rfl _).put _ rfl _).drew.drew.drew⟩
  have e : Qp.app (Qp.enc3 x) s = { s with buf := s.buf ++ Qp.enc3 x } := by simp [Qp.app, hb]
  rw [e]
  exact Raw.inv r3.drew.drew.drew (by simp [Qp.enc3]) rfl rfl rfl

theorem encode_a (w : World) (B b g : Nat) (bin : Bool) (L : Option Nat) (s : Qp.St) (v : Value) (x : UInt8) (hi : Inv w B b g bin L s v)
    (hb : s.bad = false) (hl : s.buf.length ≤ 72) :
    Calls Try.prog 62 #[.pointer (some ⟨b, 0, none⟩), .int .u8 (x.toNat : Int)] w (WPost w B b g bin L v (Qp.encode L x s)) := by
  obtain ⟨rest, hlen, hr⟩ := hi.raw
  have c2 := hr.c2
  have hx := x.toNat_lt
  obtain ⟨o1, ho1⟩ : ∃ o, w.cell? ⟨b, 3 + s.buf.length, none⟩ = some o := ⟨_, hr.cl s.buf.length (by omega)⟩
  have f1 := hr.fz (3 + s.buf.length)
  obtain ⟨o2, ho2⟩ : ∃ o, w.cell? ⟨b, 3 + (s.buf.length + 1), none⟩ = some o := ⟨_, hr.cl (s.buf.length + 1) (by omega)⟩
  have f2 := hr.fz (3 + (s.buf.length + 1))
  obtain ⟨o3, ho3⟩ : ∃ o, w.cell? ⟨b, 3 + (s.buf.length + 2), none⟩ = some o := ⟨_, hr.cl (s.buf.length + 2) (by omega)⟩
  have f3 := hr.fz (3 + (s.buf.length + 2))
  have f4 := hr.fz 2
  have hE := enc_stores x hi hb hl
  have e : Qp.encode L x s = Qp.app (Qp.enc3 x) s := by simp only [Qp.encode, hb, Bool.false_eq_true, if_false]; rw [if_neg (by omega)]
  generalize hn : s.buf.length = n at *
  have HE := Lib.hid (hE n rfl)
  have H1 := Lib.hid e
  clear hr hi hE e hn
  have hx1 := hex_hi x
  have hx2 := hex_lo x
  go_enter Try.func62, Try.ntmps62
  go_wp2_with fail
  go_region
  go_wp2_with fail
  go_region
  go_wp2_with fail
  go_region
  go_wp2_with fail
  go_ret
  refine WPost.mk_good ?_ ?_ HE.out.2
  · rw [H1.out]; simp [Qp.app, hb]
  · rw [H1.out]; exact HE.out.1

theorem encode_b (w : World) (B b g : Nat) (bin : Bool) (L : Option Nat) (s : Qp.St) (v : Value) (x : UInt8) (hi : Inv w B b g bin L s v)
    (hb : s.bad = false) (hl : 72 < s.buf.length) (hl2 : s.buf.length ≤ 75) (hL : L.getD 0 ≤ 9223372036854775807) (hg : s.got.length + s.buf.length ≤ 1099511626000)
    (hf : (Qp.insSoft L s).bad = true) :
    Calls Try.prog 62 #[.pointer (some ⟨b, 0, none⟩), .int .u8 (x.toNat : Int)] w (WPost w B b g bin L v (Qp.encode L x s)) := by
  obtain ⟨rest, hlen, hr⟩ := hi.raw
  have c2 := hr.c2
  have HC := Lib.hid (insSoft_calls w B b g bin L s v hi hb hl2 hL hg)
  have e : Qp.encode L x s = Qp.insSoft L s := by
    simp only [Qp.encode, hb, Bool.false_eq_true, if_false]; rw [if_pos hl]; simp [Qp.app, hf]
  have H1 := Lib.hid e
  generalize s.buf.length = n at *
  have HF := Lib.hid hf
  clear hr hi e hf
  go_enter Try.func62, Try.ntmps62
  go_wp2_with fail
  refine HC.out.mono ?_
  intro e w1 h
  obtain ⟨v1, rfl, h2, h3⟩ := h.fell HF.out
  have H2 := Lib.hid h2
  have H3 := Lib.hid h3
  clear h h2 h3
  go_wp2
  go_ret
  rw [H1.out]
  exact WPost.mk_fell HF.out H2.out H3.out

theorem encode_c (w : World) (B b g : Nat) (bin : Bool) (L : Option Nat) (s : Qp.St) (v : Value) (x : UInt8) (hi : Inv w B b g bin L s v)
    (hb : s.bad = false) (hl : 72 < s.buf.length) (hl2 : s.buf.length ≤ 75) (hL : L.getD 0 ≤ 9223372036854775807) (hg : s.got.length + s.buf.length ≤ 1099511626000)
    (hf : (Qp.insSoft L s).bad = false) :
    Calls Try.prog 62 #[.pointer (some ⟨b, 0, none⟩), .int .u8 (x.toNat : Int)] w (WPost w B b g bin L v (Qp.encode L x s)) := by
  obtain ⟨rest, hlen, hr⟩ := hi.raw
  have c2 := hr.c2
  have hx := x.toNat_lt
  have HC := Lib.hid (insSoft_calls w B b g bin L s v hi hb hl2 hL hg)
  have e : Qp.encode L x s = Qp.app (Qp.enc3 x) (Qp.insSoft L s) := by
    simp only [Qp.encode, hb, Bool.false_eq_true, if_false]; rw [if_pos hl]
  have e2 : (Qp.insSoft L s).buf.length = 0 := by
    revert hf
    simp only [Qp.insSoft, Qp.insCRLF, Qp.flush, hb, Bool.false_eq_true, if_false]
    split <;> simp
  have H1 := Lib.hid e
  have HL := Lib.hid e2
  have hx1 := hex_hi x
  have hx2 := hex_lo x
  generalize s.buf.length = n at *
  have HF := Lib.hid hf
  clear hr hi e hf e2
  go_enter Try.func62, Try.ntmps62
  go_wp2_with fail
  refine HC.out.mono ?_
  intro e w1 h
  obtain ⟨v1, rfl, h2, h3⟩ := h.good HF.out
  clear h c2
  obtain ⟨rest1, hlen1, hr1⟩ := h2.raw
  have hE := enc_stores x h2 HF.out (by rw [HL.out]; omega)
  generalize hn1 : (Qp.insSoft L s).buf.length = m at *
  have hm : m ≤ 72 := by rw [← hn1]; have := HL.out; omega
  have c2 := hr1.c2
  obtain ⟨o1, ho1⟩ : ∃ o, w1.cell? ⟨b, 3 + m, none⟩ = some o := ⟨_, hr1.cl m (by omega)⟩
  have f1 := hr1.fz (3 + m)
  obtain ⟨o2, ho2⟩ : ∃ o, w1.cell? ⟨b, 3 + (m + 1), none⟩ = some o := ⟨_, hr1.cl (m + 1) (by omega)⟩
  have f2 := hr1.fz (3 + (m + 1))
  obtain ⟨o3, ho3⟩ : ∃ o, w1.cell? ⟨b, 3 + (m + 2), none⟩ = some o := ⟨_, hr1.cl (m + 2) (by omega)⟩
  have f3 := hr1.fz (3 + (m + 2))
  have f4 := hr1.fz 2
  have HE := Lib.hid (hE m rfl)
  have H3 := Lib.hid h3
  clear hE h2 h3 hr1 hn1 hlen1
  go_wp2_with fail
  go_region
  go_wp2_with fail
  go_region
  go_wp2_with fail
  go_region
  go_wp2_with fail
  go_ret
  refine WPost.mk_good ?_ ?_ (H3.out.trans HE.out.2)
  · rw [H1.out]; simp [Qp.app, HF.out]
  · rw [H1.out]; exact HE.out.1

/-- encode, for every state. -/
theorem encode_calls (w : World) (B b g : Nat) (bin : Bool) (L : Option Nat) (s : Qp.St) (v : Value) (x : UInt8) (hi : Inv w B b g bin L s v)
    (hb : s.bad = false) (hl : s.buf.length ≤ 75) (hL : L.getD 0 ≤ 9223372036854775807) (hg : s.got.length + s.buf.length ≤ 1099511626000) :
    Calls Try.prog 62 #[.pointer (some ⟨b, 0, none⟩), .int .u8 (x.toNat : Int)] w (WPost w B b g bin L v (Qp.encode L x s)) := by
  rcases Nat.lt_or_ge 72 s.buf.length with h | h
  · cases hf : (Qp.insSoft L s).bad with
    | true => exact encode_b w B b g bin L s v x hi hb h hl hL hg hf
    | false => exact encode_c w B b g bin L s v x hi hb h hl hL hg hf
  · exact encode_a w B b g bin L s v x hi hb h
end Go.Proofs.Ytgdfbnedmifjlaa
