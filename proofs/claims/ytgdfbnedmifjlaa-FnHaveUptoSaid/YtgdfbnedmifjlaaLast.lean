/- isWhitespace, checkLastByte and Close of the writer. -/
import Derived.Test.YtgdfbnedmifjlaaEncode
namespace Go.Proofs.Ytgdfbnedmifjlaa
open Go.RowKit

theorem int_eq_u8 (x : UInt8) (k : Nat) (hk : k < 256) : ((x.toNat : Int) == (k : Int)) = (x == UInt8.ofNat k) := by
  rw [Bool.eq_iff_iff]
  simp only [beq_iff_eq]
  constructor
  · intro h
    have h1 : x.toNat = k := by omega
    rw [← h1, UInt8.ofNat_toNat]
  · rintro rfl
    simp [Nat.mod_eq_of_lt hk]

theorem ws_calls (x : UInt8) (w : World) : Calls Try.prog 60 #[.int .u8 (x.toNat : Int)] w fun e w' => e = .returned (.bool (Qp.blank x)) ∧ w = w' := by
  have h1 := int_eq_u8 x 32 (by omega)
  have h2 := int_eq_u8 x 9 (by omega)
  have e : Qp.blank x = (((x.toNat : Int) == 32) || ((x.toNat : Int) == 9)) := by
    unfold Qp.blank
    have h1' : ((x.toNat : Int) == 32) = (x == 32) := h1
    have h2' : ((x.toNat : Int) == 9) = (x == 9) := h2
    rw [h1', h2']
  have HE := Lib.hid e
  clear h1 h2 e
  by_cases g1 : ((x.toNat : Int) == 32) = true
  · go_enter Try.func60, Try.ntmps60
    go_wp2
    go_ret
    exact ⟨by rw [HE.out, g1]; rfl, rfl⟩
  · have g1' : ((x.toNat : Int) == 32) = false := by simpa using g1
    clear g1
    by_cases g2 : ((x.toNat : Int) == 9) = true
    · go_enter Try.func60, Try.ntmps60
      go_wp2
      go_ret
      exact ⟨by rw [HE.out, g1', g2]; rfl, rfl⟩
    · have g2' : ((x.toNat : Int) == 9) = false := by simpa using g2
      clear g2
      go_enter Try.func60, Try.ntmps60
      go_wp2
      go_ret
      exact ⟨by rw [HE.out, g1', g2']; rfl, rfl⟩
theorem ws_yes (x : UInt8) (h : Qp.blank x = true) (w : World) : Calls Try.prog 60 #[.int .u8 (x.toNat : Int)] w fun e w' => e = .returned (.bool true) ∧ w = w' := by
  have := ws_calls x w; rwa [h] at this
theorem ws_no (x : UInt8) (h : Qp.blank x = false) (w : World) : Calls Try.prog 60 #[.int .u8 (x.toNat : Int)] w fun e w' => e = .returned (.bool false) ∧ w = w' := by
  have := ws_calls x w; rwa [h] at this

theorem last_none (w : World) (B b g : Nat) (bin : Bool) (L : Option Nat) (s : Qp.St) (v : Value) (hi : Inv w B b g bin L s v) (hb : s.bad = false) (he : s.buf = []) :
    Calls Try.prog 58 #[.pointer (some ⟨b, 0, none⟩)] w (WPost w B b g bin L v (Qp.checkLast L s)) := by
  obtain ⟨rest, hlen, hr⟩ := hi.raw
  have c2 : w.cell? ⟨b, 2, none⟩ = some (.int .i64 0) := by have := hr.c2; rw [he] at this; exact this
  have e : Qp.checkLast L s = s := by simp [Qp.checkLast, he]
  have HE := Lib.hid e
  have HI := Lib.hid hi
  clear hr hi e
  go_enter Try.func58, Try.ntmps58
  go_wp2
  go_ret
  rw [HE.out]
  exact WPost.mk_good hb HI.out (Fr.refl _ _ _ _)

theorem last_plain (w : World) (B b g : Nat) (bin : Bool) (L : Option Nat) (s : Qp.St) (v : Value) (hi : Inv w B b g bin L s v) (hb : s.bad = false) (l : List UInt8) (y : UInt8) (he : s.buf = l ++ [y]) (hy : Qp.blank y = false) (hl : s.buf.length ≤ 75) :
    Calls Try.prog 58 #[.pointer (some ⟨b, 0, none⟩)] w (WPost w B b g bin L v (Qp.checkLast L s)) := by
  obtain ⟨rest, hlen, hr⟩ := hi.raw
  have hm : s.buf.length = l.length + 1 := by rw [he]; simp
  have c2 : w.cell? ⟨b, 2, none⟩ = some (.int .i64 ((l.length : Int) + 1)) := by have := hr.c2; rw [hm] at this; exact this
  have cl : w.cell? ⟨b, 3 + l.length, none⟩ = some (.int .u8 (y.toNat : Int)) := by
    have h1 := hr.cl l.length (by omega)
    rw [h1]
    have h2 : (s.buf ++ rest)[l.length]'(by rw [hr.len]; omega) = y := by simp [he]
    rw [h2]; rfl
  have e : Qp.checkLast L s = s := by simp [Qp.checkLast, he, hy]
  have HE := Lib.hid e
  have HI := Lib.hid hi
  have HY := Lib.hid hy
  have hll : l.length ≤ 75 := by omega
  have h0 : ((l.length : Int) + 1 == 0) = false := by simp; omega
  clear hr hi e he hm hl hlen hy
  generalize l.length = n at *
  go_enter Try.func58, Try.ntmps58
  go_wp2_with fail
  go_quiet (fail)
  go_wp2_with fail
  refine (ws_no y HY.out _).mono ?_
  rintro e w' ⟨rfl, rfl⟩
  go_wp2
  go_ret
  rw [HE.out]
  exact WPost.mk_good hb (HI.out.drewN _) ((Fr.refl _ _ _ _).drewN _)

theorem last_blank (w : World) (B b g : Nat) (bin : Bool) (L : Option Nat) (s : Qp.St) (v : Value) (hi : Inv w B b g bin L s v) (hb : s.bad = false) (l : List UInt8) (y : UInt8) (he : s.buf = l ++ [y]) (hy : Qp.blank y = true) (hl : s.buf.length ≤ 75)
    (hL : L.getD 0 ≤ 9223372036854775807) (hg : s.got.length + s.buf.length ≤ 1099511626000) :
    Calls Try.prog 58 #[.pointer (some ⟨b, 0, none⟩)] w (WPost w B b g bin L v (Qp.checkLast L s)) := by
  obtain ⟨rest, hlen, hr⟩ := hi.raw
  have hm : s.buf.length = l.length + 1 := by rw [he]; simp
  have c2 : w.cell? ⟨b, 2, none⟩ = some (.int .i64 ((l.length : Int) + 1)) := by have := hr.c2; rw [hm] at this; exact this
  have cl : w.cell? ⟨b, 3 + l.length, none⟩ = some (.int .u8 (y.toNat : Int)) := by
    have h1 := hr.cl l.length (by omega)
    rw [h1]
    have h2 : (s.buf ++ rest)[l.length]'(by rw [hr.len]; omega) = y := by simp [he]
    rw [h2]; rfl
  have f2 := hr.fz 2
  have e : Qp.checkLast L s = Qp.encode L y { s with buf := l } := by simp [Qp.checkLast, he, hy, hb]
  have hI2 : ∀ k, Inv ((w.setCell ⟨b, 2, none⟩ (.int .i64 (l.length : Int))).drewN k) B b g bin L { s with buf := l } v := fun k =>
    Raw.inv (rest := y :: rest) ((hr.setN l.length).drewN k) rfl (by rw [he]; simp) rfl rfl
  have hC : ∀ k, Calls Try.prog 62 #[.pointer (some ⟨b, 0, none⟩), .int .u8 (y.toNat : Int)] ((w.setCell ⟨b, 2, none⟩ (.int .i64 (l.length : Int))).drewN k) (WPost w B b g bin L v (Qp.encode L y { s with buf := l })) := fun k =>
    (encode_calls _ B b g bin L { s with buf := l } v y (hI2 k) hb (by show l.length ≤ 75; omega) hL (by show s.got.length + l.length ≤ _; omega)).mono fun e w' h => h.from (((Fr.refl b g w v).put _ rfl _).drewN k)
  have HE := Lib.hid e
  have HY := Lib.hid hy
  have HC := Lib.hid hC
  have hll : l.length ≤ 75 := by omega
  have h0 : ((l.length : Int) + 1 == 0) = false := by simp; omega
  clear hr hi e he hm hl hlen hy hI2 hC hg
  generalize l.length = n at *
  go_enter Try.func58, Try.ntmps58
  go_wp2_with fail
  go_quiet (fail)
  go_wp2_with fail
  refine (ws_yes y HY.out _).mono ?_
  rintro e w' ⟨rfl, rfl⟩
  go_wp2_with fail
  refine (HC.out _).mono ?_
  intro e w1 h
  cases hbb : (Qp.encode L y { s with buf := l }).bad with
  | true =>
    obtain ⟨v1, rfl, h2, h3⟩ := h.fell hbb
    have H2 := Lib.hid h2
    have H3 := Lib.hid h3
    have HB := Lib.hid hbb
    clear h h2 h3 hbb
    go_wp2
    go_ret
    rw [HE.out]
    exact WPost.mk_fell HB.out H2.out H3.out
  | false =>
    obtain ⟨v1, rfl, h2, h3⟩ := h.good hbb
    have H2 := Lib.hid h2
    have H3 := Lib.hid h3
    have HB := Lib.hid hbb
    clear h h2 h3 hbb
    go_wp2
    go_ret
    rw [HE.out]
    exact WPost.mk_good HB.out H2.out H3.out

theorem last_calls (w : World) (B b g : Nat) (bin : Bool) (L : Option Nat) (s : Qp.St) (v : Value) (hi : Inv w B b g bin L s v) (hb : s.bad = false) (hl : s.buf.length ≤ 75)
    (hL : L.getD 0 ≤ 9223372036854775807) (hg : s.got.length + s.buf.length ≤ 1099511626000) :
    Calls Try.prog 58 #[.pointer (some ⟨b, 0, none⟩)] w (WPost w B b g bin L v (Qp.checkLast L s)) := by
  rcases List.eq_nil_or_concat s.buf with h | ⟨l, y, h⟩
  · exact last_none w B b g bin L s v hi hb h
  · rw [List.concat_eq_append] at h
    cases hy : Qp.blank y with
    | true => exact last_blank w B b g bin L s v hi hb l y h hy hl hL hg
    | false => exact last_plain w B b g bin L s v hi hb l y h hy hl
end Go.Proofs.Ytgdfbnedmifjlaa
