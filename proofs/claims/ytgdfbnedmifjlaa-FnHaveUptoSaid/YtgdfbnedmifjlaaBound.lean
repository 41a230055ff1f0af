/- How much the writer's calls add, at the most: plain. -/
import Derived.Test.YtgdfbnedmifjlaaPlain
namespace Qp
def size (s : St) : Nat := s.got.length + s.buf.length
theorem size_flush (L : Option Nat) (s : St) : size (flush L s) = size s := by
  unfold flush size
  split
  · rfl
  · split
    · rfl
    · simp
theorem size_app (l : List UInt8) (s : St) : size (app l s) ≤ size s + l.length := by
  unfold app size
  split <;> simp <;> omega
theorem size_insCRLF (L : Option Nat) (s : St) : size (insCRLF L s) ≤ size s + 2 := by
  rw [insCRLF_eq, size_flush]
  exact size_app crlf s
theorem size_insSoft (L : Option Nat) (s : St) : size (insSoft L s) ≤ size s + 3 := by
  rw [insSoft_eq]
  have h1 := size_insCRLF L (app [61] s)
  have h2 := size_app [61] s
  simp at h2
  omega
theorem size_encode (L : Option Nat) (b : UInt8) (s : St) : size (encode L b s) ≤ size s + 6 := by
  unfold encode
  have h1 := size_app (enc3 b) (insSoft L s)
  have h2 := size_app (enc3 b) s
  have h3 := size_insSoft L s
  rw [enc3_len] at h1 h2
  split
  · omega
  · split <;> omega
theorem size_checkLast (L : Option Nat) (s : St) : size (checkLast L s) ≤ size s + 6 := by
  unfold checkLast
  split
  · omega
  · split
    · omega
    · split
      · have h1 := size_encode L ‹UInt8› { s with buf := s.buf.dropLast }
        refine Nat.le_trans h1 ?_
        simp [size]
      · omega
theorem size_putc (L : Option Nat) (b : UInt8) (s : St) : size (putc L b s) ≤ size s + 8 := by
  unfold putc
  split
  · omega
  · split
    · split
      · simp [size]
      · have h1 := size_insCRLF L (checkLast L (if b == 13 then { s with cr := true } else s))
        have h2 := size_checkLast L (if b == 13 then { s with cr := true } else s)
        have h3 : size (if b == 13 then { s with cr := true } else s) = size s := by split <;> rfl
        omega
    · have h1 := size_insSoft L s
      have key : ∀ t : St, size (if t.bad then t else { t with buf := t.buf ++ [b], cr := false }) ≤ size t + 1 := by
        intro t; split
        · omega
        · simp [size]; omega
      have h2 := key (if s.buf.length = 75 then insSoft L s else s)
      refine Nat.le_trans h2 ?_
      split <;> omega
theorem size_stepB (L : Option Nat) (bin : Bool) (b : UInt8) (s : St) : size (stepB L bin s b) ≤ size s + 8 := by
  unfold stepB
  split
  · exact size_putc L b s
  · have := size_encode L b s; omega
theorem size_writeAll (L : Option Nat) (p : List UInt8) : ∀ s, size (writeAll L s p) ≤ size s + 8 * p.length := by
  induction p with
  | nil => intro s; simp [writeAll]
  | cons b p ih =>
    intro s
    have h1 := ih (putc L b s)
    have h2 := size_putc L b s
    simp only [writeAll, List.foldl_cons, List.length_cons] at h1 ⊢
    omega
theorem size_write (L : Option Nat) (bin : Bool) (p : List UInt8) : ∀ s, size (write L bin s p) ≤ size s + 8 * p.length := by
  induction p with
  | nil => intro s; simp [write]
  | cons b p ih =>
    intro s
    have h1 := ih (stepB L bin s b)
    have h2 := size_stepB L bin b s
    simp only [write, List.foldl_cons, List.length_cons] at h1 ⊢
    omega
theorem size_close (L : Option Nat) (s : St) : size (close L s) ≤ size s + 6 := by
  unfold close
  rw [size_flush]; exact size_checkLast L s

theorem buf_flush (L : Option Nat) (s : St) (hb : s.bad = false) (h : (flush L s).bad = false) : (flush L s).buf = [] := by
  revert h; unfold flush
  simp only [hb, Bool.false_eq_true, if_false]
  split
  · intro h; cases h
  · intro _; rfl
theorem bad_app (l : List UInt8) (s : St) (hb : s.bad = false) : (app l s).bad = false := by simp [app, hb]
theorem buf_insCRLF (L : Option Nat) (s : St) (hb : s.bad = false) (h : (insCRLF L s).bad = false) : (insCRLF L s).buf = [] := by
  rw [insCRLF_eq] at h ⊢
  exact buf_flush L _ (bad_app _ _ hb) h
theorem buf_insSoft (L : Option Nat) (s : St) (hb : s.bad = false) (h : (insSoft L s).bad = false) : (insSoft L s).buf = [] := by
  rw [insSoft_eq] at h ⊢
  exact buf_insCRLF L _ (bad_app _ _ hb) h
theorem buf_encode (L : Option Nat) (b : UInt8) (s : St) (hb : s.bad = false) (h : (encode L b s).bad = false) : (encode L b s).buf.length ≤ 75 := by
  revert h; unfold encode
  simp only [hb, Bool.false_eq_true, if_false]
  split
  · intro h
    have h2 : (insSoft L s).bad = false := by
      cases hc : (insSoft L s).bad with
      | false => rfl
      | true => simp [app, hc] at h
    have h3 := buf_insSoft L s hb h2
    simp [app, h2, h3, enc3_len]
  · intro _; simp [app, hb, enc3_len]; omega
theorem buf_checkLast (L : Option Nat) (s : St) (hb : s.bad = false) (hl : s.buf.length ≤ 75) (h : (checkLast L s).bad = false) : (checkLast L s).buf.length ≤ 75 := by
  revert h; unfold checkLast
  simp only [hb, Bool.false_eq_true, if_false]
  split
  · intro _; exact hl
  · split
    · intro h; exact buf_encode L _ _ rfl h
    · intro _; exact hl
theorem buf_putc (L : Option Nat) (b : UInt8) (s : St) (hb : s.bad = false) (hl : s.buf.length ≤ 75) (h : (putc L b s).bad = false) : (putc L b s).buf.length ≤ 75 := by
  revert h; unfold putc
  rw [if_neg (by simp [hb])]
  split
  · split
    · intro _; exact hl
    · intro h
      have h1 : (checkLast L (if b == 13 then { s with cr := true } else s)).bad = false := by
        cases hc : (checkLast L (if b == 13 then { s with cr := true } else s)).bad with
        | false => rfl
        | true => rw [good_insCRLF.stuck L _ hc, hc] at h; cases h
      rw [buf_insCRLF L _ h1 h]; simp
  · simp only []
    split
    · rename_i h75
      split
      · rename_i h2; intro h; rw [h2] at h; cases h
      · rename_i h2
        intro _
        have h3 := buf_insSoft L s hb (by simpa using h2)
        simp [h3]
    · rename_i h75
      split
      · rename_i h2; rw [hb] at h2; cases h2
      · intro _; simp; omega
theorem buf_stepB (L : Option Nat) (bin : Bool) (b : UInt8) (s : St) (hb : s.bad = false) (hl : s.buf.length ≤ 75) (h : (stepB L bin s b).bad = false) : (stepB L bin s b).buf.length ≤ 75 := by
  revert h; unfold stepB
  split
  · exact buf_putc L b s hb hl
  · exact buf_encode L b s hb
theorem bad_of_write (L : Option Nat) (bin : Bool) (s : St) (p : List UInt8) (h : (write L bin s p).bad = false) : s.bad = false := by
  cases hc : s.bad with
  | false => rfl
  | true => rw [(good_write bin p).stuck L s hc, hc] at h; cases h
theorem buf_write (L : Option Nat) (bin : Bool) (p : List UInt8) : ∀ s, s.bad = false → s.buf.length ≤ 75 → (write L bin s p).bad = false → (write L bin s p).buf.length ≤ 75 := by
  induction p with
  | nil => intro s _ hl _; exact hl
  | cons b p ih =>
    intro s hb hl h
    have h1 : (stepB L bin s b).bad = false := bad_of_write L bin _ p h
    exact ih (stepB L bin s b) h1 (buf_stepB L bin b s hb hl h1) h
theorem buf_close (L : Option Nat) (s : St) (h : (close L s).bad = false) : (close L s).buf = [] := by
  unfold close at h ⊢
  have h1 : (checkLast L s).bad = false := by
    cases hc : (checkLast L s).bad with
    | false => rfl
    | true => rw [good_flush.stuck L _ hc, hc] at h; cases h
  exact buf_flush L _ h1 h

/-! putc, way by way. -/
theorem putc_skip (L : Option Nat) (b : UInt8) (s : St) (hb : s.bad = false) (h10 : (b == 10) = true) (hc : s.cr = true) : putc L b s = { s with cr := false } := by
  simp [putc, hb, h10, hc]
theorem putc_brk (L : Option Nat) (b : UInt8) (s : St) (hb : s.bad = false) (h : (b == 10 || b == 13) = true) (hc : (s.cr && b == 10) = false) : putc L b s = insCRLF L (checkLast L { s with cr := (b == 13) || s.cr }) := by
  unfold putc
  rw [if_neg (by simp [hb]), if_pos h, if_neg (by simp only [hc]; simp)]
  by_cases h13 : (b == 13) = true
  · simp [h13]
  · simp [h13]
theorem putc_put (L : Option Nat) (b : UInt8) (s : St) (hb : s.bad = false) (h : (b == 10 || b == 13) = false) (hl : s.buf.length ≠ 75) : putc L b s = { s with buf := s.buf ++ [b], cr := false } := by
  unfold putc
  rw [if_neg (by simp [hb]), if_neg (by simp only [h]; simp)]
  simp [hl, hb]
theorem putc_full_bad (L : Option Nat) (b : UInt8) (s : St) (hb : s.bad = false) (h : (b == 10 || b == 13) = false) (hl : s.buf.length = 75) (hf : (insSoft L s).bad = true) : putc L b s = insSoft L s := by
  unfold putc
  rw [if_neg (by simp [hb]), if_neg (by simp only [h]; simp)]
  simp [hl, hf]
theorem putc_full (L : Option Nat) (b : UInt8) (s : St) (hb : s.bad = false) (h : (b == 10 || b == 13) = false) (hl : s.buf.length = 75) (hf : (insSoft L s).bad = false) : putc L b s = { insSoft L s with buf := (insSoft L s).buf ++ [b], cr := false } := by
  unfold putc
  rw [if_neg (by simp [hb]), if_neg (by simp only [h]; simp)]
  simp [hl, hf]
theorem writeAll_stuck (L : Option Nat) (p : List UInt8) (s : St) (h : s.bad = true) : writeAll L s p = s := by
  induction p with
  | nil => rfl
  | cons b p ih =>
    have : putc L b s = s := (good_putc b).stuck L s h
    simp only [writeAll, List.foldl_cons, this]
    exact ih
theorem writeAll_cons (L : Option Nat) (b : UInt8) (p : List UInt8) (s : St) : writeAll L s (b :: p) = writeAll L (putc L b s) p := rfl
end Qp
