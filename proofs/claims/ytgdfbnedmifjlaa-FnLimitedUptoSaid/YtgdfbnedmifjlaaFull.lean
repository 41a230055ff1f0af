/- What a row says of its arguments' sizes. -/
import Derived.Test.YtgdfbnedmifjlaaReads
namespace Go.Proofs.Ytgdfbnedmifjlaa
open Go.RowKit

theorem okWide_len {W : World} {r : Reach} {b0 : Nat} {v : Value} {l : List UInt8} (g : Rd W 1 v l.length (l.map bv)) (hv : Value.okWide Try.prog W r b0 24 v) : l.length ≤ 9223372036854775807 := by
  obtain ⟨A, c, rfl, hc⟩ := g.shape
  unfold Value.okWide at hv
  rw [Try.underlying24] at hv
  simp only at hv
  unfold Cell.okWide at hv
  rw [Try.underlying24] at hv
  simp only at hv
  unfold Cell.ok at hv
  rw [Try.underlying24] at hv
  cases A with
  | none =>
    rcases g.2 with ⟨h, h0⟩ | ⟨ad, c', h, _⟩
    · omega
    · cases h
  | some a =>
    simp only at hv
    obtain ⟨h1, h2, _⟩ := hv
    have : IntKind.i64.max = 9223372036854775807 := by decide
    omega
theorem int_range {n : Int} (h : (Lit.int .i64 n).wf = true) : -9223372036854775808 ≤ n ∧ n ≤ 9223372036854775807 := by
  simpa [Lit.wf, IntKind.min, IntKind.max, IntKind.signed, IntKind.bits] using h
end Go.Proofs.Ytgdfbnedmifjlaa
