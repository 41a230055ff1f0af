/- What the answers of a run say: how many there are, what each tells. -/
import Derived.Test.YtgdfbnedmifjlaaLimited
import Derived.Test.YtgdfbnedmifjlaaSpecH
namespace Go.Proofs.Ytgdfbnedmifjlaa
open Go.RowKit

/-- How many calls a script came to. -/
structure Cnt (L : Option Nat) (bin : Bool) (xs : List Qp.Stp) (n : Nat) : Prop where
  le : n ≤ xs.length
  all : (Qp.endP L bin Qp.st0 xs).bad = false → n = xs.length
  last : (Qp.endP L bin Qp.st0 xs).bad = true → ∃ k, n = k + 1 ∧ Qp.endP L bin Qp.st0 (xs.take (k + 1)) = Qp.endP L bin Qp.st0 xs
  fine : ∀ i, i + 1 < n → (Qp.endP L bin Qp.st0 (xs.take (i + 1))).bad = false
theorem Cnt.pos {L : Option Nat} {bin : Bool} {xs : List Qp.Stp} {n : Nat} (h : Cnt L bin xs n) (h0 : 0 < xs.length) : 0 < n := by
  cases hb : (Qp.endP L bin Qp.st0 xs).bad with
  | false => rw [h.all hb]; exact h0
  | true => obtain ⟨k, hk, _⟩ := h.last hb; omega
theorem Cnt.mono {m M : Nat} {bin : Bool} {xs : List Qp.Stp} {n1 n2 : Nat} (h1 : Cnt (some m) bin xs n1) (h2 : Cnt (some M) bin xs n2) (hm : m ≤ M) : n1 ≤ n2 := by
  cases hb : (Qp.endP (some M) bin Qp.st0 xs).bad with
  | false => rw [h2.all hb]; exact h1.le
  | true =>
    obtain ⟨k, hk, hke⟩ := h2.last hb
    rcases Nat.lt_or_ge n2 n1 with h | h
    · have hf := h1.fine k (by omega)
      have he := Qp.rel_fine (Qp.lim_rel bin m (some M) hm (xs.take (k + 1))) hf
      rw [he, hke, hb] at hf
      cases hf
    · exact h
/-- A run's outcome: what the sink has got, and the answers in memory. -/
theorem run_out {w w1 : World} {bin : Bool} {L : Option Nat} {xs : List Qp.Stp} {e : Ending} (h : RunPost w bin L xs e w1) :
    ∃ A c gA gc al, e = .returned (.tuple #[.slice A (Qp.endP L bin Qp.st0 xs).got.length c, .slice gA al.length gc]) ∧ Rd w1 1 (.slice A (Qp.endP L bin Qp.st0 xs).got.length c) (Qp.endP L bin Qp.st0 xs).got.length ((Qp.endP L bin Qp.st0 xs).got.map bv) ∧
      Rd w1 3 (.slice gA al.length gc) al.length (ansCells al) ∧ Below w.heap.size w w1 ∧ Cnt L bin xs al.length ∧ (∀ (i : Nat) (a : An) (x : Qp.Stp), al[i]? = some a → xs[i]? = some x → AnOK a (Qp.endP L bin Qp.st0 (xs.take (i + 1))) x) := by
  obtain ⟨v, va, al, rfl, h1, h2, h3, h4, h5, h6, h7⟩ := h
  have r1 := Rd.of_own h1
  have r2 := Rd.of_own h2
  obtain ⟨A, c, rfl, _⟩ := r1.shape
  obtain ⟨gA, gc, rfl, _⟩ := r2.shape
  refine ⟨A, c, gA, gc, al, rfl, r1, r2, h3, ⟨h4, h5, h7, fun i hi => ?_⟩, fun i a x g1 g2 => (h6 i a x g1 g2).1⟩
  have g1 : al[i]? = some (al[i]'(by omega)) := List.getElem?_eq_getElem _
  have g2 : xs[i]? = some (xs[i]'(by omega)) := List.getElem?_eq_getElem _
  obtain ⟨g3, g4⟩ := h6 i _ _ g1 g2
  rw [← g3.1]
  exact g4 hi
end Go.Proofs.Ytgdfbnedmifjlaa
