/- What the laws of lines share. -/
import Derived.Test.YtgdfbnedmifjlaaSpecD
namespace Go.Proofs.Ytgdfbnedmifjlaa
open Go.RowKit

theorem Parts.get {w : World} {A : Option Addr} {c k : Nat} {ps : List (List UInt8)} (h : Parts w (.slice A ps.length c) ps) (hk : k < ps.length) :
    ∃ ab ao, A = some ⟨ab, ao, none⟩ ∧ ab < w.heap.size ∧ ∀ (j : Nat) (p : List UInt8), ps[j]? = some p → ∃ dA dc, w.cell? ⟨ab, ao + j, none⟩ = some (.slice dA p.length dc) ∧ Rd w 1 (.slice dA p.length dc) p.length (p.map bv) := by
  obtain ⟨ds, h1, h2, h3⟩ := h
  obtain ⟨ab, ao, rfl, hab, hcell⟩ := h2.get hk
  refine ⟨ab, ao, rfl, hab, fun j p hp => ?_⟩
  have hj : j < ds.length := by rw [h1]; exact (List.getElem?_eq_some_iff.1 hp).1
  have hd : ds[j]? = some ds[j] := List.getElem?_eq_getElem hj
  have hr := h3 j _ p hd hp
  obtain ⟨dA, dc, e, _⟩ := hr.shape
  rw [e] at hr hd
  exact ⟨dA, dc, hcell j _ hd, hr⟩
theorem lines_ne (l : List UInt8) : 0 < (Qp.lines l).length := by
  have := Qp.joined_linesGo l []
  rcases Nat.eq_zero_or_pos (Qp.lines l).length with h | h
  · have e : Qp.lines l = [] := List.eq_nil_of_length_eq_zero h
    have e2 : Qp.linesGo [] l = [] := e
    rw [e2] at this
    have hl : l = [] := by simpa [Qp.joined] using this.symm
    subst hl
    simp [Qp.lines, Qp.linesGo] at e
  · exact h
theorem lines_one (l p : List UInt8) (h : (Qp.lines l).length ≤ 1) (hp : (Qp.lines l)[0]? = some p) : p = l := by
  have h1 := Qp.joined_linesGo l []
  have h0 := lines_ne l
  unfold Qp.lines at h h0 hp
  match hls : Qp.linesGo [] l, h, h0 with
  | [x], _, _ =>
    rw [hls] at h1 hp
    simp at hp
    subst hp
    simpa [Qp.joined, Qp.joinGo] using h1
theorem soft_at (ls : List (List UInt8)) : Qp.SoftOK ls → ∀ (k : Nat) (p : List UInt8), ls[k]? = some p → p.getLast? = some 61 → 74 ≤ p.length ∧ ∃ m, ls[k + 1]? = some m ∧ 0 < m.length := by
  induction ls with
  | nil => intro _ k p h; simp at h
  | cons x xs ih =>
    intro ⟨h1, h2⟩ k p hp hl
    cases k with
    | zero =>
      simp at hp
      subst hp
      obtain ⟨g1, m, ms, rfl, g2⟩ := h1 hl
      exact ⟨g1, m, by simp, List.length_pos_iff.2 g2⟩
    | succ k =>
      obtain ⟨g1, m, g2, g3⟩ := ih h2 k p (by simpa using hp) hl
      exact ⟨g1, m, by simpa using g2, g3⟩
/-- The last condition of the laws of lines. -/
theorem lines_some (bin : Bool) (l p : List UInt8) (h : (Qp.lines (Qp.enc bin l)).length ≤ 1) (hp : (Qp.lines (Qp.enc bin l))[0]? = some p) : 0 < p.length ∨ l.length ≤ 0 := by
  have := lines_one _ p h hp
  have h2 := Qp.enc_pos bin l
  rw [this]
  omega
end Go.Proofs.Ytgdfbnedmifjlaa
