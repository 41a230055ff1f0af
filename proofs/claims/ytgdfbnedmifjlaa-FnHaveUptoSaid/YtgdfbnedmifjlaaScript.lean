/- Scripts in memory, and what a run of one comes to. -/
import Derived.Test.YtgdfbnedmifjlaaCall
namespace Go.Proofs.Ytgdfbnedmifjlaa
open Go.RowKit

def stepCells : List Qp.Stp → List Value → List Value
  | x :: xs, d :: ds => .bool x.cl :: d :: stepCells xs ds
  | _, _ => []
theorem stepCells_len (xs : List Qp.Stp) : ∀ ds : List Value, ds.length = xs.length → (stepCells xs ds).length = xs.length * 2 := by
  induction xs with
  | nil => intro ds _; simp [stepCells]
  | cons x xs ih =>
    intro ds h
    cases ds with
    | nil => simp at h
    | cons d ds =>
      simp only [stepCells, List.length_cons]
      rw [ih ds (by simpa using h)]; omega
theorem stepCells_at (xs : List Qp.Stp) : ∀ (ds : List Value) (k : Nat) (x : Qp.Stp) (d : Value), xs[k]? = some x → ds[k]? = some d → (stepCells xs ds)[k * 2]? = some (.bool x.cl) ∧ (stepCells xs ds)[k * 2 + 1]? = some d := by
  induction xs with
  | nil => intro ds k x d h; simp at h
  | cons y xs ih =>
    intro ds k x d h1 h2
    cases ds with
    | nil => simp at h2
    | cons d' ds =>
      cases k with
      | zero => simp at h1 h2; subst h1 h2; simp [stepCells]
      | succ k =>
        simp only [List.getElem?_cons_succ] at h1 h2
        have := ih ds k x d h1 h2
        have e : (k + 1) * 2 = k * 2 + 1 + 1 := by omega
        simp only [stepCells, e, List.getElem?_cons_succ]
        exact this
/-- A slice of steps that reads as a script. -/
def Steps (w : World) (v : Value) (xs : List Qp.Stp) : Prop :=
  ∃ ds : List Value, ds.length = xs.length ∧ Rd w 2 v xs.length (stepCells xs ds) ∧ ∀ (i : Nat) (d : Value) (x : Qp.Stp), ds[i]? = some d → xs[i]? = some x → Rd w 1 d x.data.length (x.data.map bv)
theorem Steps.keep {w w' : World} {v : Value} {xs : List Qp.Stp} (h : Steps w v xs) (hb : Below w.heap.size w w') : Steps w' v xs := by
  obtain ⟨ds, h1, h2, h3⟩ := h
  exact ⟨ds, h1, h2.keep hb, fun i d x g1 g2 => (h3 i d x g1 g2).keep hb⟩

/-- An answer. -/
structure An where
  n : Int
  bad : Bool
  hv : Nat
def ansCells : List An → List Value
  | [] => []
  | a :: l => .int .i64 a.n :: .bool a.bad :: .int .i64 (a.hv : Int) :: ansCells l
theorem ansCells_append (l : List An) (a : An) : ansCells (l ++ [a]) = ansCells l ++ [.int .i64 a.n, .bool a.bad, .int .i64 (a.hv : Int)] := by
  induction l with
  | nil => rfl
  | cons b l ih => simp [ansCells, ih]
theorem ansCells_len (l : List An) : (ansCells l).length = l.length * 3 := by
  induction l with
  | nil => rfl
  | cons b l ih => simp only [ansCells, List.length_cons, ih]; omega
theorem ansCells_one (l : List An) : ∀ u ∈ ansCells l, u.oneCell' = true := by
  induction l with
  | nil => simp [ansCells]
  | cons b l ih =>
    intro u hu
    simp only [ansCells, List.mem_cons] at hu
    rcases hu with rfl | rfl | rfl | hu
    · rfl
    · rfl
    · rfl
    · exact ih u hu
theorem ansCells_at (l : List An) : ∀ (k : Nat) (a : An), l[k]? = some a → (ansCells l)[k * 3]? = some (.int .i64 a.n) ∧ (ansCells l)[k * 3 + 1]? = some (.bool a.bad) ∧ (ansCells l)[k * 3 + 2]? = some (.int .i64 (a.hv : Int)) := by
  induction l with
  | nil => intro k a h; simp at h
  | cons b l ih =>
    intro k a h
    cases k with
    | zero => simp at h; subst h; simp [ansCells]
    | succ k =>
      simp only [List.getElem?_cons_succ] at h
      have e : (k + 1) * 3 = k * 3 + 1 + 1 + 1 := by omega
      have := ih k a h
      simp only [ansCells, e, List.getElem?_cons_succ]
      exact this
/-- What an answer tells of the state behind its call. -/
def AnOK (a : An) (s : Qp.St) (x : Qp.Stp) : Prop := a.bad = s.bad ∧ a.hv = s.got.length ∧ (s.bad = false → a.n = if x.cl then 0 else (x.data.length : Int))

def tot : List Qp.Stp → Nat
  | [] => 0
  | x :: xs => x.data.length + 1 + tot xs
theorem tot_append (a b : List Qp.Stp) : tot (a ++ b) = tot a + tot b := by
  induction a with
  | nil => simp [tot]
  | cons x a ih => simp only [List.cons_append, tot, ih]; omega
theorem tot_len (a : List Qp.Stp) : a.length ≤ tot a := by
  induction a with
  | nil => simp [tot]
  | cons x a ih => simp only [List.length_cons, tot]; omega
theorem size_call (L : Option Nat) (bin : Bool) (s : Qp.St) (x : Qp.Stp) : Qp.size (Qp.callP L bin s x) ≤ Qp.size s + 8 * (x.data.length + 1) := by
  unfold Qp.callP
  split
  · have := Qp.size_close L s; omega
  · have := Qp.size_write L bin x.data s; omega
theorem size_endP (L : Option Nat) (bin : Bool) (xs : List Qp.Stp) : ∀ s, Qp.size (Qp.endP L bin s xs) ≤ Qp.size s + 8 * tot xs := by
  induction xs with
  | nil => intro s; simp [Qp.endP]
  | cons x xs ih =>
    intro s
    have h1 := ih (Qp.callP L bin s x)
    have h2 := size_call L bin s x
    have e : Qp.endP L bin s (x :: xs) = Qp.endP L bin (Qp.callP L bin s x) xs := rfl
    rw [e]
    simp only [tot]
    omega
theorem buf_call (L : Option Nat) (bin : Bool) (s : Qp.St) (x : Qp.Stp) (hb : s.bad = false) (hl : s.buf.length ≤ 75) (h : (Qp.callP L bin s x).bad = false) : (Qp.callP L bin s x).buf.length ≤ 75 := by
  revert h; unfold Qp.callP
  split
  · intro h; rw [Qp.buf_close L s h]; simp
  · exact Qp.buf_write L bin x.data s hb hl
theorem endP_take_succ (L : Option Nat) (bin : Bool) (s : Qp.St) (xs : List Qp.Stp) (k : Nat) (x : Qp.Stp) (h : xs[k]? = some x) : Qp.endP L bin s (xs.take (k + 1)) = Qp.callP L bin (Qp.endP L bin s (xs.take k)) x := by
  rw [List.take_add_one, h]
  simp [Qp.endP]

/-- call of the thin package, whatever the step. -/
theorem call_calls (w : World) (B b g : Nat) (bin : Bool) (L : Option Nat) (s : Qp.St) (v d : Value) (x : Qp.Stp) (hi : Inv w B b g bin L s v) (hb : s.bad = false) (hl : s.buf.length ≤ 75)
    (hL : L.getD 0 ≤ 9223372036854775807) (hg : Qp.size s + 8 * (x.data.length + 1) ≤ 1099510000000) (hd : Rd w 1 d x.data.length (x.data.map bv)) :
    Calls Try.prog 52 #[.pointer (some ⟨b, 0, none⟩), .pointer (some ⟨g, 0, none⟩), .agg #[.bool x.cl, d]] w (CPost w B b g bin L v (if x.cl then 0 else x.data.length) (Qp.callP L bin s x)) := by
  obtain ⟨cl, data⟩ := x
  cases cl with
  | true => exact call_close w B b g bin L s v d hi hb hl hL (by simp at hg; omega)
  | false => exact call_write w B b g bin L s v d data hi hb hl hL (by simp at hg; omega) hd
end Go.Proofs.Ytgdfbnedmifjlaa
