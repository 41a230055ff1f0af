/- Rows that a call builds: bytes; slices of bytes that are the call's own, too. -/
import Derived.Test.YtgdfbnedmifjlaaSpecE
namespace Go.Proofs.Ytgdfbnedmifjlaa
open Go.RowKit

theorem own_keep {wr w2 : World} {base : Nat} {e : TypeId} {size n : Nat} {v : Value} {xs : List Value} (h : wr.ownsRow base e size v n xs) (hb : Below wr.heap.size wr w2) : w2.ownsRow base e size v n xs :=
  Only.own (Only.of_below hb) h (fun k hk => by have := (h.lt k hk).2; omega)
/-- A row of another type's blocks, behind an append. -/
theorem own_far {wr w2 : World} {base base' : Nat} {e e' : TypeId} {size size' n n' : Nat} {v v' : Value} {xs xs' : List Value} (h : wr.ownsRow base e size v n xs) (h' : wr.ownsRow base' e' size' v' n' xs') (hne : e ≠ e') (o : Obj) (hg : (wr.alloc o).grownBy w2 v'.ownBlock) : w2.ownsRow base e size v n xs := by
  have h1 := own_keep h ((Below.refl _ wr).alloc (Nat.le_refl _) o)
  refine Only.own (S := fun i => v'.ownBlock = some i) ⟨hg.os, hg.tape, hg.output, hg.size, fun i hi hn => hg.block i hi (fun h => hn h.symm)⟩ h1 (fun k hk => ?_)
  exact own_apart h h' hne k hk

/-- The bytes that a row has got so far. -/
def Grow (w : World) (out : List UInt8) (v : Value) (wr : World) : Prop := wr.ownsRow w.heap.size 5 1 v out.length (out.map bv) ∧ Below w.heap.size w wr
section
variable {w wr w2 : World} {out : List UInt8} {v v' : Value}
theorem Grow.start (w : World) : Grow w [] (.slice (some ⟨w.heap.size, 0, none⟩) 0 0) (w.alloc (.cells #[] 5)) := ⟨own_empty w 5 1, (Below.refl _ _).alloc (Nat.le_refl _) _⟩
theorem Grow.keep (h : Grow w out v wr) (hb : Below wr.heap.size wr w2) : Grow w out v w2 := ⟨own_keep h.1 hb, bel_old h.2 hb⟩
theorem Grow.alloc (h : Grow w out v wr) (o : Obj) : Grow w out v (wr.alloc o) := h.keep ((Below.refl _ wr).alloc (Nat.le_refl _) o)
theorem Grow.app (h : Grow w out v wr) (x : List UInt8) (ho : w2.ownsRow w.heap.size 5 1 v' (out.length + x.length) (out.map bv ++ x.map bv)) (hg : wr.grownBy w2 v.ownBlock) : Grow w (out ++ x) v' w2 :=
  ⟨by simpa using ho, h.2.grown hg h.2.size (fun i hi => (h.1.lt i hi).1)⟩
theorem Grow.more (h : Grow w out v wr) (x : List UInt8) {o : Obj} (ho : w2.ownsRow w.heap.size 5 1 v' (out.length + x.length) (out.map bv ++ x.map bv)) (hg : (wr.alloc o).grownBy w2 v.ownBlock) : Grow w (out ++ x) v' w2 :=
  (h.alloc o).app x ho hg
theorem Grow.first (h : Grow w [] v wr) (x : List UInt8) (ho : w2.ownsRow w.heap.size 5 1 v' x.length (x.map bv)) (hg : wr.grownBy w2 v.ownBlock) : Grow w x v' w2 :=
  ⟨ho, h.2.grown hg h.2.size (fun i hi => (h.1.lt i hi).1)⟩
theorem Grow.bytes (h : Grow w out v wr) : NewBytes w out (.returned v) wr := NewRow.bytes ⟨v, rfl, h.1, h.2⟩
end

/-- A row of slices of bytes, all of the call's own making. -/
def ORow (B : Nat) (wr : World) (v : Value) (qs : List (List UInt8)) : Prop :=
  ∃ ds : List Value, ds.length = qs.length ∧ wr.ownsRow B 24 1 v qs.length ds ∧ ∀ (i : Nat) (d : Value) (q : List UInt8), ds[i]? = some d → qs[i]? = some q → wr.ownsRow B 5 1 d q.length (q.map bv)
section
variable {B : Nat} {wr w2 : World} {v v' : Value} {qs : List (List UInt8)}
theorem ORow.start (w : World) : ORow w.heap.size (w.alloc (.cells #[] 24)) (.slice (some ⟨w.heap.size, 0, none⟩) 0 0) [] :=
  ⟨[], rfl, own_empty w 24 1, fun i d q h => by simp at h⟩
theorem ORow.keep (h : ORow B wr v qs) (hb : Below wr.heap.size wr w2) : ORow B w2 v qs := by
  obtain ⟨ds, h1, h2, h3⟩ := h
  exact ⟨ds, h1, own_keep h2 hb, fun i d q g1 g2 => own_keep (h3 i d q g1 g2) hb⟩
theorem ORow.parts (h : ORow B wr v qs) : Parts wr v qs := by
  obtain ⟨ds, h1, h2, h3⟩ := h
  exact ⟨ds, h1, Rd.of_own h2, fun i d q g1 g2 => Rd.of_own (h3 i d q g1 g2)⟩
theorem ORow.shape (h : ORow B wr v qs) : ∃ A c, v = .slice A qs.length c := by
  obtain ⟨ds, _, h2, _⟩ := h
  exact own_shape h2
end
/-- One slice more. -/
theorem ORow.push {B : Nat} {wr w2 : World} {v v' d : Value} {qs : List (List UInt8)} {q : List UInt8} {ds : List Value} {o : Obj} (h1 : ds.length = qs.length) (h2 : wr.ownsRow B 24 1 v qs.length ds)
    (h3 : ∀ (i : Nat) (d : Value) (q : List UInt8), ds[i]? = some d → qs[i]? = some q → wr.ownsRow B 5 1 d q.length (q.map bv)) (hd : wr.ownsRow B 5 1 d q.length (q.map bv))
    (ho : w2.ownsRow B 24 1 v' (qs.length + 1) (ds ++ [d])) (hg : (wr.alloc o).grownBy w2 v.ownBlock) : ORow B w2 v' (qs ++ [q]) := by
  refine ⟨ds ++ [d], by simp [h1], by simpa using ho, fun i e r g1 g2 => ?_⟩
  rcases Nat.lt_or_ge i ds.length with h | h
  · rw [List.getElem?_append_left h] at g1
    rw [List.getElem?_append_left (by omega)] at g2
    exact own_far (h3 i e r g1 g2) h2 (by decide) o hg
  · rw [List.getElem?_append_right h] at g1
    rw [List.getElem?_append_right (by omega), ← h1] at g2
    cases hi : i - ds.length with
    | zero =>
      rw [hi] at g1 g2
      simp at g1 g2
      subst g1 g2
      exact own_far hd h2 (by decide) o hg
    | succ j => rw [hi] at g1; simp at g1
theorem bel_grown {w wr w2 : World} {base : Nat} {e : TypeId} {size n : Nat} {v : Value} {xs : List Value} (hb : Below w.heap.size w wr) (h2 : wr.ownsRow base e size v n xs) (hw : w.heap.size ≤ base) (o : Obj) (hg : (wr.alloc o).grownBy w2 v.ownBlock) : Below w.heap.size w w2 :=
  (hb.alloc hb.size o).grown hg (by simp; have := hb.size; omega) (fun i hi' => Nat.le_trans hw (h2.lt i hi').1)
end Go.Proofs.Ytgdfbnedmifjlaa
