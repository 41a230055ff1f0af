/- The head of the translation, word by word: three closed facts that every row asks. -/
import Derived.Test.YtgdfbnedmifjlaaOpen
namespace Go.Proofs.Ytgdfbnedmifjlaa
set_option maxRecDepth 100000

/-- The signs of the translation's head: its first three words, and the rest. -/
def headA : List Nat := [104, 97, 114, 110, 101, 115, 115]
def headB : List Nat := [55, 53, 49, 101, 100, 100, 98, 57, 52, 101, 52, 57, 49, 98, 97, 48, 49, 100, 55, 53, 98, 56, 98, 51, 101, 97, 101, 52, 56, 53, 49, 101, 97, 54, 97, 53, 50, 49, 49, 56, 99, 53, 99, 98, 50, 57, 52, 99, 55, 48, 50, 55, 100, 56, 50, 57, 54, 55, 99, 53, 51, 97, 51, 97]
def headC : List Nat := [99, 117, 116]
def headR : List Nat := [97, 116, 32, 108, 111, 111, 112, 46, 101, 120, 97, 109, 112, 108, 101, 47, 108, 105, 98, 45, 103, 48, 51, 51, 50, 50, 47, 108, 97, 119, 115, 46, 70, 110, 67, 111, 117, 110, 116, 115, 32, 108, 111, 111, 112, 46, 101, 120, 97, 109, 112, 108, 101, 47, 108, 105, 98, 45, 103, 48, 51, 51, 50, 50, 47, 108, 97, 119, 115, 46, 70, 110, 72, 97, 118, 101, 32, 108, 111, 111, 112, 46, 101, 120, 97, 109, 112, 108, 101, 47, 108, 105, 98, 45, 103, 48, 51, 51, 50, 50, 47, 108, 97, 119, 115, 46, 70, 110, 78, 111, 116, 104, 105, 110, 103, 32, 108, 111, 111, 112, 46, 101, 120, 97, 109, 112, 108, 101, 47, 108, 105, 98, 45, 103, 48, 51, 51, 50, 50, 47, 108, 97, 119, 115, 46, 70, 110, 82, 117, 110, 32, 108, 111, 111, 112, 46, 101, 120, 97, 109, 112, 108, 101, 47, 108, 105, 98, 45, 103, 48, 51, 51, 50, 50, 47, 108, 97, 119, 115, 46, 70, 110, 76, 105, 109, 105, 116, 101, 100, 32, 108, 111, 111, 112, 46, 101, 120, 97, 109, 112, 108, 101, 47, 108, 105, 98, 45, 103, 48, 51, 51, 50, 50, 47, 108, 97, 119, 115, 46, 70, 110, 65, 112, 97, 114, 116, 32, 108, 111, 111, 112, 46, 101, 120, 97, 109, 112, 108, 101, 47, 108, 105, 98, 45, 103, 48, 51, 51, 50, 50, 47, 108, 97, 119, 115, 46, 70, 110, 67, 117, 116, 115, 32, 108, 111, 111, 112, 46, 101, 120, 97, 109, 112, 108, 101, 47, 108, 105, 98, 45, 103, 48, 51, 51, 50, 50, 47, 108, 97, 119, 115, 46, 70, 110, 66, 105, 110, 97, 114, 121, 66, 97, 99, 107, 32, 108, 111, 111, 112, 46, 101, 120, 97, 109, 112, 108, 101, 47, 108, 105, 98, 45, 103, 48, 51, 51, 50, 50, 47, 108, 97, 119, 115, 46, 70, 110, 66, 121, 116, 101, 32, 108, 111, 111, 112, 46, 101, 120, 97, 109, 112, 108, 101, 47, 108, 105, 98, 45, 103, 48, 51, 51, 50, 50, 47, 108, 97, 119, 115, 46, 70, 110, 76, 105, 109, 105, 116, 115, 32, 108, 111, 111, 112, 46, 101, 120, 97, 109, 112, 108, 101, 47, 108, 105, 98, 45, 103, 48, 51, 51, 50, 50, 47, 108, 97, 119, 115, 46, 70, 110, 67, 108, 111, 115, 101, 65, 103, 97, 105, 110, 32, 108, 111, 111, 112, 46, 101, 120, 97, 109, 112, 108, 101, 47, 108, 105, 98, 45, 103, 48, 51, 51, 50, 50, 47, 108, 97, 119, 115, 46, 70, 110, 69, 110, 99, 111, 100, 101, 32, 108, 111, 111, 112, 46, 101, 120, 97, 109, 112, 108, 101, 47, 108, 105, 98, 45, 103, 48, 51, 51, 50, 50, 47, 108, 97, 119, 115, 46, 70, 110, 74, 111, 105, 110, 32, 108, 111, 111, 112, 46, 101, 120, 97, 109, 112, 108, 101, 47, 108, 105, 98, 45, 103, 48, 51, 51, 50, 50, 47, 108, 97, 119, 115, 46, 70, 110, 76, 101, 110, 103, 116, 104, 32, 108, 111, 111, 112, 46, 101, 120, 97, 109, 112, 108, 101, 47, 108, 105, 98, 45, 103, 48, 51, 51, 50, 50, 47, 108, 97, 119, 115, 46, 70, 110, 76, 105, 110, 101, 76, 101, 110, 103, 116, 104, 32, 108, 111, 111, 112, 46, 101, 120, 97, 109, 112, 108, 101, 47, 108, 105, 98, 45, 103, 48, 51, 51, 50, 50, 47, 108, 97, 119, 115, 46, 70, 110, 76, 111, 110, 101, 70, 101, 101, 100, 115, 32, 108, 111, 111, 112, 46, 101, 120, 97, 109, 112, 108, 101, 47, 108, 105, 98, 45, 103, 48, 51, 51, 50, 50, 47, 108, 97, 119, 115, 46, 70, 110, 77, 111, 100, 101, 115, 32, 108, 111, 111, 112, 46, 101, 120, 97, 109, 112, 108, 101, 47, 108, 105, 98, 45, 103, 48, 51, 51, 50, 50, 47, 108, 97, 119, 115, 46, 70, 110, 82, 101, 112, 101, 97, 116, 101, 100, 32, 108, 111, 111, 112, 46, 101, 120, 97, 109, 112, 108, 101, 47, 108, 105, 98, 45, 103, 48, 51, 51, 50, 50, 47, 108, 97, 119, 115, 46, 70, 110, 82, 105, 103, 104, 116, 32, 108, 111, 111, 112, 46, 101, 120, 97, 109, 112, 108, 101, 47, 108, 105, 98, 45, 103, 48, 51, 51, 50, 50, 47, 108, 97, 119, 115, 46, 70, 110, 83, 104, 111, 114, 116, 32, 108, 111, 111, 112, 46, 101, 120, 97, 109, 112, 108, 101, 47, 108, 105, 98, 45, 103, 48, 51, 51, 50, 50, 47, 108, 97, 119, 115, 46, 70, 110, 83, 111, 102, 116, 70, 117, 108, 108, 32, 108, 111, 111, 112, 46, 101, 120, 97, 109, 112, 108, 101, 47, 108, 105, 98, 45, 103, 48, 51, 51, 50, 50, 47, 108, 97, 119, 115, 46, 70, 110, 84, 101, 120, 116, 66, 97, 99, 107, 32, 108, 111, 111, 112, 46, 101, 120, 97, 109, 112, 108, 101, 47, 108, 105, 98, 45, 103, 48, 51, 51, 50, 50, 47, 108, 97, 119, 115, 46, 70, 110, 84, 101, 120, 116, 84, 119, 105, 99, 101, 32, 108, 111, 111, 112, 46, 101, 120, 97, 109, 112, 108, 101, 47, 108, 105, 98, 45, 103, 48, 51, 51, 50, 50, 47, 108, 97, 119, 115, 46, 70, 110, 84, 119, 105, 99, 101, 32, 108, 111, 111, 112, 46, 101, 120, 97, 109, 112, 108, 101, 47, 108, 105, 98, 45, 103, 48, 51, 51, 50, 50, 47, 108, 97, 119, 115, 46, 70, 110, 85, 110, 102, 111, 108, 100, 101, 100, 32, 108, 111, 111, 112, 46, 101, 120, 97, 109, 112, 108, 101, 47, 108, 105, 98, 45, 103, 48, 51, 51, 50, 50, 47, 108, 97, 119, 115, 46, 70, 110, 69, 110, 99, 111, 100, 101, 80, 97, 114, 116, 115]
def headNums : List Nat := headA ++ 32 :: (headB ++ 32 :: (headC ++ 32 :: headR))
theorem head_of : String.ofList (headNums.map Char.ofNat) = Try.prog.initOrder := by kernel_rfl
theorem head_signs : Try.prog.initOrder.toList = headNums.map Char.ofNat := by
  rw [← head_of, String.toList_ofList]
theorem words_step (w : List Char) : (∀ c ∈ w, c ≠ Char.ofNat 32) → ∀ r, wordsSigns (w ++ Char.ofNat 32 :: r) = w :: wordsSigns r := by
  induction w with
  | nil => intro _ r; rfl
  | cons c w ih =>
    intro h r
    rw [List.cons_append, wordsSigns, ih (fun x hx => h x (by simp [hx]))]
    exact h c (by simp)
theorem no_blank (l : List Nat) (h : l.all (fun n => Char.ofNat n != Char.ofNat 32) = true) : ∀ c ∈ l.map Char.ofNat, c ≠ Char.ofNat 32 := by
  intro c hc
  obtain ⟨n, hn, rfl⟩ := List.mem_map.1 hc
  simpa using List.all_eq_true.1 h n hn
theorem head_words : wordsSigns Try.prog.initOrder.toList = headA.map Char.ofNat :: headB.map Char.ofNat :: headC.map Char.ofNat :: wordsSigns (headR.map Char.ofNat) := by
  have e : headNums.map Char.ofNat = headA.map Char.ofNat ++ Char.ofNat 32 :: (headB.map Char.ofNat ++ Char.ofNat 32 :: (headC.map Char.ofNat ++ Char.ofNat 32 :: headR.map Char.ofNat)) := by
    simp only [headNums, List.map_append, List.map_cons]
  rw [head_signs, e, words_step _ (no_blank headA (by decide +kernel)), words_step _ (no_blank headB (by decide +kernel)), words_step _ (no_blank headC (by decide +kernel))]
theorem behind : behindMainWord (wordsSigns Try.prog.initOrder.toList) = headC.map Char.ofNat :: wordsSigns (headR.map Char.ofNat) := by
  rw [head_words]
  generalize wordsSigns (headR.map Char.ofNat) = X
  kernel_rfl
theorem lifts_none : Try.prog.headLifts = [] := by
  unfold Program.headLifts
  rw [behind]
  generalize wordsSigns (headR.map Char.ofNat) = X
  kernel_rfl
theorem lifts_no : Try.prog.liftsFinal = false := by
  unfold Program.liftsFinal
  rw [behind, lifts_none]
  generalize wordsSigns (headR.map Char.ofNat) = X
  kernel_rfl
theorem strip_cut (X : List (List Char)) : stripLifts liftWords ("cut".toList :: X) = ([], "cut".toList :: X) := by kernel_rfl
theorem cut_gc : ("cut".toList == "gc".toList) = false := by decide +kernel
theorem cut_spec : ("cut".toList == "spec".toList) = false := by decide +kernel
theorem cut_carried : ("cut".toList == "carried".toList) = false := by decide +kernel
theorem cut_cut : ("cut".toList == "cut".toList) = true := by decide +kernel
theorem make_any (P : Program) (X : List (List Char)) (h : behindMainWord (wordsSigns P.initOrder.toList) = "cut".toList :: X) : P.make = some .cut := by
  unfold Program.make
  rw [h]
  simp only [cut_gc, cut_spec, cut_cut, Bool.or_self, Bool.true_or, Bool.false_eq_true, if_false, if_true]
theorem enters_any (P : Program) (X : List (List Char)) (h : behindMainWord (wordsSigns P.initOrder.toList) = "cut".toList :: X) (hl : P.laysLater = false) (hr : P.bearsReflect = false) (hd : P.doorFits [] = true) : P.mayEnter = true := by
  unfold Program.mayEnter
  rw [h]
  simp only [cut_gc, cut_spec, cut_carried, strip_cut, hl, hr, hd, Bool.or_self, Bool.false_and, List.head?_cons, Bool.not_false, Bool.or_true, Bool.and_true, List.contains_nil, beq_self_eq_true]
theorem behind_cut : behindMainWord (wordsSigns Try.prog.initOrder.toList) = "cut".toList :: wordsSigns (headR.map Char.ofNat) := by
  have e : headC.map Char.ofNat = "cut".toList := by kernel_rfl
  rw [behind, e]
theorem make_cut : Try.prog.make = some .cut := make_any _ _ behind_cut
theorem enters : Try.prog.mayEnter = true := enters_any _ _ behind_cut (by kernel_rfl) (by kernel_rfl) (by kernel_rfl)
end Go.Proofs.Ytgdfbnedmifjlaa
