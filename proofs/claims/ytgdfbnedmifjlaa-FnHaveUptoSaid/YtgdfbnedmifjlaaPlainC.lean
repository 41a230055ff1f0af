/- More plain facts on encoded text: what it decodes to, and that its line breaks are whole. -/
import Derived.Test.YtgdfbnedmifjlaaPlain
namespace Qp
theorem decode_bin (l : List UInt8) : decode (enc true l) = some l := by
  rw [decode_enc, segs_bin]; simp [joined, joinGo]
theorem decode_text (l : List UInt8) (h : paired l = true) : decode (enc false l) = some (canonical l) := by
  rw [decode_enc, joined_segs l h]
theorem dec_len (bin : Bool) (l : List UInt8) : (joined (segs bin l)).length ≤ 2 * l.length := by
  have h1 := joined_len (segs bin l) (segs_ne bin l)
  have h2 := segGo_len bin l false []
  simp only [segs] at h1 ⊢
  simp only [List.length_nil] at h2
  omega
theorem canonical_len (l : List UInt8) (h : paired l = true) : (canonical l).length ≤ 2 * l.length := by
  rw [← joined_segs l h]; exact dec_len false l

def clean (l : List UInt8) : Prop := ∀ b ∈ l, b ≠ 13 ∧ b ≠ 10
theorem hexd_ne10 : ∀ n, n < 16 → hexd n ≠ 10 := by decide +kernel
theorem token_clean (b : UInt8) (l : Bool) : clean (token b l) := by
  intro x hx
  refine ⟨token_noCR b l x hx, ?_⟩
  have hlt := b.toNat_lt
  unfold token at hx
  split at hx
  · rename_i h
    simp only [List.mem_singleton] at hx
    subst hx
    rintro rfl
    revert h; cases l <;> decide
  · simp only [enc3, List.mem_cons, List.not_mem_nil, or_false] at hx
    rcases hx with rfl | rfl | rfl
    · decide
    · exact hexd_ne10 _ (by omega)
    · exact hexd_ne10 _ (by omega)
theorem clean_append {a b : List UInt8} (ha : clean a) (hb : clean b) : clean (a ++ b) := by
  intro x hx
  rcases List.mem_append.1 hx with h | h
  · exact ha x h
  · exact hb x h
theorem phGo_clean (l : List UInt8) : ∀ cur, clean cur → ∀ x ∈ phGo cur l, clean x := by
  induction l with
  | nil => intro cur hc x hx; simp [phGo] at hx; subst hx; exact hc
  | cons b bs ih =>
    intro cur hc x hx
    rw [phGo] at hx
    split at hx
    · rcases List.mem_cons.1 hx with rfl | hx
      · exact clean_append hc (by intro y hy; simp at hy; subst hy; decide)
      · exact ih _ (token_clean _ _) x hx
    · exact ih _ (clean_append hc (token_clean _ _)) x hx
theorem paired_clean (l : List UInt8) (h : clean l) (r : List UInt8) : paired (l ++ r) = paired r := by
  induction l with
  | nil => rfl
  | cons b bs ih =>
    have hb : (b == 13) = false := by simpa using (h b (by simp)).1
    rw [List.cons_append, paired, ih (fun x hx => h x (by simp [hx]))]
    simp [hb]
theorem fed_clean (l : List UInt8) (h : clean l) : ∀ (p : Bool) (r : List UInt8), fedGo p (l ++ r) = fedGo (if l = [] then p else false) r := by
  induction l with
  | nil => intro p r; simp
  | cons b bs ih =>
    intro p r
    have hb := h b (by simp)
    have h13 : (b == 13) = false := by simpa using hb.1
    have h10 : (b == 10) = false := by simpa using hb.2
    rw [List.cons_append, fedGo, ih (fun x hx => h x (by simp [hx])), h13, h10]
    by_cases he : bs = []
    · simp [he]
    · simp [he]
theorem joinGo_good (ls : List (List UInt8)) (h : ∀ x ∈ ls, clean x) : paired (joinGo ls) = true ∧ ∀ p, fedGo p (joinGo ls) = true := by
  induction ls with
  | nil => exact ⟨rfl, fun _ => rfl⟩
  | cons l ls ih =>
    obtain ⟨h1, h2⟩ := ih (fun x hx => h x (by simp [hx]))
    have hl := h l (by simp)
    refine ⟨?_, fun p => ?_⟩
    · show paired (13 :: 10 :: (l ++ joinGo ls)) = true
      simp [paired, brk, paired_clean l hl, h1]
    · show fedGo p (13 :: 10 :: (l ++ joinGo ls)) = true
      simp [fedGo, fed_clean l hl, h2]
theorem text_good (l : List UInt8) (bin : Bool) : paired (enc bin l) = true ∧ fed (enc bin l) = true := by
  rw [enc_eq, ← joined_phys]
  have hc : ∀ x ∈ phys (segs bin l), clean x := by
    intro x hx
    obtain ⟨s, _, hs⟩ := List.mem_flatMap.1 hx
    exact phGo_clean s [] (by intro y hy; simp at hy) x hs
  cases hp : phys (segs bin l) with
  | nil => exact ⟨rfl, rfl⟩
  | cons m ms =>
    rw [hp] at hc
    obtain ⟨h1, h2⟩ := joinGo_good ms (fun x hx => hc x (by simp [hx]))
    have hm := hc m (by simp)
    simp only [joined]
    exact ⟨by rw [paired_clean m hm]; exact h1, by rw [fed, fed_clean m hm]; exact h2 _⟩
theorem decode_twice (l : List UInt8) (bin : Bool) : decode (enc false (enc bin l)) = some (enc bin l) := by
  obtain ⟨h1, h2⟩ := text_good l bin
  rw [decode_text _ h1, canonical_fed _ h2]
end Qp
