/- More plain facts: two texts one behind the other, scripts that end with a Close, limits. -/
import Derived.Test.YtgdfbnedmifjlaaBound
namespace Qp

theorem close_done (s : St) (h1 : s.bad = false) (h2 : s.buf = []) : close none s = s := by
  obtain ⟨buf, cr, got, bad⟩ := s
  simp at h1 h2
  subst h1 h2
  simp [close, checkLast, flush, over]
theorem checkLast_cr (s : St) (h : s.bad = false) : (checkLast none s).cr = s.cr := by
  unfold checkLast
  rw [if_neg (by simp [h])]
  split
  · rfl
  · split
    · exact (encode_none _ { s with buf := s.buf.dropLast } h).2.1
    · rfl
theorem after_crlf (s : St) (h : s.bad = false) : (write none false s [13, 10]).bad = false ∧ (write none false s [13, 10]).buf = [] ∧ (write none false s [13, 10]).cr = false := by
  have e : write none false s [13, 10] = putc none 10 (putc none 13 s) := rfl
  have e1 : putc none 13 s = insCRLF none (checkLast none { s with cr := true }) := putc_brk none 13 s h rfl (by cases s.cr <;> rfl)
  have b1 : (checkLast none { s with cr := true }).bad = false := good_checkLast.fine _ h
  have b2 := insCRLF_none _ b1
  have c1 := checkLast_cr { s with cr := true } h
  have key : ∀ t : St, t.bad = false → t.cr = true → t.buf = [] → (putc none 10 t).bad = false ∧ (putc none 10 t).buf = [] ∧ (putc none 10 t).cr = false := by
    intro t h1 h2 h3
    rw [putc_skip none 10 t h1 rfl h2]
    exact ⟨h1, h3, rfl⟩
  rw [e, e1, b2]
  exact key _ b1 c1 rfl
/-- A line break begins a new encoded line. -/
theorem enc_join (a b : List UInt8) : enc false ((a ++ [13, 10]) ++ b) = enc false (a ++ [13, 10]) ++ enc false b := by
  have hw : (write none false st0 a).bad = false := (good_write false a).fine st0 rfl
  obtain ⟨h1, h2, h3⟩ := after_crlf _ hw
  rw [← write_append] at h1 h2 h3
  generalize hs : write none false st0 (a ++ [13, 10]) = s at *
  have hr := (run_none false b s [] s.got h1 (by simp [view, h2, fillF])).2.2
  have e1 : enc false (a ++ [13, 10]) = s.got := by unfold enc; rw [hs, close_done s h1 h2]
  rw [e1, enc_eq false b]
  unfold enc
  rw [write_append, hs, hr, h3]
  rfl

theorem enc_nil (bin : Bool) : enc bin [] = [] := by cases bin <;> rfl
theorem flat_more (ps : List (List UInt8)) : (ps.flatMap fun p => [[], p, []]).flatten = ps.flatten := by
  induction ps with
  | nil => rfl
  | cons p ps ih => simp only [List.flatMap_cons, List.flatten_append, ih, List.flatten_cons]; simp
theorem flat_none (ps : List (List UInt8)) : (ps.map fun _ => ([] : List UInt8)).flatten = [] := by
  induction ps with
  | nil => rfl
  | cons p ps ih => simp

theorem unfolded_enc (bin : Bool) (data : List UInt8) (h : bin = true ∨ paired data = true) : unfolded (enc bin data) = joined ((if bin then [data] else lines (canonical data)).map tokens) := by
  rw [enc_eq, unfolded_joined]
  cases bin with
  | true => rw [segs_bin]; rfl
  | false =>
    have h' : paired data = true := by simpa using h
    rw [segs_lines data h']; rfl

/-! Scripts that end with their only Close. -/
def Ends (xs : List Stp) : Prop := ∃ ys z, xs = ys ++ [z] ∧ z.cl = true ∧ ∀ y ∈ ys, y.cl = false
def wdata (xs : List Stp) : List UInt8 := (xs.map fun x => if x.cl then [] else x.data).flatten
theorem wdata_append (a b : List Stp) : wdata (a ++ b) = wdata a ++ wdata b := by simp [wdata]
theorem endP_writes (L : Option Nat) (bin : Bool) (ys : List Stp) (h : ∀ y ∈ ys, y.cl = false) : ∀ s, endP L bin s ys = write L bin s (wdata ys) := by
  induction ys with
  | nil => intro s; rfl
  | cons y ys ih =>
    intro s
    have h1 := h y (by simp)
    have e : endP L bin s (y :: ys) = endP L bin (write L bin s y.data) ys := by simp [endP, callP, h1]
    rw [e, ih (fun z hz => h z (by simp [hz]))]
    have e2 : wdata (y :: ys) = y.data ++ wdata ys := by simp [wdata, h1]
    rw [e2, write_append]
theorem end_script (bin : Bool) (xs : List Stp) (h : Ends xs) : (endP none bin st0 xs).got = enc bin (wdata xs) := by
  obtain ⟨ys, z, rfl, hz, hy⟩ := h
  have e : endP none bin st0 (ys ++ [z]) = close none (endP none bin st0 ys) := by simp [endP, callP, hz]
  have e2 : wdata (ys ++ [z]) = wdata ys := by rw [wdata_append]; simp [wdata, hz]
  rw [e, endP_writes none bin ys hy, e2]
  rfl
theorem end_fine (bin : Bool) (xs : List Stp) : (endP none bin st0 xs).bad = false := (good_endP bin xs).fine st0 rfl
theorem endP_append (L : Option Nat) (bin : Bool) (s : St) (a b : List Stp) : endP L bin s (a ++ b) = endP L bin (endP L bin s a) b := by simp [endP]
theorem end_prefix (L : Option Nat) (bin : Bool) (xs : List Stp) (k : Nat) : (endP L bin st0 (xs.take k)).got <+: (endP L bin st0 xs).got := by
  have e : endP L bin st0 xs = endP L bin (endP L bin st0 (xs.take k)) (xs.drop k) := by rw [← endP_append, List.take_append_drop]
  rw [e]
  exact (good_endP bin (xs.drop k)).mono L _
theorem end_prefix2 (L : Option Nat) (bin : Bool) (xs : List Stp) (j k : Nat) (h : j ≤ k) : (endP L bin st0 (xs.take j)).got <+: (endP L bin st0 (xs.take k)).got := by
  have := end_prefix L bin (xs.take k) j
  rwa [List.take_take, Nat.min_eq_left h] at this
theorem take_of_prefix {a b : List UInt8} (h : a <+: b) : b.take a.length = a := by
  obtain ⟨t, rfl⟩ := h; simp

/-! Limits. -/
/-- What a limited run comes to, against one with a greater limit, or with none. -/
theorem lim_rel (bin : Bool) (m : Nat) (L : Option Nat) (hL : leL m L) (xs : List Stp) : Rel m (endP (some m) bin st0 xs) (endP L bin st0 xs) := (good_endP bin xs).rel m L hL st0
theorem lim_low (bin : Bool) (m : Nat) (xs : List Stp) : (endP (some m) bin st0 xs).got.length ≤ m := (good_endP bin xs).low m st0 (Nat.zero_le _)
theorem rel_prefix {m : Nat} {s t : St} (h : Rel m s t) : s.got <+: t.got := by
  rcases h with rfl | ⟨_, h, _⟩
  · exact List.prefix_refl _
  · exact h
theorem rel_fine {m : Nat} {s t : St} (h : Rel m s t) (hs : s.bad = false) : s = t := by
  rcases h with rfl | ⟨h, _⟩
  · rfl
  · rw [h] at hs; cases hs
/-- All of it fits: nothing fails. -/
theorem lim_fits (bin : Bool) (m : Nat) (xs : List Stp) (h : (endP none bin st0 xs).got.length ≤ m) : endP (some m) bin st0 xs = endP none bin st0 xs := by
  rcases lim_rel bin m none trivial xs with e | ⟨_, _, h3⟩
  · exact e
  · have := h3 (end_fine bin xs); omega
/-- It does not fit: something fails. -/
theorem lim_fails (bin : Bool) (m : Nat) (xs : List Stp) (h : m < (endP none bin st0 xs).got.length) : (endP (some m) bin st0 xs).bad = true := by
  rcases lim_rel bin m none trivial xs with e | ⟨h1, _⟩
  · have := lim_low bin m xs
    rw [e] at this; omega
  · exact h1
end Qp
