/- Lines and Unfolded of the reference. -/
import Derived.Test.YtgdfbnedmifjlaaSpecC
namespace Go.Proofs.Ytgdfbnedmifjlaa
open Go.RowKit

/-! Rows of slices of bytes that a call builds. -/
def VRow (w wr : World) (v : Value) (qs : List (List UInt8)) : Prop :=
  ∃ ds : List Value, ds.length = qs.length ∧ wr.ownsRow w.heap.size 24 1 v qs.length ds ∧ ∀ (i : Nat) (d : Value) (q : List UInt8), ds[i]? = some d → qs[i]? = some q → Rd w 1 d q.length (q.map bv)
theorem VRow.more {w w2 : World} {v' : Value} {qs rs : List (List UInt8)} {ds xs : List Value} (hds : ds.length = qs.length) (hdat : ∀ (i : Nat) (d : Value) (q : List UInt8), ds[i]? = some d → qs[i]? = some q → Rd w 1 d q.length (q.map bv))
    (hxs : xs.length = rs.length) (hx : ∀ (i : Nat) (d : Value) (q : List UInt8), xs[i]? = some d → rs[i]? = some q → Rd w 1 d q.length (q.map bv))
    (ho : w2.ownsRow w.heap.size 24 1 v' (qs.length + rs.length) (ds ++ xs)) : VRow w w2 v' (qs ++ rs) := by
  refine ⟨ds ++ xs, by simp [hds, hxs], by simpa using ho, fun i d q g1 g2 => ?_⟩
  rcases Nat.lt_or_ge i ds.length with h | h
  · rw [List.getElem?_append_left h] at g1
    rw [List.getElem?_append_left (by omega)] at g2
    exact hdat i d q g1 g2
  · rw [List.getElem?_append_right h] at g1
    rw [List.getElem?_append_right (by omega), ← hds] at g2
    exact hx _ d q g1 g2
theorem VRow.one {w w2 : World} {v' : Value} {qs : List (List UInt8)} {q : List UInt8} {ds : List Value} {d : Value} (hds : ds.length = qs.length) (hdat : ∀ (i : Nat) (d : Value) (q : List UInt8), ds[i]? = some d → qs[i]? = some q → Rd w 1 d q.length (q.map bv))
    (hx : Rd w 1 d q.length (q.map bv)) (ho : w2.ownsRow w.heap.size 24 1 v' (qs.length + 1) (ds ++ [d])) : VRow w w2 v' (qs ++ [q]) := by
  refine VRow.more hds hdat rfl (fun i d' q' g1 g2 => ?_) ho
  cases i with
  | zero => simp at g1 g2; subst g1 g2; exact hx
  | succ i => simp at g1
theorem VRow.parts {w wr : World} {v : Value} {qs : List (List UInt8)} (h : VRow w wr v qs) (hb : Below w.heap.size w wr) : Parts wr v qs := by
  obtain ⟨ds, h1, h2, h3⟩ := h
  exact ⟨ds, h1, Rd.of_own h2, fun i d q g1 g2 => (h3 i d q g1 g2).keep hb⟩
theorem VRow.nil (w : World) : VRow w (w.alloc (.cells #[] 24)) (.slice (some ⟨w.heap.size, 0, none⟩) 0 0) [] :=
  ⟨[], rfl, own_empty w 24 1, fun i d q g1 _ => by simp at g1⟩
/-- A slice of a slice of bytes. -/
theorem rd_sub {w : World} {ab ao c c' : Nat} {l : List UInt8} (h : Rd w 1 (.slice (some ⟨ab, ao, none⟩) l.length c) l.length (l.map bv)) (b n : Nat) (hb : b + n ≤ l.length) (hc : n ≤ c') :
    Rd w 1 (.slice (some ⟨ab, ao + b, none⟩) n c') ((l.drop b).take n).length (((l.drop b).take n).map bv) := by
  have hn : ((l.drop b).take n).length = n := by simp; omega
  rw [hn]
  refine ⟨by simp; omega, .inr ⟨_, _, rfl, hc, fun h0 => ?_⟩⟩
  obtain ⟨ab', ao', e, h1, h2⟩ := h.get (k := 0) (by omega)
  injection e with e
  injection e with e1 e2
  subst e1 e2
  refine ⟨rfl, h1, fun j u hu => ?_⟩
  have : (l.map bv)[b + j]? = some u := by
    rw [← hu]
    have hj : j < n := by
      rcases Nat.lt_or_ge j n with g | g
      · exact g
      · rw [List.getElem?_eq_none (by simp; omega)] at hu; cases hu
    simp [hj, List.getElem?_drop]
  have := h2 (b + j) u this
  rwa [← Nat.add_assoc] at this

/-! Lines. -/
theorem linesGo_step (c : List UInt8) (a : UInt8) (r : List UInt8) (h : Qp.brk (a :: r) = false) : Qp.linesGo c (a :: r) = Qp.linesGo (c ++ [a]) r := by
  cases r with
  | nil => conv => lhs; rw [Qp.linesGo.eq_def]
  | cons b r =>
    have h' : (a == 13 && b == 10) = false := h
    rw [Qp.linesGo]; simp only [h']; rfl
theorem brk_true {l : List UInt8} {k : Nat} (h : Qp.brk (l.drop k) = true) : k + 2 ≤ l.length ∧ l.drop k = 13 :: 10 :: l.drop (k + 2) ∧ l[k]? = some 13 ∧ l[k + 1]? = some 10 := by
  cases h0 : l.drop k with
  | nil => rw [h0] at h; simp [Qp.brk] at h
  | cons a r =>
    cases r with
    | nil => rw [h0] at h; simp [Qp.brk] at h
    | cons b r =>
      rw [h0] at h
      have h' : (a == 13 && b == 10) = true := h
      simp at h'
      obtain ⟨rfl, rfl⟩ := h'
      have e1 : l[k]? = some 13 := by have := congrArg (fun x => x[0]?) h0; simpa [List.getElem?_drop] using this
      have e2 : l[k + 1]? = some 10 := by have := congrArg (fun x => x[1]?) h0; simpa [List.getElem?_drop] using this
      have e3 : l.drop (k + 2) = r := by have := congrArg (fun x => x.drop 2) h0; simpa [List.drop_drop, Nat.add_comm] using this
      have := congrArg List.length h0
      simp at this
      exact ⟨by omega, by rw [e3], e1, e2⟩
/-- What holds at the head of each round of the loop. -/
def LnRel (w : World) (l : List UInt8) (b k : Nat) (v : Value) (wr : World) : Prop :=
  b ≤ l.length ∧ b ≤ k + 1 ∧ (b = k + 1 → l[k]? = some 10) ∧ Below w.heap.size w wr ∧
  ∃ acc, VRow w wr v acc ∧ Qp.lines l = acc ++ Qp.linesGo ((l.drop b).take (k - b)) (l.drop (max k b))
theorem LnRel.start (w : World) (l : List UInt8) : LnRel w l 0 0 (.slice (some ⟨w.heap.size, 0, none⟩) 0 0) (w.alloc (.cells #[] 24)) :=
  ⟨Nat.zero_le _, by omega, (fun h => by cases h), (Below.refl _ _).alloc (Nat.le_refl _) _, [], VRow.nil w, by simp [Qp.lines]⟩
theorem LnRel.on {w wr : World} {l : List UInt8} {b k : Nat} {v : Value} (h : LnRel w l b k v wr) (hk : k < l.length) (hb : Qp.brk (l.drop k) = false) : LnRel w l b (k + 1) v wr := by
  obtain ⟨h1, h2, h3, h4, acc, h5, h6⟩ := h
  refine ⟨h1, by omega, fun e => by omega, h4, acc, h5, ?_⟩
  rw [h6]
  congr 1
  rcases Nat.lt_or_ge k b with g | g
  · have e1 : k - b = 0 := by omega
    have e2 : k + 1 - b = 0 := by omega
    have e3 : max k b = max (k + 1) b := by omega
    rw [e1, e2, e3]
  · have e3 : max k b = k := by omega
    have e4 : max (k + 1) b = k + 1 := by omega
    rw [e3, e4]
    have e5 := List.drop_eq_getElem_cons hk
    rw [e5] at hb ⊢
    rw [linesGo_step _ _ _ hb]
    congr 1
    have e6 : k + 1 - b = (k - b) + 1 := by omega
    rw [e6, List.take_add_one, List.getElem?_drop]
    have : b + (k - b) = k := by omega
    rw [this, List.getElem?_eq_getElem hk]; rfl
theorem lines_cut {l acc : List (List UInt8)} {cur : List UInt8} {t : List UInt8} {s : List UInt8} (h : l = acc ++ Qp.linesGo cur s) (hs : s = 13 :: 10 :: t) : l = (acc ++ [cur]) ++ Qp.linesGo [] t := by
  rw [h, hs, Qp.linesGo_brk]; simp

/-- What Lines leaves. -/
def NewParts (w : World) (qs : List (List UInt8)) (e : Ending) (w' : World) : Prop :=
  ∃ A c, e = .returned (.slice A qs.length c) ∧ qs.length ≤ c ∧ Parts w' (.slice A qs.length c) qs ∧ Below w.heap.size w w'
theorem lines_count (l : List UInt8) : ∀ c, (Qp.linesGo c l).length ≤ l.length + 1 := by
  have key : ∀ n, ∀ l : List UInt8, l.length ≤ n → ∀ c, (Qp.linesGo c l).length ≤ l.length + 1 := by
    intro n
    induction n with
    | zero =>
      intro l h c
      have : l = [] := List.eq_nil_of_length_eq_zero (by omega)
      subst this; simp [Qp.linesGo]
    | succ n ih =>
      intro l h c
      cases l with
      | nil => simp [Qp.linesGo]
      | cons a r =>
        cases hb : Qp.brk (a :: r) with
        | false =>
          rw [linesGo_step c a r hb]
          have := ih r (by simp at h; omega) (c ++ [a])
          simp; omega
        | true =>
          have h0 : Qp.brk ((a :: r).drop 0) = true := hb
          obtain ⟨g1, g2, _⟩ := brk_true h0
          have g2' : a :: r = 13 :: 10 :: (a :: r).drop 2 := by simpa using g2
          rw [g2', Qp.linesGo_brk]
          have := ih ((a :: r).drop 2) (by simp at h ⊢; omega) []
          simp at this ⊢
          simp at g1
          omega
  exact key _ l (Nat.le_refl _)
theorem LnRel.done {w wr w1 : World} {l q : List UInt8} {acc : List (List UInt8)} {ds : List Value} {v v' d : Value} {o : Obj} (hb : Below w.heap.size w wr) (ho : wr.ownsRow w.heap.size 24 1 v acc.length ds)
    (hv : ds.length = acc.length ∧ ∀ (i : Nat) (d : Value) (q : List UInt8), ds[i]? = some d → acc[i]? = some q → Rd w 1 d q.length (q.map bv)) (hl : Qp.lines l = acc ++ [q]) (hd : Rd w 1 d q.length (q.map bv))
    (ho2 : w1.ownsRow w.heap.size 24 1 v' (acc.length + 1) (ds ++ [d])) (hg : (wr.alloc o).grownBy w1 v.ownBlock) : NewParts w (Qp.lines l) (.returned v') w1 := by
  have hb1 : Below w.heap.size w w1 := (hb.alloc hb.size o).grown hg (by simp; have := hb.size; omega) (fun i hi' => (ho.lt i hi').1)
  have hp := (VRow.one hv.1 hv.2 hd ho2).parts hb1
  rw [← hl] at hp
  obtain ⟨A, c, rfl, hc⟩ := (by obtain ⟨_, _, h, _⟩ := hp; exact h.shape : ∃ A c, v' = .slice A (Qp.lines l).length c ∧ (Qp.lines l).length ≤ c)
  exact ⟨A, c, rfl, hc, hp, hb1⟩
set_option maxHeartbeats 2000000 in
theorem Lines_calls (w : World) (v : Value) (l : List UInt8) (hr : Rd w 1 v l.length (l.map bv)) (hl : l.length ≤ 1073741824) :
    Calls Try.prog 43 #[v] w (NewParts w (Qp.lines l)) := by
  obtain ⟨i0, hi, hz0, hz1, hz2⟩ := info_parts info24
  obtain ⟨A, c, rfl, hc⟩ := hr.shape
  have hcnt : (Qp.lines l).length ≤ l.length + 1 := lines_count l []
  have HR := Lib.hid hr
  have HST := Lib.hid (LnRel.start w l)
  clear hr
  go_enter Try.func43, Try.ntmps43
  go_wp2_with fail
  go_loopw [3, 4, 5] (fun v b i wr => ∃ bn k : Nat, k ≤ l.length ∧ b = .int .i64 bn ∧ i = .int .i64 k ∧ LnRel w l bn k v wr) (fun _ _ i _ => l.length - (intOf i).toNat)
  case atStart => exact ⟨0, 0, Nat.zero_le _, rfl, rfl, HST.out⟩
  case round =>
    obtain ⟨b, k, hk, rfl, rfl, hrel⟩ := hrel
    clear HST
    have hbl : b ≤ l.length := hrel.1
    have hbk : b ≤ k + 1 := hrel.2.1
    have hbel := hrel.2.2.2.1
    have hsz := hbel.size
    have hrr := HR.out.keep hbel
    by_cases hkl : k < l.length
    · obtain ⟨ab, ao, rfl, _, hcell⟩ := hrr.byte hkl
      clear hcell
      cases hb : Qp.brk (l.drop k) with
      | false =>
        have HC := Lib.hid (Break_no wr _ l k (k : Int) rfl hrr (by omega) (by omega) hb)
        have HN := Lib.hid (hrel.on hkl hb)
        clear hrel hrr hbel hb
        go_wp2_with fail
        refine HC.out.mono ?_
        rintro e w' ⟨rfl, rfl⟩
        go_wp2_with fail
        go_roundw
        case rel => exact ⟨b, k + 1, by omega, rfl, by go_num, HN.out⟩
        case measure => simp [intOf]; omega
      | true =>
        have HC := Lib.hid (Break_yes wr _ l k (k : Int) rfl hrr (by omega) (by omega) hb)
        obtain ⟨_, _, h3, _, acc, ⟨ds, v1, v2, v3⟩, h6⟩ := hrel
        obtain ⟨f1, f2, f3, f4⟩ := brk_true hb
        have hbk' : b ≤ k := by
          rcases Nat.lt_or_ge k b with g | g
          · have := h3 (by omega)
            rw [f3] at this; exact absurd this (by decide)
          · exact g
        have emax : max k b = k := by omega
        rw [emax] at h6
        have h7 := lines_cut h6 f2
        have hal : acc.length + 1 ≤ 1073741826 := by
          have := congrArg List.length h7
          simp at this
          omega
        have hsub := rd_sub HR.out b (k - b) (c' := c - b) (by omega) (by omega)
        have HO := Lib.hid v2
        have HV := Lib.hid (And.intro v1 v3)
        have HB := Lib.hid hbel
        have HL := Lib.hid h7
        have HF := Lib.hid f4
        have HSub := Lib.hid hsub
        have q1 : (b : Int) ≤ (k : Int) := by omega
        have q2 : (k : Int) ≤ (c : Int) := by omega
        have q3 : ((k : Int) - (b : Int)).toNat = k - b := by omega
        clear hrr hbel hb v1 v2 v3 h3 h6 h7 f2 f3 f4 hcnt emax hsub
        go_wp2_with fail
        refine HC.out.mono ?_
        rintro e w' ⟨rfl, rfl⟩
        go_wp2_with (at_builtin; refine wpList_app _ rfl _ _ 22 rfl w.heap.size 24 i0 (.slice none 0 0) 1 24 Try.underlying22 hi hz0 hz1 hz2 rfl (by decide) u3 acc.length ds rfl (HO.out.alloc _) (.slice (some ⟨wr.heap.size, 0, none⟩) 1 1) 1 [.slice (some ⟨ab, ao + b, none⟩) (k - b) (c - b)] rfl (rd_one wr _ _) (by simp [Value.oneCell']) (by unfold maxLen; omega) (by omega) (by simp; omega) ?_)
        intro v' w1 g1 g2 _
        have hN : LnRel w l (k + 2) (k + 1) v' w1 := by
          refine ⟨f1, by omega, fun _ => HF.out, (HB.out.alloc HB.out.size _).grown g2 (by simp; omega) (fun i hi' => (HO.out.lt i hi').1), _, VRow.one HV.out.1 HV.out.2 HSub.out g1, ?_⟩
          have e1 : k + 1 - (k + 2) = 0 := by omega
          have e2 : max (k + 1) (k + 2) = k + 2 := by omega
          rw [e1, e2]
          exact HL.out
        have HN := Lib.hid hN
        clear g1 g2 hN
        go_wp2
        go_roundw
        case rel => exact ⟨k + 2, k + 1, by omega, by go_num, by go_num, HN.out⟩
        case measure => simp [intOf]; omega
    · have hke : k = l.length := by omega
      subst hke
      obtain ⟨_, _, _, _, acc, ⟨ds, v1, v2, v3⟩, h6⟩ := hrel
      have emax : max l.length b = l.length := by omega
      have ecur : (l.drop b).take (l.length - b) = l.drop b := List.take_of_length_le (by simp)
      rw [emax, List.drop_length, ecur, Qp.linesGo] at h6
      have hal : acc.length + 1 ≤ 1073741826 := by
        have := congrArg List.length h6
        simp at this
        omega
      have HO := Lib.hid v2
      have HV := Lib.hid (And.intro v1 v3)
      have HB := Lib.hid hbel
      have HL := Lib.hid h6
      clear hrr hbel v1 v2 v3 h6 hcnt emax ecur
      by_cases hlast : b < l.length
      · obtain ⟨ab, ao, rfl, _, _⟩ := HR.out.byte hlast
        have hsub := rd_sub HR.out b (l.length - b) (c' := c - b) (by omega) (by omega)
        rw [List.take_of_length_le (by simp)] at hsub
        have HSub := Lib.hid hsub
        clear hsub
        go_wp2_with (at_builtin; refine wpList_app _ rfl _ _ 22 rfl w.heap.size 24 i0 (.slice none 0 0) 1 24 Try.underlying22 hi hz0 hz1 hz2 rfl (by decide) u3 acc.length ds rfl (HO.out.alloc _) (.slice (some ⟨wr.heap.size, 0, none⟩) 1 1) 1 [.slice (some ⟨ab, ao + b, none⟩) (l.length - b) (c - b)] rfl (rd_one wr _ _) (by simp [Value.oneCell']) (by unfold maxLen; omega) (by omega) (by simp; omega) ?_)
        intro v' w1 g1 g2 _
        have HN := Lib.hid (LnRel.done HB.out HO.out HV.out HL.out HSub.out g1 g2)
        clear g1 g2
        go_wp2
        go_ret
        exact HN.out
      · have hbe : b = l.length := by omega
        subst hbe
        rw [List.drop_length] at HL
        cases A with
        | none =>
          have hc0 : c = 0 := by
            rcases HR.out.2 with ⟨h, _⟩ | ⟨_, _, h, _⟩
            · injection h
            · cases h
          subst hc0
          go_wp2_with (at_builtin; refine wpList_app _ rfl _ _ 22 rfl w.heap.size 24 i0 (.slice none 0 0) 1 24 Try.underlying22 hi hz0 hz1 hz2 rfl (by decide) u3 acc.length ds rfl (HO.out.alloc _) (.slice (some ⟨wr.heap.size, 0, none⟩) 1 1) 1 [.slice none 0 0] rfl (rd_one wr _ _) (by simp [Value.oneCell']) (by unfold maxLen; omega) (by omega) (by simp; omega) ?_)
          intro v' w1 g1 g2 _
          have HN := Lib.hid (LnRel.done (q := []) HB.out HO.out HV.out HL.out (rd_nil w) g1 g2)
          clear g1 g2
          go_wp2
          go_ret
          exact HN.out
        | some ad =>
          by_cases hcb : c = l.length
          · go_wp2_with (at_builtin; refine wpList_app _ rfl _ _ 22 rfl w.heap.size 24 i0 (.slice none 0 0) 1 24 Try.underlying22 hi hz0 hz1 hz2 rfl (by decide) u3 acc.length ds rfl (HO.out.alloc _) (.slice (some ⟨wr.heap.size, 0, none⟩) 1 1) 1 _ rfl (rd_one wr _ _) (by simp [Value.oneCell']) (by unfold maxLen; omega) (by omega) (by simp; omega) ?_)
            intro v' w1 g1 g2 _
            have HN := Lib.hid (LnRel.done (q := []) HB.out HO.out HV.out HL.out ⟨rfl, .inr ⟨_, _, rfl, Nat.zero_le _, fun h => absurd h (by decide)⟩⟩ g1 g2)
            clear g1 g2
            go_wp2
            go_ret
            exact HN.out
          · go_wp2_with (at_builtin; refine wpList_app _ rfl _ _ 22 rfl w.heap.size 24 i0 (.slice none 0 0) 1 24 Try.underlying22 hi hz0 hz1 hz2 rfl (by decide) u3 acc.length ds rfl (HO.out.alloc _) (.slice (some ⟨wr.heap.size, 0, none⟩) 1 1) 1 _ rfl (rd_one wr _ _) (by simp [Value.oneCell']) (by unfold maxLen; omega) (by omega) (by simp; omega) ?_)
            intro v' w1 g1 g2 _
            have HN := Lib.hid (LnRel.done (q := []) HB.out HO.out HV.out HL.out ⟨rfl, .inr ⟨_, _, rfl, Nat.zero_le _, fun h => absurd h (by decide)⟩⟩ g1 g2)
            clear g1 g2
            go_wp2
            go_ret
            exact HN.out
end Go.Proofs.Ytgdfbnedmifjlaa
