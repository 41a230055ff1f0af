/- Canonical, Unfolded, Lines of the reference. -/
import Derived.Test.YtgdfbnedmifjlaaDecode
import Derived.Test.YtgdfbnedmifjlaaPlainC
namespace Go.Proofs.Ytgdfbnedmifjlaa
open Go.RowKit

theorem canonGo_len (l : List UInt8) : ∀ p, (Qp.canonGo p l).length ≤ 2 * l.length := by
  induction l with
  | nil => intro p; simp [Qp.canonGo]
  | cons b bs ih =>
    intro p
    rw [Qp.canonGo]
    have := ih (b == 13)
    split <;> simp <;> omega
theorem unfolded_len (n : Nat) : ∀ l : List UInt8, l.length ≤ n → (Qp.unfolded l).length ≤ l.length := by
  induction n with
  | zero =>
    intro l h
    have : l = [] := List.eq_nil_of_length_eq_zero (by omega)
    subst this; simp [Qp.unfolded]
  | succ n ih =>
    intro l h
    cases l with
    | nil => simp [Qp.unfolded]
    | cons a r =>
      by_cases hs : (a == 61 && Qp.brk r) = true
      · match r, hs with
        | b :: c :: r', hs =>
          have hs' : (a == 61 && (b == 13 && c == 10)) = true := hs
          rw [Qp.unfolded.eq_def]
          simp only [hs', if_true]
          have := ih r' (by simp at h; omega)
          simp; omega
        | [], hs => simp [Qp.brk] at hs
        | [_], hs => simp [Qp.brk] at hs
      · rw [Qp.unfolded_cons a r (by simpa using hs)]
        have := ih r (by simp at h; omega)
        simp; omega

/-- A row of bytes that grows towards a goal. -/
def GRel (w : World) (goal : List UInt8) (tail : List UInt8) (v : Value) (wr : World) : Prop :=
  ∃ out, wr.ownsRow w.heap.size 5 1 v out.length (out.map bv) ∧ Below w.heap.size w wr ∧ goal = out ++ tail
theorem GRel.more {w wr w2 : World} {goal out tail : List UInt8} {v v' : Value} {o : Obj} (x : List UInt8) (ho : wr.ownsRow w.heap.size 5 1 v out.length (out.map bv)) (hb : Below w.heap.size w wr) (hd : goal = out ++ (x ++ tail))
    (ho2 : w2.ownsRow w.heap.size 5 1 v' (out.length + x.length) (out.map bv ++ x.map bv)) (hg : (wr.alloc o).grownBy w2 v.ownBlock) : GRel w goal tail v' w2 :=
  ⟨out ++ x, by simpa using ho2, (hb.alloc hb.size o).grown hg (by simp; have := hb.size; omega) (fun i hi => (ho.lt i hi).1), by rw [hd]; simp⟩
theorem GRel.start (w : World) (goal : List UInt8) : GRel w goal goal (.slice (some ⟨w.heap.size, 0, none⟩) 0 0) (w.alloc (.cells #[] 5)) :=
  ⟨[], own_empty w 5 1, (Below.refl _ _).alloc (Nat.le_refl _) _, rfl⟩
theorem GRel.bytes {w wr : World} {goal : List UInt8} {v : Value} (h : GRel w goal [] v wr) : NewBytes w goal (.returned v) wr := by
  obtain ⟨out, h1, h2, h3⟩ := h
  rw [List.append_nil] at h3
  subst h3
  exact NewRow.bytes ⟨v, rfl, h1, h2⟩

/-! Canonical. -/
theorem canon_at (l : List UInt8) (k : Nat) (hk : k < l.length) : Qp.canonGo (pcr l k) (l.drop k) = (if l[k] == 10 && !pcr l k then [13, l[k]] else [l[k]]) ++ Qp.canonGo (pcr l (k + 1)) (l.drop (k + 1)) := by
  rw [List.drop_eq_getElem_cons hk, pcr_succ l k hk, Qp.canonGo]
  split <;> rfl
set_option maxHeartbeats 6000000 in
theorem Canonical_calls (w : World) (v : Value) (l : List UInt8) (hr : Rd w 1 v l.length (l.map bv)) (hl : l.length ≤ 1073741824) :
    Calls Try.prog 44 #[v] w (NewBytes w (Qp.canonical l)) := by
  obtain ⟨i0, hi, hz0, hz1, hz2⟩ := info_parts info5
  obtain ⟨A, c, rfl, _⟩ := hr.shape
  have hcl := canonGo_len l false
  have HR := Lib.hid hr
  have HST := Lib.hid (GRel.start w (Qp.canonical l))
  clear hr
  go_enter Try.func44, Try.ntmps44
  go_wp2_with fail
  go_loopw [3, 9] (fun v i wr => ∃ k : Nat, k ≤ l.length ∧ i = .int .i64 k ∧ GRel w (Qp.canonical l) (Qp.canonGo (pcr l k) (l.drop k)) v wr) (fun _ i _ => l.length - (intOf i).toNat)
  case atStart => exact ⟨0, Nat.zero_le _, rfl, HST.out⟩
  case round =>
    obtain ⟨k, hk, rfl, out, hown, hbel, hgo⟩ := hrel
    clear HST
    have hout : out.length + 2 ≤ 2147483650 := by
      have e := congrArg List.length hgo
      simp only [List.length_append] at e
      have : (Qp.canonical l).length ≤ 2 * l.length := hcl
      omega
    have hsz := hbel.size
    by_cases hkl : k < l.length
    · have hrr := HR.out.keep hbel
      obtain ⟨ab, ao, rfl, _, hcell⟩ := hrr.byte hkl
      have c1 := hcell k hkl
      rw [canon_at l k hkl] at hgo
      obtain ⟨t1, t2⟩ := u8_tests l[k]
      have hcell2 : 0 < k → ∃ y : UInt8, wr.cell? ⟨ab, ao + (k - 1), none⟩ = some (.int .u8 (y.toNat : Int)) ∧ pcr l k = (y == 13) := by
        intro h0
        refine ⟨l[k - 1]'(by omega), hcell (k - 1) (by omega), ?_⟩
        have := pcr_succ l (k - 1) (by omega)
        have e : k - 1 + 1 = k := by omega
        rwa [e] at this
      have hp0 : k ≤ 0 → pcr l k = false := fun h => by
        have : k = 0 := by omega
        rw [this]; rfl
      generalize l[k] = x at *
      rw [← t1] at hgo
      have HO := Lib.hid hown
      have HB := Lib.hid hbel
      have HG := Lib.hid hgo
      clear hown hbel hgo hcell hrr t1 t2 hcl
      by_cases g1 : ((x.toNat : Int) == 10) = true
      · cases hpc : pcr l k with
        | true =>
          have hk0 : 0 < k := by
            rcases Nat.lt_or_ge 0 k with h | h
            · exact h
            · rw [hp0 h] at hpc; cases hpc
          obtain ⟨y, hy, hp⟩ := hcell2 hk0
          obtain ⟨_, t4⟩ := u8_tests y
          have g2 : ((y.toNat : Int) == 13) = true := by rw [t4, ← hp]; exact hpc
          have g3 : ((y.toNat : Int) != 13) = false := by simp only [bne, g2]; rfl
          have h0 : ((k : Int) == 0) = false := by simp; omega
          rw [g1, hpc] at HG
          clear hcell2 hp t4 hp0 hpc
          go_wp2_with (at_builtin; refine wpList_app _ rfl _ _ 24 rfl w.heap.size 5 i0 (.int .u8 0) 1 1 Try.underlying24 hi hz0 hz1 hz2 rfl (by decide) u3 out.length (out.map bv) rfl (HO.out.alloc _) (.slice (some ⟨wr.heap.size, 0, none⟩) 1 1) 1 [bv x] rfl (rd_row wr [x] _ rfl) (bvs_one [x]) (by unfold maxLen; omega) (by omega) (by simp; omega) ?_)
          intro v' w1 q1 q2 _
          have HN := Lib.hid (GRel.more [x] HO.out HB.out HG.out q1 q2)
          clear q1 q2
          go_wp2
          go_roundw
          case rel => exact ⟨k + 1, by omega, by go_num, HN.out⟩
          case measure => simp [intOf]; omega
        | false =>
          rw [g1, hpc] at HG
          have hboth : ∀ (K : Prop), (((k : Int) == 0) = true → K) → (((k : Int) == 0) = false → (∃ y : UInt8, wr.cell? ⟨ab, ao + (k - 1), none⟩ = some (.int .u8 (y.toNat : Int)) ∧ 0 < k ∧ ((y.toNat : Int) != 13) = true) → K) → K := by
            intro K h1 h2
            rcases Nat.lt_or_ge 0 k with h | h
            · obtain ⟨y, hy, hp⟩ := hcell2 h
              obtain ⟨_, t4⟩ := u8_tests y
              exact h2 (by simp; omega) ⟨y, hy, h, by simp only [bne, t4, ← hp, hpc]; rfl⟩
            · exact h1 (by have : (k : Int) = 0 := by omega
                           rw [this]; rfl)
          clear hcell2 hp0 hpc
          refine hboth _ (fun h0 => ?_) (fun h0 hy => ?_)
          · clear hboth
            go_wp2_with (at_builtin; refine wpList_app _ rfl (.tmp 28) (.tmp 29) 24 rfl w.heap.size 5 i0 (.int .u8 0) 1 1 Try.underlying24 hi hz0 hz1 hz2 rfl (by decide) u3 out.length (out.map bv) rfl (HO.out.alloc _) (.slice (some ⟨wr.heap.size, 0, none⟩) 1 1) 1 [bv 13] rfl (rd_row wr [13] _ rfl) (bvs_one [13]) (by unfold maxLen; omega) (by omega) (by simp; omega) ?_)
            intro v' w1 q1 q2 _
            have HN := Lib.hid (GRel.more (tail := [x] ++ Qp.canonGo (pcr l (k + 1)) (l.drop (k + 1))) [13] HO.out HB.out HG.out q1 q2)
            clear q1 q2
            obtain ⟨out2, r1, r2, r3⟩ := HN.out
            have ho2 : out2.length + 1 ≤ 2147483650 := by
              have e := congrArg List.length r3
              simp only [List.length_append, List.length_singleton] at e
              have : (Qp.canonical l).length ≤ 2 * l.length := canonGo_len l false
              omega
            have hsz2 := r2.size
            have R1 := Lib.hid r1
            have R2 := Lib.hid r2
            have R3 := Lib.hid r3
            clear r1 r2 r3
            go_wp2_with (at_builtin; refine wpList_app _ rfl (.tmp 31) (.tmp 33) 24 rfl w.heap.size 5 i0 (.int .u8 0) 1 1 Try.underlying24 hi hz0 hz1 hz2 rfl (by decide) v' out2.length (out2.map bv) rfl (R1.out.alloc _) (.slice (some ⟨w1.heap.size, 0, none⟩) 1 1) 1 [bv x] rfl (rd_row w1 [x] _ rfl) (bvs_one [x]) (by unfold maxLen; omega) (by omega) (by simp; omega) ?_)
            intro v2 w2 q1 q2 _
            have HN2 := Lib.hid (GRel.more [x] R1.out R2.out R3.out q1 q2)
            clear q1 q2
            go_wp2
            go_roundw
            case rel => exact ⟨k + 1, by omega, by go_num, HN2.out⟩
            case measure => simp [intOf]; omega
          · obtain ⟨y, hy, hk0, g3⟩ := hy
            clear hboth
            go_wp2_with (at_builtin; refine wpList_app _ rfl (.tmp 28) (.tmp 29) 24 rfl w.heap.size 5 i0 (.int .u8 0) 1 1 Try.underlying24 hi hz0 hz1 hz2 rfl (by decide) u3 out.length (out.map bv) rfl (HO.out.alloc _) (.slice (some ⟨wr.heap.size, 0, none⟩) 1 1) 1 [bv 13] rfl (rd_row wr [13] _ rfl) (bvs_one [13]) (by unfold maxLen; omega) (by omega) (by simp; omega) ?_)
            intro v' w1 q1 q2 _
            have HN := Lib.hid (GRel.more (tail := [x] ++ Qp.canonGo (pcr l (k + 1)) (l.drop (k + 1))) [13] HO.out HB.out HG.out q1 q2)
            clear q1 q2
            obtain ⟨out2, r1, r2, r3⟩ := HN.out
            have ho2 : out2.length + 1 ≤ 2147483650 := by
              have e := congrArg List.length r3
              simp only [List.length_append, List.length_singleton] at e
              have : (Qp.canonical l).length ≤ 2 * l.length := canonGo_len l false
              omega
            have hsz2 := r2.size
            have R1 := Lib.hid r1
            have R2 := Lib.hid r2
            have R3 := Lib.hid r3
            clear r1 r2 r3
            go_wp2_with (at_builtin; refine wpList_app _ rfl (.tmp 31) (.tmp 33) 24 rfl w.heap.size 5 i0 (.int .u8 0) 1 1 Try.underlying24 hi hz0 hz1 hz2 rfl (by decide) v' out2.length (out2.map bv) rfl (R1.out.alloc _) (.slice (some ⟨w1.heap.size, 0, none⟩) 1 1) 1 [bv x] rfl (rd_row w1 [x] _ rfl) (bvs_one [x]) (by unfold maxLen; omega) (by omega) (by simp; omega) ?_)
            intro v2 w2 q1 q2 _
            have HN2 := Lib.hid (GRel.more [x] R1.out R2.out R3.out q1 q2)
            clear q1 q2
            go_wp2
            go_roundw
            case rel => exact ⟨k + 1, by omega, by go_num, HN2.out⟩
            case measure => simp [intOf]; omega
      · have g1' : ((x.toNat : Int) == 10) = false := by simpa using g1
        rw [g1'] at HG
        clear g1 hcell2 hp0
        go_wp2_with (at_builtin; refine wpList_app _ rfl _ _ 24 rfl w.heap.size 5 i0 (.int .u8 0) 1 1 Try.underlying24 hi hz0 hz1 hz2 rfl (by decide) u3 out.length (out.map bv) rfl (HO.out.alloc _) (.slice (some ⟨wr.heap.size, 0, none⟩) 1 1) 1 [bv x] rfl (rd_row wr [x] _ rfl) (bvs_one [x]) (by unfold maxLen; omega) (by omega) (by simp; omega) ?_)
        intro v' w1 q1 q2 _
        have HN := Lib.hid (GRel.more [x] HO.out HB.out HG.out q1 q2)
        clear q1 q2
        go_wp2
        go_roundw
        case rel => exact ⟨k + 1, by omega, by go_num, HN.out⟩
        case measure => simp [intOf]; omega
    · have hke : k = l.length := by omega
      have hN : NewBytes w (Qp.canonical l) (.returned u3) wr := by
        rw [hke, List.drop_length] at hgo
        exact GRel.bytes ⟨out, hown, hbel, hgo⟩
      have HN := Lib.hid hN
      clear hown hbel hgo hN hke
      go_wp2
      go_ret
      exact HN.out
end Go.Proofs.Ytgdfbnedmifjlaa
