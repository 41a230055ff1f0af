/- Unfolded and Joined of the reference. -/
import Derived.Test.YtgdfbnedmifjlaaLines
namespace Go.Proofs.Ytgdfbnedmifjlaa
open Go.RowKit

theorem GRel.app {w wr w2 : World} {goal out tail : List UInt8} {v v' : Value} (x : List UInt8) (ho : wr.ownsRow w.heap.size 5 1 v out.length (out.map bv)) (hb : Below w.heap.size w wr) (hd : goal = out ++ (x ++ tail))
    (ho2 : w2.ownsRow w.heap.size 5 1 v' (out.length + x.length) (out.map bv ++ x.map bv)) (hg : wr.grownBy w2 v.ownBlock) : GRel w goal tail v' w2 :=
  ⟨out ++ x, by simpa using ho2, hb.grown hg hb.size (fun i hi => (ho.lt i hi).1), by rw [hd]; simp⟩

/-! Joined. -/
def jtail (ps : List (List UInt8)) (k : Nat) : List UInt8 := if k = 0 then Qp.joined ps else Qp.joinGo (ps.drop k)
theorem jtail_zero (ps : List (List UInt8)) (p : List UInt8) (h : ps[0]? = some p) : jtail ps 0 = p ++ jtail ps 1 := by
  cases ps with
  | nil => simp at h
  | cons q ps => simp at h; subst h; simp [jtail, Qp.joined]
theorem jtail_succ (ps : List (List UInt8)) (k : Nat) (p : List UInt8) (hk : 0 < k) (h : ps[k]? = some p) : jtail ps k = [13, 10] ++ (p ++ jtail ps (k + 1)) := by
  obtain ⟨hl, e⟩ := List.getElem?_eq_some_iff.1 h
  have h0 : ¬ k = 0 := by omega
  simp only [jtail, h0, if_false, List.drop_eq_getElem_cons hl, e, Qp.joinGo, Qp.crlf]
  simp
theorem jtail_end (ps : List (List UInt8)) : jtail ps ps.length = [] := by
  cases ps with
  | nil => rfl
  | cons p ps => simp [jtail, Qp.joinGo]
set_option maxHeartbeats 2000000 in
theorem Joined_calls (w : World) (v : Value) (ps : List (List UInt8)) (hp : Parts w v ps) (hl : (Qp.joined ps).length ≤ 1073741824) (hn : ps.length ≤ 1073741824) :
    Calls Try.prog 50 #[v] w (NewBytes w (Qp.joined ps)) := by
  obtain ⟨i0, hi, hz0, hz1, hz2⟩ := info_parts info5
  obtain ⟨A, c, rfl, _⟩ : ∃ A c, v = .slice A ps.length c ∧ ps.length ≤ c := by obtain ⟨_, _, h, _⟩ := hp; exact h.shape
  have HP := Lib.hid hp
  have HST := Lib.hid (GRel.start w (Qp.joined ps))
  clear hp
  go_enter Try.func50, Try.ntmps50
  go_wp2_with fail
  go_loopw [3, 9] (fun v i wr => ∃ k : Nat, k ≤ ps.length ∧ i = .int .i64 k ∧ GRel w (Qp.joined ps) (jtail ps k) v wr) (fun _ i _ => ps.length - (intOf i).toNat)
  case atStart => exact ⟨0, Nat.zero_le _, rfl, HST.out⟩
  case round =>
    obtain ⟨k, hk, rfl, out, hown, hbel, hgo⟩ := hrel
    clear HST
    have hsz := hbel.size
    by_cases hkl : k < ps.length
    · obtain ⟨ab, ao, rfl, hab, hcell⟩ := HP.out.get hkl
      obtain ⟨p, hp⟩ : ∃ p, ps[k]? = some p := ⟨ps[k], List.getElem?_eq_getElem hkl⟩
      obtain ⟨dA, dc, c0, hd⟩ := hcell k p hp
      have c1 := (hbel.cell (p := ⟨ab, ao + k, none⟩) hab).trans c0
      have HO := Lib.hid hown
      have HB := Lib.hid hbel
      have HD := Lib.hid hd
      by_cases hk0 : 0 < k
      · rw [jtail_succ ps k p hk0 hp] at hgo
        have hlen : out.length + (2 + p.length) ≤ 1073741824 := by
          have := congrArg List.length hgo
          simp at this
          omega
        have HG := Lib.hid hgo
        have hk0' : (0 : Int) < (k : Int) := by omega
        clear hown hbel hgo hcell hp hd c0
        go_wp2_with (at_builtin; refine wpList_app _ rfl (.tmp 16) (.tmp 17) 24 rfl w.heap.size 5 i0 (.int .u8 0) 1 1 Try.underlying24 hi hz0 hz1 hz2 rfl (by decide) u3 out.length (out.map bv) rfl (HO.out.alloc _) (.slice (some ⟨wr.heap.size, 0, none⟩) 2 2) 2 [bv 13, bv 10] rfl (rd_row wr [13, 10] _ rfl) (bvs_one [13, 10]) (by unfold maxLen; omega) (by omega) (by simp; omega) ?_)
        intro v' w1 q1 q2 _
        have HN := Lib.hid (GRel.more (tail := p ++ jtail ps (k + 1)) [13, 10] HO.out HB.out HG.out q1 q2)
        clear q1 q2
        obtain ⟨out2, r1, r2, r3⟩ := HN.out
        have ho2 : out2.length + p.length ≤ 1073741824 := by
          have e := congrArg List.length r3
          simp only [List.length_append] at e
          omega
        have hsz2 := r2.size
        have R1 := Lib.hid r1
        have R2 := Lib.hid r2
        have R3 := Lib.hid r3
        clear r1 r2 r3
        go_wp2_with (at_builtin; refine wpList_app _ rfl (.tmp 19) (.tmp 20) 24 rfl w.heap.size 5 i0 (.int .u8 0) 1 1 Try.underlying24 hi hz0 hz1 hz2 rfl (by decide) v' out2.length (out2.map bv) rfl R1.out (.slice dA p.length dc) p.length (p.map bv) rfl (HD.out.keep R2.out) (bvs_one p) (by unfold maxLen; omega) (by omega) (by omega) ?_)
        intro v2 w2 q1 q2 _
        have HN2 := Lib.hid (GRel.app p R1.out R2.out R3.out q1 q2)
        clear q1 q2
        go_wp2
        go_roundw
        case rel => exact ⟨k + 1, by omega, by go_num, HN2.out⟩
        case measure => simp [intOf]; omega
      · have hke : k = 0 := by omega
        subst hke
        rw [Nat.add_zero] at c1
        rw [jtail_zero ps p hp] at hgo
        have hlen : out.length + p.length ≤ 1073741824 := by
          have := congrArg List.length hgo
          simp at this
          omega
        have HG := Lib.hid hgo
        clear hown hbel hgo hcell hp hd c0 hk0
        go_wp2_with (at_builtin; refine wpList_app _ rfl (.tmp 19) (.tmp 20) 24 rfl w.heap.size 5 i0 (.int .u8 0) 1 1 Try.underlying24 hi hz0 hz1 hz2 rfl (by decide) u3 out.length (out.map bv) rfl HO.out (.slice dA p.length dc) p.length (p.map bv) rfl (HD.out.keep HB.out) (bvs_one p) (by unfold maxLen; omega) (by omega) (by omega) ?_)
        intro v2 w2 q1 q2 _
        have HN2 := Lib.hid (GRel.app p HO.out HB.out HG.out q1 q2)
        clear q1 q2
        go_wp2
        go_roundw
        case rel => exact ⟨1, by omega, by go_num, HN2.out⟩
        case measure => simp [intOf]; omega
    · have hke : k = ps.length := by omega
      have hN : NewBytes w (Qp.joined ps) (.returned u3) wr := by
        rw [hke, jtail_end] at hgo
        exact GRel.bytes ⟨out, hown, hbel, hgo⟩
      have HN := Lib.hid hN
      clear hown hbel hgo hN hke
      go_wp2
      go_ret
      exact HN.out

/-! Unfolded. -/
theorem unf_soft {l : List UInt8} {k : Nat} (hk : k < l.length) (h : l[k] = 61) (hb : Qp.brk (l.drop (k + 1)) = true) : Qp.unfolded (l.drop k) = Qp.unfolded (l.drop (k + 3)) ∧ k + 3 ≤ l.length := by
  obtain ⟨f1, f2, _, _⟩ := brk_true hb
  rw [List.drop_eq_getElem_cons hk, h, f2]
  exact ⟨Qp.unfolded_soft _, by omega⟩
theorem unf_on {l : List UInt8} {k : Nat} (hk : k < l.length) (h : (l[k] == 61 && Qp.brk (l.drop (k + 1))) = false) : Qp.unfolded (l.drop k) = [l[k]] ++ Qp.unfolded (l.drop (k + 1)) := by
  rw [List.drop_eq_getElem_cons hk, Qp.unfolded_cons _ _ h]; rfl
set_option maxHeartbeats 2000000 in
theorem Unfolded_calls (w : World) (v : Value) (l : List UInt8) (hr : Rd w 1 v l.length (l.map bv)) (hl : l.length ≤ 1073741824) :
    Calls Try.prog 49 #[v] w (NewBytes w (Qp.unfolded l)) := by
  obtain ⟨i0, hi, hz0, hz1, hz2⟩ := info_parts info5
  obtain ⟨A, c, rfl, _⟩ := hr.shape
  have hul := unfolded_len _ l (Nat.le_refl _)
  have HR := Lib.hid hr
  have HST := Lib.hid (GRel.start w (Qp.unfolded l))
  clear hr
  go_enter Try.func49, Try.ntmps49
  go_wp2_with fail
  go_loopw [3, 4] (fun v i wr => ∃ k : Nat, k ≤ l.length ∧ i = .int .i64 k ∧ GRel w (Qp.unfolded l) (Qp.unfolded (l.drop k)) v wr) (fun _ i _ => l.length - (intOf i).toNat)
  case atStart => exact ⟨0, Nat.zero_le _, rfl, HST.out⟩
  case round =>
    obtain ⟨k, hk, rfl, out, hown, hbel, hgo⟩ := hrel
    clear HST
    have hsz := hbel.size
    by_cases hkl : k < l.length
    · have hrr := HR.out.keep hbel
      obtain ⟨ab, ao, rfl, _, hcell⟩ := hrr.byte hkl
      have c1 := hcell k hkl
      have h61 : ((l[k].toNat : Int) == 61) = (l[k] == 61) := int_eq_u8 _ 61 (by omega)
      have HO := Lib.hid hown
      have HB := Lib.hid hbel
      by_cases hs : (l[k] == 61 && Qp.brk (l.drop (k + 1))) = true
      · obtain ⟨h1, h2⟩ := Bool.and_eq_true_iff.1 hs
        obtain ⟨e1, e2⟩ := unf_soft hkl (by simpa using h1) h2
        rw [h1] at h61
        have HC := Lib.hid (Break_yes wr _ l (k + 1) ((k : Int) + 1) (by omega) hrr (by omega) (by omega) h2)
        have hN : GRel w (Qp.unfolded l) (Qp.unfolded (l.drop (k + 3))) u3 wr := ⟨out, hown, hbel, by rw [← e1]; exact hgo⟩
        have HN := Lib.hid hN
        generalize l[k] = x at *
        clear hown hbel hgo hcell hrr hs h1 h2 e1 hN hul
        go_wp2_with fail
        refine HC.out.mono ?_
        rintro e w' ⟨rfl, rfl⟩
        go_wp2
        go_roundw
        case rel => exact ⟨k + 3, by omega, by go_num, HN.out⟩
        case measure => simp [intOf]; omega
      · have hs' : (l[k] == 61 && Qp.brk (l.drop (k + 1))) = false := by simpa using hs
        rw [unf_on hkl hs'] at hgo
        have hlen : out.length + 1 ≤ 1073741824 := by
          have := congrArg List.length hgo
          simp at this
          omega
        have HC := Lib.hid (Break_calls wr _ l (k + 1) ((k : Int) + 1) (by omega) hrr (by omega) (by omega))
        generalize Qp.brk (l.drop (k + 1)) = br at *
        generalize l[k] = x at *
        have HG := Lib.hid hgo
        clear hown hbel hgo hcell hrr hs hul
        cases hx : x == 61 with
        | true =>
          rw [hx] at h61 hs'
          have hbr : br = false := by simpa using hs'
          subst hbr
          clear hs' hx
          go_wp2_with fail
          refine HC.out.mono ?_
          rintro e w' ⟨rfl, rfl⟩
          go_wp2_with (at_builtin; refine wpList_app _ rfl _ _ 24 rfl w.heap.size 5 i0 (.int .u8 0) 1 1 Try.underlying24 hi hz0 hz1 hz2 rfl (by decide) u3 out.length (out.map bv) rfl (HO.out.alloc _) (.slice (some ⟨wr.heap.size, 0, none⟩) 1 1) 1 [bv x] rfl (rd_row wr [x] _ rfl) (bvs_one [x]) (by unfold maxLen; omega) (by omega) (by simp; omega) ?_)
          intro v' w1 q1 q2 _
          have HN := Lib.hid (GRel.more [x] HO.out HB.out HG.out q1 q2)
          clear q1 q2
          go_wp2
          go_roundw
          case rel => exact ⟨k + 1, by omega, by go_num, HN.out⟩
          case measure => simp [intOf]; omega
        | false =>
          rw [hx] at h61
          clear hs' hx
          go_wp2_with (at_builtin; refine wpList_app _ rfl _ _ 24 rfl w.heap.size 5 i0 (.int .u8 0) 1 1 Try.underlying24 hi hz0 hz1 hz2 rfl (by decide) u3 out.length (out.map bv) rfl (HO.out.alloc _) (.slice (some ⟨wr.heap.size, 0, none⟩) 1 1) 1 [bv x] rfl (rd_row wr [x] _ rfl) (bvs_one [x]) (by unfold maxLen; omega) (by omega) (by simp; omega) ?_)
          intro v' w1 q1 q2 _
          have HN := Lib.hid (GRel.more [x] HO.out HB.out HG.out q1 q2)
          clear q1 q2
          go_wp2
          go_roundw
          case rel => exact ⟨k + 1, by omega, by go_num, HN.out⟩
          case measure => simp [intOf]; omega
    · have hke : k = l.length := by omega
      have hN : NewBytes w (Qp.unfolded l) (.returned u3) wr := by
        rw [hke, List.drop_length] at hgo
        have e0 : Qp.unfolded [] = [] := by rw [Qp.unfolded.eq_def]
        rw [e0] at hgo
        exact GRel.bytes ⟨out, hown, hbel, hgo⟩
      have HN := Lib.hid hN
      clear hown hbel hgo hN hke
      go_wp2
      go_ret
      exact HN.out
end Go.Proofs.Ytgdfbnedmifjlaa
