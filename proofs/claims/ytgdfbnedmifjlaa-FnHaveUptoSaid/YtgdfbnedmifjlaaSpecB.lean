/- Paired, Fed, fixed, Whole. -/
import Derived.Test.YtgdfbnedmifjlaaSpecA
namespace Go.Proofs.Ytgdfbnedmifjlaa
open Go.RowKit

theorem Break_yes (w : World) (v : Value) (l : List UInt8) (k : Nat) (z : Int) (hz : z = (k : Int)) (hr : Rd w 1 v l.length (l.map bv)) (hl : l.length ≤ 1099511627776) (hk : k ≤ 1099511627776) (h : Qp.brk (l.drop k) = true) :
    Calls Try.prog 54 #[v, .int .i64 z] w fun e w' => e = .returned (.bool true) ∧ w = w' := by
  have := Break_calls w v l k z hz hr hl hk; rwa [h] at this
theorem Break_no (w : World) (v : Value) (l : List UInt8) (k : Nat) (z : Int) (hz : z = (k : Int)) (hr : Rd w 1 v l.length (l.map bv)) (hl : l.length ≤ 1099511627776) (hk : k ≤ 1099511627776) (h : Qp.brk (l.drop k) = false) :
    Calls Try.prog 54 #[v, .int .i64 z] w fun e w' => e = .returned (.bool false) ∧ w = w' := by
  have := Break_calls w v l k z hz hr hl hk; rwa [h] at this

theorem Parts.keep {w w' : World} {v : Value} {ps : List (List UInt8)} (h : Parts w v ps) (hb : Below w.heap.size w w') : Parts w' v ps := by
  obtain ⟨ds, h1, h2, h3⟩ := h
  exact ⟨ds, h1, h2.keep hb, fun i d p g1 g2 => (h3 i d p g1 g2).keep hb⟩

/-! Paired. -/
def PairRel (l : List UInt8) (k : Nat) : Prop := Qp.paired l = Qp.paired (l.drop k)
theorem Paired_calls (w : World) (v : Value) (l : List UInt8) (hr : Rd w 1 v l.length (l.map bv)) (hl : l.length ≤ 1099511627776) :
    Calls Try.prog 42 #[v] w fun e w' => e = .returned (.bool (Qp.paired l)) ∧ w = w' := by
  obtain ⟨A, c, rfl, _⟩ := hr.shape
  have HR := Lib.hid hr
  clear hr
  go_enter Try.func42, Try.ntmps42
  go_wp2_with fail
  go_loop [7] (fun i => ∃ k : Nat, k ≤ l.length ∧ i = .int .i64 k ∧ PairRel l k) (fun i => l.length - (intOf i).toNat)
  case atStart => exact ⟨0, Nat.zero_le _, rfl, rfl⟩
  case round =>
    obtain ⟨k, hk, rfl, hu⟩ := hrel
    by_cases hkl : k < l.length
    · obtain ⟨ab, ao, rfl, _, hcell⟩ := HR.out.byte hkl
      have c1 := hcell k hkl
      have e : Qp.paired l = (!(l[k] == 13 && !Qp.brk (l.drop k)) && Qp.paired (l.drop (k + 1))) := by
        rw [show Qp.paired l = Qp.paired (l.drop k) from hu, List.drop_eq_getElem_cons hkl]; rfl
      obtain ⟨t1, t2⟩ := u8_tests l[k]
      generalize l[k] = x at *
      rw [← t2] at e
      have HE := Lib.hid e
      clear hcell e t1 t2 hu
      by_cases g1 : ((x.toNat : Int) == 13) = true
      · cases hbk : Qp.brk (l.drop k) with
        | true =>
          have HC := Lib.hid (Break_yes w _ l k (k : Int) rfl HR.out hl (by omega) hbk)
          have HBK := Lib.hid hbk
          clear hbk
          go_wp2_with fail
          refine HC.out.mono ?_
          rintro e w' ⟨rfl, rfl⟩
          go_wp2_with fail
          go_round
          case rel => exact ⟨k + 1, by omega, by go_num, by unfold PairRel; rw [HE.out, HBK.out]; simp⟩
          case measure => simp [intOf]; omega
        | false =>
          have HC := Lib.hid (Break_no w _ l k (k : Int) rfl HR.out hl (by omega) hbk)
          have HBK := Lib.hid hbk
          clear hbk
          go_wp2_with fail
          refine HC.out.mono ?_
          rintro e w' ⟨rfl, rfl⟩
          go_wp2
          go_ret
          exact ⟨by rw [HE.out, HBK.out, g1]; rfl, rfl⟩
      · have g1' : ((x.toNat : Int) == 13) = false := by simpa using g1
        clear g1
        go_wp2_with fail
        go_round
        case rel => exact ⟨k + 1, by omega, by go_num, by unfold PairRel; rw [HE.out, g1']; rfl⟩
        case measure => simp [intOf]; omega
    · have hke : k = l.length := by omega
      have e : Qp.paired l = true := by rw [show Qp.paired l = Qp.paired (l.drop k) from hu, hke, List.drop_length]; rfl
      have HE := Lib.hid e
      clear hu e hke
      go_wp2
      go_ret
      exact ⟨by rw [HE.out]; rfl, rfl⟩

/-! Fed. -/
/-- Is a CR before the place? -/
def pcr (l : List UInt8) (k : Nat) : Bool := match k with | 0 => false | k + 1 => (l[k]?.getD 0) == 13
def FedRel (l : List UInt8) (k : Nat) : Prop := Qp.fed l = Qp.fedGo (pcr l k) (l.drop k)
theorem pcr_succ (l : List UInt8) (k : Nat) (h : k < l.length) : pcr l (k + 1) = (l[k] == 13) := by simp [pcr, h]
theorem Fed_calls (w : World) (v : Value) (l : List UInt8) (hr : Rd w 1 v l.length (l.map bv)) (hl : l.length ≤ 1099511627776) :
    Calls Try.prog 47 #[v] w fun e w' => e = .returned (.bool (Qp.fed l)) ∧ w = w' := by
  obtain ⟨A, c, rfl, _⟩ := hr.shape
  have HR := Lib.hid hr
  clear hr
  go_enter Try.func47, Try.ntmps47
  go_wp2_with fail
  go_loop [7] (fun i => ∃ k : Nat, k ≤ l.length ∧ i = .int .i64 k ∧ FedRel l k) (fun i => l.length - (intOf i).toNat)
  case atStart => exact ⟨0, Nat.zero_le _, rfl, rfl⟩
  case round =>
    obtain ⟨k, hk, rfl, hu⟩ := hrel
    by_cases hkl : k < l.length
    · obtain ⟨ab, ao, rfl, _, hcell⟩ := HR.out.byte hkl
      have c1 := hcell k hkl
      have e : Qp.fed l = (!(l[k] == 10 && !pcr l k) && Qp.fedGo (pcr l (k + 1)) (l.drop (k + 1))) := by
        rw [show Qp.fed l = Qp.fedGo (pcr l k) (l.drop k) from hu, List.drop_eq_getElem_cons hkl, pcr_succ l k hkl]; rfl
      obtain ⟨t1, t2⟩ := u8_tests l[k]
      have hcell2 : 0 < k → ∃ y : UInt8, w.cell? ⟨ab, ao + (k - 1), none⟩ = some (.int .u8 (y.toNat : Int)) ∧ pcr l k = (y == 13) := by
        intro h0
        refine ⟨l[k - 1]'(by omega), hcell (k - 1) (by omega), ?_⟩
        have := pcr_succ l (k - 1) (by omega)
        have e : k - 1 + 1 = k := by omega
        rwa [e] at this
      have hp0 : k ≤ 0 → pcr l k = false := fun h => by
        have : k = 0 := by omega
        rw [this]; rfl
      generalize l[k] = x at *
      rw [← t1] at e
      have HE := Lib.hid e
      clear hcell e t1 t2 hu
      by_cases g1 : ((x.toNat : Int) == 10) = true
      · rcases Nat.lt_or_ge 0 k with hk0 | hk0
        · obtain ⟨y, hy, hp⟩ := hcell2 hk0
          obtain ⟨_, t4⟩ := u8_tests y
          rw [← t4] at hp
          have HP := Lib.hid hp
          have h0 : ((k : Int) == 0) = false := by simp; omega
          clear hcell2 hp t4 hp0
          by_cases g2 : ((y.toNat : Int) == 13) = true
          · have g3 : ((y.toNat : Int) != 13) = false := by simp only [bne, g2]; rfl
            go_wp2_with fail
            go_round
            case rel => exact ⟨k + 1, by omega, by go_num, by unfold FedRel; rw [HE.out, HP.out, g2]; simp⟩
            case measure => simp [intOf]; omega
          · have g2' : ((y.toNat : Int) == 13) = false := by simpa using g2
            have g3 : ((y.toNat : Int) != 13) = true := by simp only [bne, g2']; rfl
            clear g2
            go_wp2
            go_ret
            exact ⟨by rw [HE.out, HP.out, g1, g2']; rfl, rfl⟩
        · have HP := Lib.hid (hp0 hk0)
          have h0 : ((k : Int) == 0) = true := by
            have : (k : Int) = 0 := by omega
            rw [this]; rfl
          clear hcell2 hp0
          go_wp2
          go_ret
          exact ⟨by rw [HE.out, HP.out, g1]; rfl, rfl⟩
      · have g1' : ((x.toNat : Int) == 10) = false := by simpa using g1
        clear g1 hcell2 hp0
        go_wp2_with fail
        go_round
        case rel => exact ⟨k + 1, by omega, by go_num, by unfold FedRel; rw [HE.out, g1']; rfl⟩
        case measure => simp [intOf]; omega
    · have hke : k = l.length := by omega
      have e : Qp.fed l = true := by rw [show Qp.fed l = Qp.fedGo (pcr l k) (l.drop k) from hu, hke, List.drop_length]; rfl
      have HE := Lib.hid e
      clear hu e hke
      go_wp2
      go_ret
      exact ⟨by rw [HE.out]; rfl, rfl⟩

/-! fixed. -/
theorem fixed_calls (w : World) (bin : Bool) (v : Value) (l : List UInt8) (hr : Rd w 1 v l.length (l.map bv)) (hl : l.length ≤ 1099511627776) :
    Calls Try.prog 35 #[.bool bin, v] w fun e w' => e = .returned (.bool (bin || Qp.paired l)) ∧ w = w' := by
  have HC := Lib.hid (Paired_calls w v l hr hl)
  clear hr
  cases bin with
  | true =>
    go_enter Try.func35, Try.ntmps35
    go_wp2
    go_ret
    exact ⟨rfl, rfl⟩
  | false =>
    generalize Qp.paired l = r at *
    go_enter Try.func35, Try.ntmps35
    go_wp2_with fail
    refine HC.out.mono ?_
    rintro e w' ⟨rfl, rfl⟩
    go_wp2
    go_ret
    exact ⟨rfl, rfl⟩

/-! Whole. -/
def WhRel (w : World) (ps : List (List UInt8)) (k : Nat) (v : Value) (wr : World) : Prop :=
  wr.ownsRow w.heap.size 5 1 v (ps.take k).flatten.length ((ps.take k).flatten.map bv) ∧ Below w.heap.size w wr
theorem WhRel.next {w wr w2 : World} {ps : List (List UInt8)} {k : Nat} {v v' : Value} {p : List UInt8} (h : WhRel w ps k v wr) (hp : ps[k]? = some p)
    (ho : w2.ownsRow w.heap.size 5 1 v' ((ps.take k).flatten.length + p.length) ((ps.take k).flatten.map bv ++ p.map bv)) (hg : wr.grownBy w2 v.ownBlock) : WhRel w ps (k + 1) v' w2 := by
  refine ⟨?_, h.2.grown hg h.2.size (fun i hi => (h.1.lt i hi).1)⟩
  rw [List.take_add_one, hp]
  simpa using ho
theorem flat_take (ps : List (List UInt8)) : ∀ k, (ps.take k).flatten.length ≤ ptot ps := by
  induction ps with
  | nil => intro k; simp [ptot]
  | cons p ps ih =>
    intro k
    cases k with
    | zero => simp
    | succ k => have := ih k; simp only [List.take_succ_cons, List.flatten_cons, List.length_append, ptot]; omega
theorem len_ptot (ps : List (List UInt8)) : ∀ (k : Nat) (p : List UInt8), ps[k]? = some p → p.length ≤ ptot ps := by
  induction ps with
  | nil => intro k p h; simp at h
  | cons q ps ih =>
    intro k p h
    cases k with
    | zero => simp at h; subst h; simp only [ptot]; omega
    | succ k => have := ih k p (by simpa using h); simp only [ptot]; omega
set_option maxHeartbeats 1000000 in
theorem Whole_calls (w : World) (pv : Value) (ps : List (List UInt8)) (hp : Parts w pv ps) (ht : ptot ps ≤ 8388608) : Calls Try.prog 34 #[pv] w (NewBytes w ps.flatten) := by
  obtain ⟨i0, hi, hz0, hz1, hz2⟩ := info_parts info5
  obtain ⟨ds, hds, hrd, hdat⟩ := hp
  obtain ⟨A, c, rfl, hc⟩ := hrd.shape
  have hpl := ptot_len ps
  have HD := Lib.hid hdat
  have HR := Lib.hid hrd
  have HDS := Lib.hid hds
  have hst : WhRel w ps 0 (.slice (some ⟨w.heap.size, 0, none⟩) 0 0) (w.alloc (.cells #[] 5)) := ⟨own_empty w 5 1, (Below.refl _ _).alloc (Nat.le_refl _) _⟩
  have HST := Lib.hid hst
  clear hdat hrd hds hst
  go_enter Try.func34, Try.ntmps34
  go_wp2_with fail
  go_loopw [3, 9] (fun v i wr => ∃ k : Nat, k ≤ ps.length ∧ i = .int .i64 k ∧ WhRel w ps k v wr) (fun _ i _ => ps.length - (intOf i).toNat)
  case atStart => exact ⟨0, Nat.zero_le _, rfl, HST.out⟩
  case round =>
    obtain ⟨k, hk, rfl, hrel⟩ := hrel
    clear HST
    by_cases hkl : k < ps.length
    · obtain ⟨ab, ao, rfl, hab, hcell⟩ := (HR.out.keep hrel.2).get hkl
      obtain ⟨p, hp⟩ : ∃ p, ps[k]? = some p := ⟨ps[k], by simp [hkl]⟩
      obtain ⟨d, hd⟩ : ∃ d, ds[k]? = some d := ⟨ds[k]'(by rw [HDS.out]; exact hkl), by rw [List.getElem?_eq_getElem]⟩
      have c1 := hcell k d hd
      have hdr := (HD.out k d p hd hp).keep hrel.2
      have hf1 := flat_take ps k
      have hf2 := len_ptot ps k p hp
      obtain ⟨dA, dc, rfl, _⟩ := hdr.shape
      have hsz := hrel.2.size
      have H1 := Lib.hid hrel
      have HP := Lib.hid hp
      have HDR := Lib.hid hdr
      clear hrel hcell hp hd hdr
      generalize hfl : (ps.take k).flatten = fl at *
      go_wp2_with (at_builtin; refine wpList_app _ rfl _ _ 24 rfl w.heap.size 5 i0 (.int .u8 0) 1 1 Try.underlying24 hi hz0 hz1 hz2 rfl (by decide) u3 fl.length (fl.map bv) rfl (by rw [← hfl]; exact H1.out.1) (.slice dA p.length dc) p.length (p.map bv) rfl HDR.out (bvs_one p) (by unfold maxLen; omega) (by omega) hsz ?_)
      intro v' w1 g1 g2 _
      rw [← hfl] at g1
      have HRR := Lib.hid (WhRel.next H1.out HP.out g1 g2)
      clear g1 g2 hfl
      go_wp2
      go_roundw
      case rel => exact ⟨k + 1, by omega, by go_num, HRR.out⟩
      case measure => simp [intOf]; omega
    · have hke : k = ps.length := by omega
      subst hke
      have hN : NewBytes w ps.flatten (.returned u3) wr := NewRow.bytes ⟨u3, rfl, by have := hrel.1; rwa [List.take_length] at this, hrel.2⟩
      have HN := Lib.hid hN
      clear hrel hN
      go_wp2
      go_ret
      exact HN.out
end Go.Proofs.Ytgdfbnedmifjlaa
