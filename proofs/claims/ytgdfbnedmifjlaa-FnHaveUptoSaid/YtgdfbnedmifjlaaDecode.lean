/- Decode of the reference, of text that is right. -/
import Derived.Test.YtgdfbnedmifjlaaSpecB
import Derived.Deep.AppendLies
import Derived.Deep.RegionLaw
import Derived.Deep.RegionWith
namespace Go.Proofs.Ytgdfbnedmifjlaa
open Go.RowKit

theorem digit_bounds (x : UInt8) (h : 0 ≤ Qp.digit x) : Qp.digit x ≤ 15 := by
  rcases digit_kinds x with ⟨_, _, h⟩ | ⟨_, _, h⟩ | ⟨_, h⟩ | ⟨_, _, h⟩ | ⟨_, h⟩ <;> omega
theorem bv_u8int (z : Int) (h0 : 0 ≤ z) (h1 : z ≤ 255) : bv (Qp.u8int z) = .int .u8 z := by
  unfold bv Qp.u8int
  have : (UInt8.ofNat z.toNat).toNat = z.toNat := by simp; omega
  rw [this]
  congr 1
  omega

/-- What holds at the head of each round of Decode's loop. -/
def DRel (w : World) (l d : List UInt8) (k : Nat) (v : Value) (wr : World) : Prop :=
  ∃ out r, wr.ownsRow w.heap.size 5 1 v out.length (out.map bv) ∧ Below w.heap.size w wr ∧ Qp.decode (l.drop k) = some r ∧ d = out ++ r
/-- The ways of a round. -/
def DWay (l : List UInt8) (k : Nat) (r : List UInt8) (hk : k < l.length) : Prop :=
  (Qp.lit (l[k]'hk) = true ∧ ∃ r', r = (l[k]'hk) :: r' ∧ Qp.decode (l.drop (k + 1)) = some r') ∨
  (Qp.lit (l[k]'hk) = false ∧ Qp.blank (l[k]'hk) = true ∧ k + 1 < l.length ∧ Qp.brk (l.drop (k + 1)) = false ∧ ∃ r', r = (l[k]'hk) :: r' ∧ Qp.decode (l.drop (k + 1)) = some r') ∨
  (Qp.lit (l[k]'hk) = false ∧ Qp.blank (l[k]'hk) = false ∧ Qp.brk (l.drop k) = true ∧ k + 2 ≤ l.length ∧ ∃ r', r = 13 :: 10 :: r' ∧ Qp.decode (l.drop (k + 2)) = some r') ∨
  (Qp.lit (l[k]'hk) = false ∧ Qp.blank (l[k]'hk) = false ∧ Qp.brk (l.drop k) = false ∧ (l[k]'hk) = 61 ∧ Qp.brk (l.drop (k + 1)) = true ∧ k + 3 ≤ l.length ∧ Qp.decode (l.drop (k + 3)) = some r) ∨
  (Qp.lit (l[k]'hk) = false ∧ Qp.blank (l[k]'hk) = false ∧ Qp.brk (l.drop k) = false ∧ (l[k]'hk) = 61 ∧ Qp.brk (l.drop (k + 1)) = false ∧ ∃ hk2 : k + 2 < l.length,
      0 ≤ Qp.digit (l[k + 1]'(by omega)) ∧ 0 ≤ Qp.digit (l[k + 2]'hk2) ∧ ∃ r', r = Qp.u8int (16 * Qp.digit (l[k + 1]'(by omega)) + Qp.digit (l[k + 2]'hk2)) :: r' ∧ Qp.decode (l.drop (k + 3)) = some r')
theorem way_of (l r : List UInt8) (k : Nat) (hk : k < l.length) (h : Qp.decode (l.drop k) = some r) : DWay l k r hk := by
  have e1 := List.drop_eq_getElem_cons hk
  rw [e1, Qp.decode.eq_def] at h
  simp only at h
  by_cases h1 : Qp.lit l[k] = true
  · rw [if_pos h1] at h
    cases hd : Qp.decode (l.drop (k + 1)) with
    | none => rw [hd] at h; cases h
    | some r' => rw [hd] at h; simp at h; exact .inl ⟨h1, r', h.symm, hd⟩
  · have h1' : Qp.lit l[k] = false := by simpa using h1
    rw [if_neg h1] at h
    by_cases h2 : Qp.blank l[k] = true
    · rw [if_pos h2] at h
      by_cases h3 : ((l.drop (k + 1)).isEmpty || Qp.brk (l.drop (k + 1))) = true
      · rw [if_pos h3] at h; cases h
      · rw [if_neg h3] at h
        have h3' : ((l.drop (k + 1)).isEmpty || Qp.brk (l.drop (k + 1))) = false := by simpa using h3
        obtain ⟨h4, h5⟩ := Bool.or_eq_false_iff.1 h3'
        have h6 : k + 1 < l.length := by
          rcases Nat.lt_or_ge (k + 1) l.length with g | g
          · exact g
          · rw [List.drop_eq_nil_of_le g] at h4; simp at h4
        cases hd : Qp.decode (l.drop (k + 1)) with
        | none => rw [hd] at h; cases h
        | some r' => rw [hd] at h; simp at h; exact .inr (.inl ⟨h1', h2, h6, h5, r', h.symm, hd⟩)
    · have h2' : Qp.blank l[k] = false := by simpa using h2
      rw [if_neg h2] at h
      rcases Nat.lt_or_ge (k + 1) l.length with hk1 | hk1
      · have e2 := List.drop_eq_getElem_cons hk1
        rw [e2] at h
        simp only at h
        by_cases h3 : (l[k] == 13 && l[k + 1] == 10) = true
        · rw [if_pos h3] at h
          have hb : Qp.brk (l.drop k) = true := by rw [brk_at l k hk1]; exact h3
          cases hd : Qp.decode (l.drop (k + 1 + 1)) with
          | none => rw [hd] at h; cases h
          | some r' => rw [hd] at h; simp at h; exact .inr (.inr (.inl ⟨h1', h2', hb, by omega, r', h.symm, hd⟩))
        · rw [if_neg h3] at h
          have hb : Qp.brk (l.drop k) = false := by rw [brk_at l k hk1]; simpa using h3
          rcases Nat.lt_or_ge (k + 2) l.length with hk2 | hk2
          · have e3 := List.drop_eq_getElem_cons hk2
            rw [e3] at h
            simp only at h
            by_cases h4 : (l[k] == 61 && (l[k + 1] == 13 && l[k + 2] == 10)) = true
            · rw [if_pos h4] at h
              obtain ⟨g1, g2⟩ := Bool.and_eq_true_iff.1 h4
              exact .inr (.inr (.inr (.inl ⟨h1', h2', hb, by simpa using g1, by rw [brk_at l (k + 1) hk2]; exact g2, by omega, h⟩)))
            · rw [if_neg h4] at h
              by_cases h5 : (l[k] == 61 && (decide (0 ≤ Qp.digit l[k + 1]) && decide (0 ≤ Qp.digit l[k + 2]))) = true
              · rw [if_pos h5] at h
                obtain ⟨g1, g2⟩ := Bool.and_eq_true_iff.1 h5
                obtain ⟨g3, g4⟩ := Bool.and_eq_true_iff.1 g2
                have hb2 : Qp.brk (l.drop (k + 1)) = false := by
                  rw [brk_at l (k + 1) hk2]
                  simpa [g1] using h4
                cases hd : Qp.decode (l.drop (k + 2 + 1)) with
                | none => rw [hd] at h; cases h
                | some r' => rw [hd] at h; simp at h; exact .inr (.inr (.inr (.inr ⟨h1', h2', hb, by simpa using g1, hb2, hk2, by simpa using g3, by simpa using g4, r', h.symm, hd⟩)))
              · rw [if_neg h5] at h; cases h
          · rw [List.drop_eq_nil_of_le hk2] at h; simp at h
      · rw [List.drop_eq_nil_of_le hk1] at h; simp at h

theorem DRel.more {w wr w2 : World} {l d out r' : List UInt8} {k k' : Nat} {v v' : Value} {o : Obj} (x : List UInt8) (ho : wr.ownsRow w.heap.size 5 1 v out.length (out.map bv)) (hb : Below w.heap.size w wr) (hd : d = out ++ (x ++ r'))
    (hdec : Qp.decode (l.drop k') = some r') (ho2 : w2.ownsRow w.heap.size 5 1 v' (out.length + x.length) (out.map bv ++ x.map bv)) (hg : (wr.alloc o).grownBy w2 v.ownBlock) : DRel w l d k' v' w2 := by
  have _ := k
  refine ⟨out ++ x, r', by simpa using ho2, (hb.alloc hb.size o).grown hg (by simp; have := hb.size; omega) (fun i hi => (ho.lt i hi).1), hdec, by rw [hd]; simp⟩
theorem rd_row (w : World) (l : List UInt8) (cs : Array Value) (hc : cs.toList = l.map bv) : Rd (w.alloc (.cells cs 5)) 1 (.slice (some ⟨w.heap.size, 0, none⟩) l.length l.length) l.length (l.map bv) := by
  refine ⟨by simp, .inr ⟨_, _, rfl, Nat.le_refl _, fun _ => ⟨rfl, by simp, fun j u hu => ?_⟩⟩⟩
  have := (Blk.new w 5 cs).cell (0 + j)
  rw [this, ← hu, ← hc]; simp

theorem Lit_yes (x : UInt8) (w : World) (h : Qp.lit x = true) : Calls Try.prog 40 #[.int .u8 (x.toNat : Int)] w fun e w' => e = .returned (.bool true) ∧ w = w' := by
  have := Literal_calls x w; rwa [h] at this
theorem Lit_no (x : UInt8) (w : World) (h : Qp.lit x = false) : Calls Try.prog 40 #[.int .u8 (x.toNat : Int)] w fun e w' => e = .returned (.bool false) ∧ w = w' := by
  have := Literal_calls x w; rwa [h] at this
theorem Blank_yes (x : UInt8) (w : World) (h : Qp.blank x = true) : Calls Try.prog 46 #[.int .u8 (x.toNat : Int)] w fun e w' => e = .returned (.bool true) ∧ w = w' := by
  have := Blank_calls x w; rwa [h] at this
theorem Blank_no (x : UInt8) (w : World) (h : Qp.blank x = false) : Calls Try.prog 46 #[.int .u8 (x.toNat : Int)] w fun e w' => e = .returned (.bool false) ∧ w = w' := by
  have := Blank_calls x w; rwa [h] at this

/-- What Decode leaves, of right text. -/
def DecPost (w : World) (d : List UInt8) (e : Ending) (w' : World) : Prop :=
  ∃ A c, e = .returned (.tuple #[.slice A d.length c, .bool true]) ∧ Rd w' 1 (.slice A d.length c) d.length (d.map bv) ∧ Below w.heap.size w w'

set_option maxRecDepth 100000 in
set_option maxHeartbeats 8000000 in
theorem Decode_calls (w : World) (v : Value) (l d : List UInt8) (hr : Rd w 1 v l.length (l.map bv)) (hl : l.length ≤ 1073741824) (hd : Qp.decode l = some d) (hdl : d.length ≤ 1073741824) :
    Calls Try.prog 39 #[v] w (DecPost w d) := by
  obtain ⟨i0, hi, hz0, hz1, hz2⟩ := info_parts info5
  obtain ⟨A, c, rfl, _⟩ := hr.shape
  have HR := Lib.hid hr
  have hst : DRel w l d 0 (.slice (some ⟨w.heap.size, 0, none⟩) 0 0) (w.alloc (.cells #[] 5)) := ⟨[], d, own_empty w 5 1, (Below.refl _ _).alloc (Nat.le_refl _) _, hd, rfl⟩
  have HST := Lib.hid hst
  clear hr hst hd
  go_enter Try.func39, Try.ntmps39
  go_wp2_with fail
  go_loopw [4, 5] (fun v i wr => ∃ k : Nat, k ≤ l.length ∧ i = .int .i64 k ∧ DRel w l d k v wr) (fun _ i _ => l.length - (intOf i).toNat)
  case atStart => exact ⟨0, Nat.zero_le _, rfl, HST.out⟩
  case round =>
    obtain ⟨k, hk, rfl, out, r, hown, hbel, hdec, hde⟩ := hrel
    clear HST
    have hout : out.length ≤ 1073741824 := by rw [hde] at hdl; simp at hdl; omega
    have hsz := hbel.size
    by_cases hkl : k < l.length
    · have hrr := HR.out.keep hbel
      have HRR := Lib.hid hrr
      obtain ⟨ab, ao, rfl, _, hcell⟩ := hrr.byte hkl
      have c1 := hcell k hkl
      have HO := Lib.hid hown
      have HB := Lib.hid hbel
      have HDE := Lib.hid hde
      rcases way_of l r k hkl hdec with ⟨h1, r', e, hd'⟩ | ⟨h1, h2, h3, h4, r', e, hd'⟩ | ⟨h1, h2, h3, hk2, r', e, hd'⟩ | ⟨h1, h2, h3, h4, h5, hk3, hd'⟩ | ⟨h1, h2, h3, h4, h5, hk2, h6, h7, r', e, hd'⟩
      · -- a byte that stands for itself
        have HL := Lib.hid (fun w => Lit_yes l[k] w h1)
        have HE := Lib.hid e
        have HD' := Lib.hid hd'
        clear hown hbel hde hdec hcell hrr h1 e hd'
        generalize l[k] = x at *
        go_wp2_with fail
        refine (HL.out _).mono ?_
        rintro e w' ⟨rfl, rfl⟩
        go_wp2_with (at_builtin; refine wpList_app _ rfl _ _ 24 rfl w.heap.size 5 i0 (.int .u8 0) 1 1 Try.underlying24 hi hz0 hz1 hz2 rfl (by decide) u4 out.length (out.map bv) rfl (HO.out.alloc _) (.slice (some ⟨wr.heap.size, 0, none⟩) 1 1) 1 [bv x] rfl (rd_row wr [x] _ rfl) (bvs_one [x]) (by unfold maxLen; omega) (by omega) (by simp; omega) ?_)
        intro v' w1 g1 g2 _
        have HRl := Lib.hid (DRel.more (d := d) (k := k) (k' := k + 1) [x] HO.out HB.out (by rw [HDE.out, HE.out]; rfl) HD'.out g1 g2)
        clear g1 g2
        go_wp2
        go_roundw
        case rel => exact ⟨k + 1, by omega, by go_num, HRl.out⟩
        case measure => simp [intOf]; omega
      · -- a blank that is not the last one of its line
        have HL := Lib.hid (fun w => Lit_no l[k] w h1)
        have HBl := Lib.hid (fun w => Blank_yes l[k] w h2)
        have HBr := Lib.hid (Break_no wr _ l (k + 1) ((k : Int) + 1) (by omega) hrr (by omega) (by omega) h4)
        have HE := Lib.hid e
        have HD' := Lib.hid hd'
        have hne : ((k : Int) + 1 == (l.length : Int)) = false := by simp; omega
        clear hown hbel hde hdec hcell hrr h1 h2 h4 e hd'
        generalize l[k] = x at *
        go_wp2_with fail
        refine (HL.out _).mono ?_
        rintro e w' ⟨rfl, rfl⟩
        go_wp2_with fail
        refine (HBl.out _).mono ?_
        rintro e w' ⟨rfl, rfl⟩
        go_wp2_with fail
        refine HBr.out.mono ?_
        rintro e w' ⟨rfl, rfl⟩
        go_wp2_with (at_builtin; refine wpList_app _ rfl _ _ 24 rfl w.heap.size 5 i0 (.int .u8 0) 1 1 Try.underlying24 hi hz0 hz1 hz2 rfl (by decide) u4 out.length (out.map bv) rfl (HO.out.alloc _) (.slice (some ⟨wr.heap.size, 0, none⟩) 1 1) 1 [bv x] rfl (rd_row wr [x] _ rfl) (bvs_one [x]) (by unfold maxLen; omega) (by omega) (by simp; omega) ?_)
        intro v' w1 g1 g2 _
        have HRl := Lib.hid (DRel.more (d := d) (k := k) (k' := k + 1) [x] HO.out HB.out (by rw [HDE.out, HE.out]; rfl) HD'.out g1 g2)
        clear g1 g2
        go_wp2
        go_roundw
        case rel => exact ⟨k + 1, by omega, by go_num, HRl.out⟩
        case measure => simp [intOf]; omega
      · -- a line break
        have HL := Lib.hid (fun w => Lit_no l[k] w h1)
        have HBl := Lib.hid (fun w => Blank_no l[k] w h2)
        have HBr := Lib.hid (Break_yes wr _ l k (k : Int) rfl hrr (by omega) (by omega) h3)
        have HE := Lib.hid e
        have HD' := Lib.hid hd'
        clear hown hbel hde hdec hcell hrr h1 h2 h3 e hd'
        generalize l[k] = x at *
        go_wp2_with fail
        refine (HL.out _).mono ?_
        rintro e w' ⟨rfl, rfl⟩
        go_wp2_with fail
        refine (HBl.out _).mono ?_
        rintro e w' ⟨rfl, rfl⟩
        go_wp2_with fail
        refine HBr.out.mono ?_
        rintro e w' ⟨rfl, rfl⟩
        go_wp2_with (at_builtin; refine wpList_app _ rfl _ _ 24 rfl w.heap.size 5 i0 (.int .u8 0) 1 1 Try.underlying24 hi hz0 hz1 hz2 rfl (by decide) u4 out.length (out.map bv) rfl (HO.out.alloc _) (.slice (some ⟨wr.heap.size, 0, none⟩) 2 2) 2 [bv 13, bv 10] rfl (rd_row wr [13, 10] _ rfl) (bvs_one [13, 10]) (by unfold maxLen; omega) (by omega) (by simp; omega) ?_)
        intro v' w1 g1 g2 _
        have HRl := Lib.hid (DRel.more (d := d) (k := k) (k' := k + 2) [13, 10] HO.out HB.out (by rw [HDE.out, HE.out]; rfl) HD'.out g1 g2)
        clear g1 g2
        go_wp2
        go_roundw
        case rel => exact ⟨k + 2, by omega, by go_num, HRl.out⟩
        case measure => simp [intOf]; omega
      · -- a soft line break
        have HL := Lib.hid (fun w => Lit_no l[k] w h1)
        have HBl := Lib.hid (fun w => Blank_no l[k] w h2)
        have HBr := Lib.hid (Break_no wr _ l k (k : Int) rfl hrr (by omega) (by omega) h3)
        have HBr2 := Lib.hid (Break_yes wr _ l (k + 1) ((k : Int) + 1) (by omega) hrr (by omega) (by omega) h5)
        have h61 : ((l[k].toNat : Int) == 61) = true := by rw [h4]; rfl
        have hnx : DRel w l d (k + 3) u4 wr := ⟨out, r, hown, hbel, hd', hde⟩
        have HNX := Lib.hid hnx
        clear hown hbel hde hdec hcell hrr h1 h2 h3 h4 h5 hd' hnx
        generalize l[k] = x at *
        go_wp2_with fail
        refine (HL.out _).mono ?_
        rintro e w' ⟨rfl, rfl⟩
        go_wp2_with fail
        refine (HBl.out _).mono ?_
        rintro e w' ⟨rfl, rfl⟩
        go_wp2_with fail
        refine HBr.out.mono ?_
        rintro e w' ⟨rfl, rfl⟩
        go_wp2_with fail
        refine HBr2.out.mono ?_
        rintro e w' ⟨rfl, rfl⟩
        go_wp2
        go_roundw
        case rel => exact ⟨k + 3, by omega, by go_num, HNX.out⟩
        case measure => simp [intOf]; omega
      · -- an equals sign and two digits
        have HL := Lib.hid (fun w => Lit_no l[k] w h1)
        have HBl := Lib.hid (fun w => Blank_no l[k] w h2)
        have HBr := Lib.hid (Break_no wr _ l k (k : Int) rfl hrr (by omega) (by omega) h3)
        have HBr2 := Lib.hid (Break_no wr _ l (k + 1) ((k : Int) + 1) (by omega) hrr (by omega) (by omega) h5)
        have h61 : ((l[k].toNat : Int) == 61) = true := by rw [h4]; rfl
        have c2 := hcell (k + 1) (by omega)
        have c3 := hcell (k + 2) hk2
        have hb1 := digit_bounds _ h6
        have hb2 := digit_bounds _ h7
        have HE := Lib.hid e
        have HD' := Lib.hid hd'
        clear hown hbel hde hdec hcell hrr h1 h2 h3 h4 h5 hd' e
        generalize l[k] = x at *
        generalize l[k + 1] = y at *
        generalize l[k + 2] = z at *
        have HDy := Lib.hid (fun w => Digit_calls y w)
        have HDz := Lib.hid (fun w => Digit_calls z w)
        generalize Qp.digit y = dy at *
        generalize Qp.digit z = dz at *
        go_wp2_with fail
        refine (HL.out _).mono ?_
        rintro e w' ⟨rfl, rfl⟩
        go_wp2_with fail
        refine (HBl.out _).mono ?_
        rintro e w' ⟨rfl, rfl⟩
        go_wp2_with fail
        refine HBr.out.mono ?_
        rintro e w' ⟨rfl, rfl⟩
        go_wp2_with fail
        refine HBr2.out.mono ?_
        rintro e w' ⟨rfl, rfl⟩
        go_wp2_with fail
        refine (HDy.out _).mono ?_
        rintro e w' ⟨rfl, rfl⟩
        go_wp2_with fail
        refine (HDz.out _).mono ?_
        rintro e w' ⟨rfl, rfl⟩
        go_wp2_with fail
        have hz16 : 0 ≤ 16 * dy + dz ∧ 16 * dy + dz ≤ 255 := by omega
        have q1 : (0 : Int) ≤ (k : Int) + 1 := by omega
        have q2 : (k : Int) + 1 < (l.length : Int) := by omega
        have q3 : (0 : Int) ≤ (k : Int) + 2 := by omega
        have q4 : (k : Int) + 2 < (l.length : Int) := by omega
        have q5 : ((k : Int) + 1).toNat = k + 1 := by omega
        have q6 : ((k : Int) + 2).toNat = k + 2 := by omega
        have q7 : IntKind.i64.wrap ((k : Int) + 1) = (k : Int) + 1 := IntWalk.i64_in _ (by omega)
        have q8 : IntKind.i64.wrap ((k : Int) + 2) = (k : Int) + 2 := IntWalk.i64_in _ (by omega)
        have q9 : IntKind.i64.wrap (16 * dy) = 16 * dy := IntWalk.i64_in _ (by omega)
        have q10 : IntKind.i64.wrap (16 * dy + dz) = 16 * dy + dz := IntWalk.i64_in _ (by omega)
        have q11 : IntKind.u8.wrap (16 * dy + dz) = 16 * dy + dz := by rw [IntKind.wrap_u8]; omega
        go_region_law (first
          | (refine step_append_lies _ rfl (.tmp 106) (.tmp 122) 24 rfl w.heap.size 5 i0 (.int .u8 0) 1 1 Try.underlying24 hi hz0 hz1 hz2 rfl (by decide) u4 out.length (out.map bv) (by simp [Act.eval, Act.put]) (by exact HO.out.alloc _) ⟨wr.heap.size, 0, none⟩ 1 1 [.int .u8 (16 * dy + dz)] (by simp [Act.eval]) rfl (by exact cell_one_new wr _ 5) (by simp [Value.oneCell']) (by omega) (by unfold maxLen; omega) (by omega) (by simp; omega) (wr.heap.size + 1) (by simp) ?_; intro g cap w1 g1 g2 g3 g4)
          | (go_simp; go_at_call_of 41 (Value.int .u8 (y.toNat : Int)); refine (HDy.out _).mono ?_; rintro e w' ⟨rfl, rfl⟩)
          | (go_simp; go_at_call_of 41 (Value.int .u8 (z.toNat : Int)); refine (HDz.out _).mono ?_; rintro e w' ⟨rfl, rfl⟩))
        all_goals
          have g2' : (wr.alloc (.cells #[.int .u8 (16 * dy + dz)] 5)).grownBy w1 u4.ownBlock := ⟨g2.os, g2.tape, g2.output, g2.size, g2.block⟩
          rw [← bv_u8int _ hz16.1 hz16.2] at g1
          have HRl := Lib.hid (DRel.more (d := d) (k := k) (k' := k + 3) [Qp.u8int (16 * dy + dz)] HO.out HB.out (by rw [HDE.out, HE.out]; rfl) HD'.out g1 g2')
          clear g1 g2 g2' g3 g4 q1 q2 q3 q4 q5 q6 q7 q8 q9 q10 q11
          go_wp2
          go_roundw
          case rel => exact ⟨k + 3, by omega, by go_num, HRl.out⟩
          case measure => simp [intOf]; omega
    · have hke : k = l.length := by omega
      have hr0 : r = [] := by
        rw [hke, List.drop_length, Qp.decode_nil] at hdec
        injection hdec with h; exact h.symm
      rw [hr0, List.append_nil] at hde
      obtain ⟨oA, oc, hv⟩ := own_shape hown
      have hP : DecPost w d (.returned (.tuple #[u4, .bool true])) wr := by
        rw [hde]
        exact ⟨oA, oc, by rw [hv], by rw [← hv]; exact Rd.of_own hown, hbel⟩
      have HP := Lib.hid hP
      clear hown hbel hde hdec hke hr0 hv hP
      go_wp2
      go_ret2
      exact HP.out
end Go.Proofs.Ytgdfbnedmifjlaa
