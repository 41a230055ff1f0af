/- FnRepeated: one byte, so many times, is encoded in binary mode to lines that are all alike but for the last two, whatever comes in. -/
import Derived.Test.YtgdfbnedmifjlaaLines
import Derived.Test.YtgdfbnedmifjlaaFull
import Derived.Test.YtgdfbnedmifjlaaHead
import Derived.BigQuiet
import Derived.Deep.QuietTactic
namespace Go.Proofs.Ytgdfbnedmifjlaa.fnRepeated
open Go.RowKit Go.ChangeShapes Go.WideShapes Go.ChangeAt

/-- The row that the first loop builds. -/
def RpRel (w : World) (b : UInt8) (k : Nat) (v : Value) (wr : World) : Prop :=
  wr.ownsRow w.heap.size 5 1 v k ((List.replicate k b).map bv) ∧ Below w.heap.size w wr
theorem RpRel.start (w : World) (b : UInt8) : RpRel w b 0 (.slice (some ⟨w.heap.size, 0, none⟩) 0 0) (w.alloc (.cells #[] 5)) :=
  ⟨own_empty w 5 1, (Below.refl _ _).alloc (Nat.le_refl _) _⟩
theorem RpRel.next {w wr w2 : World} {b : UInt8} {k : Nat} {v v' : Value} {o : Obj} (h : RpRel w b k v wr) (ho : w2.ownsRow w.heap.size 5 1 v' (k + 1) (List.replicate k (bv b) ++ [bv b])) (hg : (wr.alloc o).grownBy w2 v.ownBlock) : RpRel w b (k + 1) v' w2 := by
  refine ⟨?_, (h.2.alloc h.2.size o).grown hg (by simp; have := h.2.size; omega) (fun i hi => (h.1.lt i hi).1)⟩
  rw [List.replicate_succ', List.map_append, List.map_replicate]
  exact ho
theorem alike (b : UInt8) (n i : Nat) (hi : 1 ≤ i) (h : i + 2 < (Qp.lines (Qp.enc true (List.replicate n b))).length) :
    ∃ p, (Qp.lines (Qp.enc true (List.replicate n b)))[i]? = some p ∧ (Qp.lines (Qp.enc true (List.replicate n b)))[0]? = some p := by
  obtain ⟨c, F, xs, e, h1, h2⟩ := Qp.lines_rep b n
  rw [e] at h ⊢
  simp at h
  refine ⟨F, ?_, ?_⟩
  · have hc : i < (List.replicate c F).length := by rw [List.length_replicate]; omega
    rw [List.getElem?_append_left hc, List.getElem?_eq_getElem hc, List.getElem_replicate]
  · have hc : 0 < (List.replicate c F).length := by rw [List.length_replicate]; omega
    rw [List.getElem?_append_left hc, List.getElem?_eq_getElem hc, List.getElem_replicate]

set_option maxRecDepth 100000 in
set_option maxHeartbeats 4000000 in
theorem walk (w : World) (b : UInt8) (n : Int) (hn : -9223372036854775808 ≤ n ∧ n ≤ 9223372036854775807) : Calls Try.prog 20 #[.int .u8 (b.toNat : Int), .int .i64 n] w (Yes w) := by
  obtain ⟨i0, hi, hz0, hz1, hz2⟩ := info_parts info5
  by_cases h0 : n < 0
  · go_enter Try.func20, Try.ntmps20
    go_wp2
    go_ret
    exact ⟨rfl, Below.refl _ _⟩
  by_cases h5 : 5000 < n
  · go_enter Try.func20, Try.ntmps20
    go_wp2
    go_ret
    exact ⟨rfl, Below.refl _ _⟩
  obtain ⟨N, rfl⟩ : ∃ N : Nat, n = (N : Int) := ⟨n.toNat, by omega⟩
  have hN : N ≤ 5000 := by omega
  have HST := Lib.hid (RpRel.start w b)
  clear hn
  go_enter Try.func20, Try.ntmps20
  go_wp2_with fail
  go_loopw [5, 6] (fun v i wr => ∃ k : Nat, k ≤ N ∧ i = .int .i64 k ∧ RpRel w b k v wr) (fun _ i _ => N - (intOf i).toNat)
  case atStart => exact ⟨0, Nat.zero_le _, rfl, HST.out⟩
  case round =>
    obtain ⟨k, hk, rfl, hrel⟩ := hrel
    clear HST
    have hsz := hrel.2.size
    by_cases hkl : k < N
    · have H1 := Lib.hid hrel
      clear hrel
      go_wp2_with (at_builtin; refine wpList_app _ rfl _ _ 24 rfl w.heap.size 5 i0 (.int .u8 0) 1 1 Try.underlying24 hi hz0 hz1 hz2 rfl (by decide) u5 k ((List.replicate k b).map bv) rfl (H1.out.1.alloc _) (.slice (some ⟨wr.heap.size, 0, none⟩) 1 1) 1 [bv b] rfl (rd_row wr [b] _ rfl) (bvs_one [b]) (by unfold maxLen; omega) (by omega) (by simp; omega) ?_)
      intro v' w1 g1 g2 _
      have HN := Lib.hid (RpRel.next H1.out g1 g2)
      clear g1 g2
      go_wp2
      go_roundw
      case rel => exact ⟨k + 1, by omega, by go_num, HN.out⟩
      case measure => simp [intOf]; omega
    · have hke : k = N := by omega
      subst hke
      have hrd : Rd wr 1 u5 (List.replicate k b).length ((List.replicate k b).map bv) := by
        have := Rd.of_own hrel.1
        simpa using this
      obtain ⟨sA, sc, hshape, _⟩ := hrd.shape
      rw [List.length_replicate] at hshape
      subst hshape
      have hle := (Qp.enc_len true (List.replicate k b)).2
      rw [List.length_replicate] at hle
      have HC1 := Lib.hid (Encode_bytes wr true _ (List.replicate k b) hrd (by simp; omega))
      have HB0 := Lib.hid hrel.2
      have HSome := Lib.hid (lines_some true (List.replicate k b))
      have HAl := Lib.hid (alike b k)
      have hlk : (List.replicate k b).length = k := List.length_replicate
      generalize List.replicate k b = l at *
      generalize Qp.enc true l = x at *
      have hcnt : (Qp.lines x).length ≤ x.length + 1 := lines_count x []
      have hne := lines_ne x
      clear hrd hrel
      go_wp2_with fail
      refine HC1.out.mono ?_
      intro e w1 h
      obtain ⟨xA, xc, rfl, _, hx, hb1⟩ := h
      have HC2 := Lib.hid (Lines_calls w1 _ x hx (by omega))
      have HB1 := Lib.hid (bel_old HB0.out hb1)
      clear hx hb1
      go_wp2_with fail
      refine HC2.out.mono ?_
      intro e w2 h
      obtain ⟨yA, yc, rfl, _, hy, hb2⟩ := h
      have HP := Lib.hid hy
      have HB := Lib.hid (bel_old HB1.out hb2)
      clear hy hb2
      generalize Qp.lines x = ls at *
      go_wp2_with fail
      go_loopw [8] (fun i wr => ∃ j : Nat, 1 ≤ j ∧ j ≤ ls.length + 1 ∧ i = .int .i64 j ∧ Parts wr (.slice yA ls.length yc) ls ∧ Below w.heap.size w wr) (fun i _ => ls.length + 2 - (intOf i).toNat)
      case atStart => exact ⟨1, Nat.le_refl _, by omega, rfl, HP.out, HB.out⟩
      case round =>
        obtain ⟨j, hj1, hj2, rfl, hpp, hbb⟩ := hrel
        obtain ⟨ab, ao, rfl, _, hcell⟩ := hpp.get hne
        have HP3 := Lib.hid hpp
        have HB3 := Lib.hid hbb
        clear hpp hbb
        by_cases hjl : j + 2 < ls.length
        · obtain ⟨p, hp1, hp2⟩ := HAl.out j hj1 hjl
          obtain ⟨dA, dc, c1, hd1⟩ := hcell j p hp1
          obtain ⟨eA, ec, c2, hd2⟩ := hcell 0 p hp2
          rw [Nat.add_zero] at c2
          have HS := Lib.hid (fun n => ((Same_yes (wr.drewN n) _ _ p p (hd1.keep (bel_drewN (Below.refl _ _) n)) (hd2.keep (bel_drewN (Below.refl _ _) n)) rfl).mono fun _ _ h => And.intro h.1 h.2.symm))
          have HPn := Lib.hid (fun n => HP3.out.keep (bel_drewN (Below.refl _ _) n))
          have HBn := Lib.hid (fun n => bel_drewN HB3.out n)
          clear hcell hp1 hp2 hd1 hd2
          have q1 : (j : Int) < (ls.length : Int) := by omega
          have q2 : (0 : Int) < (ls.length : Int) := by omega
          go_wp2_with fail
          go_quiet ((go_at_call 33; with_reducible exact Calls.quiet_of_same (HS.out _)))
          go_wp2_with fail
          go_roundw
          case rel => exact ⟨j + 1, by omega, by omega, by go_num, HPn.out _, HBn.out _⟩
          case measure => simp [intOf]; omega
        · obtain ⟨p, hp⟩ : ∃ p, ls[0]? = some p := ⟨ls[0], List.getElem?_eq_getElem hne⟩
          obtain ⟨dA, dc, c1, _⟩ := hcell 0 p hp
          rw [Nat.add_zero] at c1
          clear hcell
          by_cases h1 : 1 < ls.length
          · have h1' : (1 : Int) < (ls.length : Int) := by omega
            clear hp
            go_wp2
            go_ret
            exact ⟨rfl, HB3.out⟩
          · have h1' : ¬ (1 : Int) < (ls.length : Int) := by omega
            have hs := HSome.out p (by omega) hp
            clear hp
            by_cases hp0 : 0 < p.length
            · have hp0' : (0 : Int) < (p.length : Int) := by omega
              clear hs
              go_wp2
              go_ret
              exact ⟨rfl, HB3.out⟩
            · have hp0' : ¬ (0 : Int) < (p.length : Int) := by omega
              have ha0 : ((k : Int) == 0) = true := by
                have : (k : Int) = 0 := by omega
                rw [this]; rfl
              clear hs
              go_wp2
              go_ret
              exact ⟨rfl, HB3.out⟩

theorem contract (H : Type) (enc : TypeId × Value → H) (W : World) (base : Nat) (args : Array Value) (ds gs : List (DataW H)) (before : List MemPlace)
    (hval : ∀ (j : Nat) t v, Try.f20.params[j]? = some t → args[j]? = some v → Value.okWide Try.prog W .any base t v)
    (hW : DataW.Whole enc Try.prog Try.f20.params.toList Rows.fnRepeatedSpec.vars false W args.toList ds gs before) :
    Calls Try.prog 20 args W fun e W' => ∃ v, e = .returned v ∧ Rows.fnRepeatedSpec.post enc Try.prog Try.f20 false true false false W args v W' := by
  have hW' := hW
  obtain ⟨p, q, hA0, hV, rfl, _, _⟩ := hW
  have hA : DataW.TrodAll enc Try.prog W 0 (fun _ => true) true Try.f20.params.toList args.toList ds p := hA0
  rw [Try.params20] at hA hval
  obtain ⟨v0, vs0, d0, ds0, p0, q0, hargs, rfl, rfl, h0, r0⟩ := trodAll_cons hA
  obtain ⟨v1, vs1, d1, ds1, p1, q1, rfl, rfl, rfl, h1, r1⟩ := trodAll_cons r0
  obtain ⟨rfl, rfl, rfl⟩ := trodAll_nil r1
  obtain rfl : args = #[v0, v1] := by cases args; simp_all
  obtain ⟨rfl, rfl⟩ := trodVars_none hV
  obtain ⟨z0, rfl, _, _, w0⟩ := open_int Try.underlying5 (hval 0 5 v0 rfl rfl) h0
  obtain ⟨a0, rfl⟩ := byte_of_wf w0
  obtain ⟨a1, rfl, _, _, w1⟩ := open_int Try.underlying3 (hval 1 3 v1 rfl rfl) h1
  refine (walk W a0 a1 (int_range w1)).mono fun e W' ⟨he, hg⟩ => ?_
  subst he
  exact ⟨_, rfl, law_post hW' rfl rfl rfl rfl rfl (by rw [Try.params20]; intro t ht; simp at ht; rcases ht with rfl | rfl <;> exact ⟨by kernel_rfl, of_decide_eq_true (by kernel_rfl)⟩) hg⟩

set_option maxRecDepth 100000 in
theorem lifted (os : Os) (started : os.Started) (H : Type) (enc : TypeId × Value → H) :
    ReturnsInHanded {} Try.checked os 20 .any (Rows.fnRepeatedSpec.pre6 enc Try.prog Try.f20 Rows.fnRepeatedRow.domain false) (Rows.fnRepeatedSpec.post enc Try.prog Try.f20 false true false false) := by
  refine returnsInHanded_of_change (C := Try.checked) Try.ownk started (by kernel_rfl) Try.func20
    (ChangeSpec.witness6 (enc := enc) (C := Try.checked) false ⟨#[], #[.int .u8 0, .int .i64 0], []⟩ 8 (by kernel_rfl) (by kernel_rfl) (by kernel_rfl) (by kernel_rfl)) ?_
  intro W base args ds gs before hval hW _ _
  exact contract H enc W base args ds gs before hval hW

theorem closed : joinedFacts Try.prog 20 Try.f20 Rows.fnRepeatedSpec Rows.fnRepeatedRow = true := by
  unfold joinedFacts
  rw [enters, lifts_no, make_cut]
  kernel_rfl

theorem proved : Rows.FnRepeatedSaid :=
  OpenClaim.holds_of_wide 20 Try.f20 rfl rfl rfl rfl rfl rfl rfl ⟨rfl, rfl, rfl, rfl, rfl⟩ rfl rfl rfl rfl rfl (by kernel_rfl) Try.func20 closed
    (of_decide_eq_true (by kernel_rfl)) (by unfold Func.isWrapper; rw [if_neg (of_decide_eq_false (by kernel_rfl))]; exact ⟨rfl, rfl⟩)
    (fun os started H enc _ => lifted os started H enc)
end Go.Proofs.Ytgdfbnedmifjlaa.fnRepeated
