/- FnSoftFull: an encoded line that ends with a soft line break has 74 characters at least, and something stands on the encoded line behind it, where what comes in is of bulk at most 1048576. -/
import Derived.Test.YtgdfbnedmifjlaaLines
import Derived.Test.YtgdfbnedmifjlaaHead
namespace Go.Proofs.Ytgdfbnedmifjlaa.fnSoftFull
open Go.RowKit Go.ChangeShapes Go.WideShapes Go.ChangeAt

set_option maxRecDepth 100000 in
set_option maxHeartbeats 4000000 in
theorem walk (w : World) (bin : Bool) (u : Value) (l : List UInt8) (hr : Rd w 1 u l.length (l.map bv)) (hl : l.length ≤ 1048576) : Calls Try.prog 23 #[.bool bin, u] w (Yes w) := by
  have hle := (Qp.enc_len bin l).2
  have HSome := Lib.hid (lines_some bin l)
  have HSoft := Lib.hid (soft_at _ (Qp.lines_soft bin l))
  have HSh := Lib.hid (Qp.lines_short bin l)
  have HC1 := Lib.hid (Encode_bytes w bin u l hr (by omega))
  obtain ⟨A, c, rfl, _⟩ := hr.shape
  clear hr
  generalize Qp.enc bin l = x at *
  have hcnt : (Qp.lines x).length ≤ x.length + 1 := lines_count x []
  have hne := lines_ne x
  go_enter Try.func23, Try.ntmps23
  go_wp2_with fail
  refine HC1.out.mono ?_
  intro e w1 h
  obtain ⟨xA, xc, rfl, _, hx, hb1⟩ := h
  have HC2 := Lib.hid (Lines_calls w1 _ x hx (by omega))
  have HB1 := Lib.hid hb1
  clear hx hb1
  go_wp2_with fail
  refine HC2.out.mono ?_
  intro e w2 h
  obtain ⟨yA, yc, rfl, _, hy, hb2⟩ := h
  have HP := Lib.hid hy
  have HB := Lib.hid (bel_old HB1.out hb2)
  clear hy hb2
  generalize Qp.lines x = ls at *
  obtain ⟨ab, ao, rfl, _, hcell0⟩ := HP.out.get hne
  have HCell := Lib.hid hcell0
  clear hcell0
  go_wp2_with fail
  go_loop [14] (fun i => ∃ k : Nat, k ≤ ls.length ∧ i = .int .i64 k) (fun i => ls.length - (intOf i).toNat)
  case atStart => exact ⟨0, Nat.zero_le _, rfl⟩
  case round =>
    obtain ⟨k, hk, rfl⟩ := hrel
    by_cases hkl : k < ls.length
    · obtain ⟨p, hp⟩ : ∃ p, ls[k]? = some p := ⟨ls[k], List.getElem?_eq_getElem hkl⟩
      obtain ⟨dA, dc, c1, hd⟩ := HCell.out k p hp
      have h76 : p.length ≤ 76 := HSh.out p (List.mem_of_getElem? hp)
      by_cases hp0 : 0 < p.length
      · have hp0' : (0 : Int) < (p.length : Int) := by omega
        obtain ⟨pb, po, rfl, _, hpc⟩ := hd.byte (k := p.length - 1) (by omega)
        have c2 := hpc (p.length - 1) (by omega)
        have hlast : p.getLast? = some (p[p.length - 1]'(by omega)) := by
          rw [List.getLast?_eq_getElem?, List.getElem?_eq_getElem (by omega)]
        have h61 : (((p[p.length - 1]'(by omega)).toNat : Int) == 61) = (p[p.length - 1]'(by omega) == 61) := int_eq_u8 _ 61 (by omega)
        generalize p[p.length - 1]'(by omega) = z at *
        have q1 : (0 : Int) ≤ (p.length : Int) - 1 := by omega
        have q2 : ((p.length : Int) - 1).toNat = p.length - 1 := by omega
        cases hz : z == 61 with
        | false =>
          rw [hz] at h61
          clear hpc hd hlast hz hp
          go_wp2_with fail
          go_round
          case rel => exact ⟨k + 1, by omega, by go_num⟩
          case measure => simp [intOf]; omega
        | true =>
          rw [hz] at h61
          have hz' : z = 61 := by simpa using hz
          rw [hz'] at hlast
          obtain ⟨h74, m, hm, hm0⟩ := HSoft.out k p hp hlast
          have hk1 : k + 1 < ls.length := (List.getElem?_eq_some_iff.1 hm).1
          obtain ⟨mA, mc, c3, _⟩ := HCell.out (k + 1) m hm
          have g1 : ((k : Int) == (ls.length : Int) - 1) = false := by simp; omega
          have g2 : ((m.length : Int) == 0) = false := beq_eq_false_iff_ne.2 (by omega)
          have q3 : ((k : Int) + 1).toNat = k + 1 := by omega
          clear hpc hd hlast hz hz' hp hm
          go_wp2_with fail
          go_round
          case rel => exact ⟨k + 1, by omega, by go_num⟩
          case measure => simp [intOf]; omega
      · have hp0' : ¬ (0 : Int) < (p.length : Int) := by omega
        clear hd hp
        go_wp2_with fail
        go_round
        case rel => exact ⟨k + 1, by omega, by go_num⟩
        case measure => simp [intOf]; omega
    · obtain ⟨p, hp⟩ : ∃ p, ls[0]? = some p := ⟨ls[0], List.getElem?_eq_getElem hne⟩
      obtain ⟨dA, dc, c1, _⟩ := HCell.out 0 p hp
      rw [Nat.add_zero] at c1
      by_cases h1 : 1 < ls.length
      · have h1' : (1 : Int) < (ls.length : Int) := by omega
        clear hp
        go_wp2
        go_ret
        exact ⟨rfl, HB.out⟩
      · have h1' : ¬ (1 : Int) < (ls.length : Int) := by omega
        have hs := HSome.out p (by omega) hp
        clear hp
        by_cases hp0 : 0 < p.length
        · have hp0' : (0 : Int) < (p.length : Int) := by omega
          clear hs
          go_wp2
          go_ret
          exact ⟨rfl, HB.out⟩
        · have hp0' : ¬ (0 : Int) < (p.length : Int) := by omega
          have ha0 : l.length ≤ 0 := by omega
          clear hs
          go_wp2
          go_ret
          exact Yes.of (len_zero ha0) HB.out

theorem contract (H : Type) (enc : TypeId × Value → H) (W : World) (base : Nat) (args : Array Value) (ds gs : List (DataW H)) (before : List MemPlace)
    (hval : ∀ (j : Nat) t v, Try.f23.params[j]? = some t → args[j]? = some v → Value.okWide Try.prog W .any base t v)
    (hW : DataW.Whole enc Try.prog Try.f23.params.toList Rows.fnSoftFullSpec.vars false W args.toList ds gs before) (hk : Rows.uptoSmall H (ds ++ gs) = true) :
    Calls Try.prog 23 args W fun e W' => ∃ v, e = .returned v ∧ Rows.fnSoftFullSpec.post enc Try.prog Try.f23 false true false false W args v W' := by
  have hW' := hW
  have hlt := hW.lt
  obtain ⟨p, q, hA0, hV, rfl, _, _⟩ := hW
  have hA : DataW.TrodAll enc Try.prog W 0 (fun _ => true) true Try.f23.params.toList args.toList ds p := hA0
  rw [Try.params23] at hA hval
  obtain ⟨v0, vs0, d0, ds0, p0, q0, hargs, rfl, rfl, h0, r0⟩ := trodAll_cons hA
  obtain ⟨v1, vs1, d1, ds1, p1, q1, rfl, rfl, rfl, h1, r1⟩ := trodAll_cons r0
  obtain ⟨rfl, rfl, rfl⟩ := trodAll_nil r1
  obtain rfl : args = #[v0, v1] := by cases args; simp_all
  obtain ⟨rfl, rfl⟩ := trodVars_none hV
  have hbulk := bulk_of hk
  obtain ⟨a0, rfl, _, _⟩ := open_bool Try.underlying4 (hval 0 4 v0 rfl rfl) h0
  obtain ⟨l1, g1, b1⟩ := open_bytes (hval 1 24 v1 rfl rfl) h1 (fun y hy => hlt y (by simp [hy]))
  simp only [List.append_nil, Rows.uptoBulkAll] at hbulk
  refine (walk W a0 v1 l1 g1 (by omega)).mono fun e W' ⟨he, hg⟩ => ?_
  subst he
  exact ⟨_, rfl, law_post hW' rfl rfl rfl rfl rfl (by rw [Try.params23]; intro t ht; simp at ht; rcases ht with rfl | rfl <;> exact ⟨by kernel_rfl, of_decide_eq_true (by kernel_rfl)⟩) hg⟩

set_option maxRecDepth 100000 in
theorem lifted (os : Os) (started : os.Started) (H : Type) (enc : TypeId × Value → H) (F : Stop.Interp) :
    ReturnsInHanded {} Try.checked os 23 .any ((Rows.OpenSpec.upto Rows.fnSoftFullSpec).pre6 enc Try.prog Try.f23 Rows.fnSoftFullUptoRow.domain false) (((Rows.OpenSpec.upto Rows.fnSoftFullSpec).at F).post enc Try.prog Try.f23 false true false false) := by
  refine returnsInHanded_of_cond (C := Try.checked) (s := Rows.OpenSpec.upto Rows.fnSoftFullSpec) (k := Rows.uptoSmall) rfl Try.ownk started (by kernel_rfl) Try.func23
    (OpenSpec.witness (enc := enc) (C := Try.checked) (s := Rows.OpenSpec.upto Rows.fnSoftFullSpec) (k := Rows.uptoSmall) rfl false ⟨#[], #[.bool false, .slice none 0 0], []⟩ 8 (by kernel_rfl) (by kernel_rfl) (by kernel_rfl)
      (x := ([.lit (.bool false), .nil], [], [])) (by kernel_rfl) rfl (by kernel_rfl)) ?_
  intro W base args ds gs before hval hW _ hk _
  exact contract H enc W base args ds gs before hval hW hk

theorem closed : joinedFacts Try.prog 23 Try.f23 (Rows.OpenSpec.upto Rows.fnSoftFullSpec).bare Rows.fnSoftFullUptoRow = true := by
  unfold joinedFacts
  rw [enters, lifts_no, make_cut]
  kernel_rfl

theorem proved : Rows.FnSoftFullUptoSaid :=
  OpenClaim.holds_of_cond 23 Try.f23 rfl rfl rfl rfl rfl rfl rfl ⟨rfl, rfl, rfl, rfl, rfl⟩ rfl rfl rfl rfl rfl (by kernel_rfl) Try.func23 closed
    (of_decide_eq_true (by kernel_rfl)) (by unfold Func.isWrapper; rw [if_neg (of_decide_eq_false (by kernel_rfl))]; exact ⟨rfl, rfl⟩)
    (fun os started H enc _ F => lifted os started H enc F)
end Go.Proofs.Ytgdfbnedmifjlaa.fnSoftFull
