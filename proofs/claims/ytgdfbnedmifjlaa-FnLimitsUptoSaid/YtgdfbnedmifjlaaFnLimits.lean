/- FnLimits: the more bytes the underlying writer takes, the longer the beginning of the encoded text that it gets, where what comes in is of bulk at most 1048576. -/
import Derived.Test.YtgdfbnedmifjlaaCounts
import Derived.Test.YtgdfbnedmifjlaaFull
import Derived.Test.YtgdfbnedmifjlaaHead
namespace Go.Proofs.Ytgdfbnedmifjlaa.fnLimits
open Go.RowKit Go.ChangeShapes Go.WideShapes Go.ChangeAt

set_option maxHeartbeats 4000000 in
theorem walk (w : World) (bin : Bool) (most more : Int) (u : Value) (l : List UInt8) (h1 : -9223372036854775808 ≤ most ∧ most ≤ 9223372036854775807) (h2 : -9223372036854775808 ≤ more ∧ more ≤ 9223372036854775807)
    (hr : Rd w 1 u l.length (l.map bv)) (hl : l.length ≤ 1048576) : Calls Try.prog 12 #[.bool bin, .int .i64 most, .int .i64 more, u] w (Yes w) := by
  obtain ⟨A, c, rfl, _⟩ := hr.shape
  by_cases hn : most < 0
  · clear hr
    go_enter Try.func12, Try.ntmps12
    go_wp2
    go_ret
    exact ⟨rfl, Below.refl _ _⟩
  by_cases hnm : more < most
  · clear hr
    go_enter Try.func12, Try.ntmps12
    go_wp2
    go_ret
    exact ⟨rfl, Below.refl _ _⟩
  obtain ⟨m, rfl⟩ : ∃ m : Nat, most = (m : Int) := ⟨most.toNat, by omega⟩
  obtain ⟨M, rfl⟩ : ∃ M : Nat, more = (M : Int) := ⟨more.toNat, by omega⟩
  have hmM : m ≤ M := by omega
  obtain ⟨xs, hxs⟩ : ∃ x : List Qp.Stp, x = [⟨false, l⟩, ⟨true, []⟩] := ⟨_, rfl⟩
  have hS := steps_two w _ l hr
  rw [← hxs] at hS
  have ht : tot xs ≤ 1048578 := by rw [hxs, tot_two]; omega
  have h0 : 0 < xs.length := by rw [hxs]; simp
  have HB0 := Lib.hid ((Below.refl w.heap.size w).alloc (Nat.le_refl _) (.cells #[.bool false, .slice A l.length c, .bool true, .slice none 0 0] 26))
  have HC1 := Lib.hid (Limited_calls _ bin m (by omega) _ xs hS (by omega))
  have HC2 := Lib.hid (fun w' (h : Below (w.alloc (.cells #[.bool false, .slice A l.length c, .bool true, .slice none 0 0] 26)).heap.size (w.alloc (.cells #[.bool false, .slice A l.length c, .bool true, .slice none 0 0] 26)) w') => Limited_calls w' bin M (by omega) _ xs (hS.keep h) (by omega))
  have HC3 := Lib.hid (fun w' (h : Below w.heap.size w w') => Encode_bytes w' bin _ l (hr.keep h) (by omega))
  have hall : Qp.enc bin l = (Qp.endP none bin Qp.st0 xs).got := by rw [hxs]; rfl
  have hpos := Qp.enc_pos bin l
  have p1 := Qp.rel_prefix (Qp.lim_rel bin m (some M) hmM xs)
  have p2 := Qp.rel_prefix (Qp.lim_rel bin M none trivial xs)
  have l1 := Qp.lim_low bin m xs
  have l2 := Qp.lim_low bin M xs
  have hsame : M < (Qp.enc bin l).length ∨ (Qp.endP (some M) bin Qp.st0 xs).got = Qp.enc bin l := by
    rw [hall]
    rcases Nat.lt_or_ge M (Qp.endP none bin Qp.st0 xs).got.length with h | h
    · exact .inl h
    · right; rw [Qp.lim_fits bin M xs h]
  rw [← hall] at p2
  have P1 := Lib.hid p1
  have P2 := Lib.hid p2
  have HSame := Lib.hid hsame
  have HPos := Lib.hid hpos
  have hl1 : ((Qp.endP (some m) bin Qp.st0 xs).got.length : Int) ≤ (m : Int) := by omega
  have hl2 : ((Qp.endP (some M) bin Qp.st0 xs).got.length : Int) ≤ (M : Int) := by omega
  clear hr hS hxs hall p1 p2 hsame hpos l1 l2
  go_enter Try.func12, Try.ntmps12
  go_wp2_with fail
  refine HC1.out.mono ?_
  intro e w1 h
  obtain ⟨aA, ac, fA, fc, al1, rfl, ha, _, hb1, hcn1, _⟩ := run_out h
  have HA := Lib.hid ha
  have HB1 := Lib.hid hb1
  have HN1 := Lib.hid hcn1
  clear ha hb1 hcn1 h HC1
  go_wp2_with fail
  refine (HC2.out w1 HB1.out).mono ?_
  intro e w2 h
  obtain ⟨bA, bc, gA, gc, al2, rfl, hb, _, hb2, hcn2, _⟩ := run_out h
  have HBq := Lib.hid hb
  have HA2 := Lib.hid (HA.out.keep hb2)
  have HB2 := Lib.hid (bel_old (bel_old HB0.out HB1.out) hb2)
  have hn1 : 0 < al1.length := HN1.out.pos h0
  have hn2 : al1.length ≤ al2.length := HN1.out.mono hcn2 hmM
  clear hb hb2 hcn2 h HC2 HA HB0 HB1 HN1
  generalize (Qp.endP (some m) bin Qp.st0 xs).got = a at *
  generalize (Qp.endP (some M) bin Qp.st0 xs).got = b at *
  generalize Qp.enc bin l = x at *
  go_wp2_with fail
  refine (HC3.out w2 HB2.out).mono ?_
  intro e w3 h
  obtain ⟨xA, xc, rfl, _, hx, hb3⟩ := h
  have HX := Lib.hid hx
  have HB3 := Lib.hid (bel_old HB2.out hb3)
  have HA3 := Lib.hid (HA2.out.keep hb3)
  have HBq3 := Lib.hid (HBq.out.keep hb3)
  clear hx hb3 HA2 HBq HB2 HC3
  have z1 : ((al1.length : Int) == 0) = false := beq_eq_false_iff_ne.2 (by omega)
  have z2 : ¬ (al2.length : Int) < (al1.length : Int) := by omega
  have HS1 := Lib.hid (Begins_yes w3 _ _ b a HBq3.out HA3.out P1.out)
  go_wp2_with fail
  refine HS1.out.mono ?_
  rintro e w' ⟨rfl, n, rfl⟩
  have HS2 := Lib.hid (Begins_yes (w3.drewN n) _ _ x b (rd_drewN HX.out) (rd_drewN HBq3.out) P2.out)
  go_wp2_with fail
  refine HS2.out.mono ?_
  rintro e w' ⟨rfl, n2, rfl⟩
  have HB4 := Lib.hid (bel_drewN (bel_drewN HB3.out n) n2)
  have HX4 := Lib.hid (rd_drewN (k := n2) (rd_drewN (k := n) HX.out))
  have HBq4 := Lib.hid (rd_drewN (k := n2) (rd_drewN (k := n) HBq3.out))
  generalize (w3.drewN n).drewN n2 = w4 at *
  by_cases hM : M < x.length
  · have hM' : (M : Int) < (x.length : Int) := by omega
    have hp : 0 < x.length := by omega
    have hp' : (0 : Int) < (x.length : Int) := by omega
    go_wp2
    go_ret
    exact ⟨rfl, HB4.out⟩
  · have hM' : ¬ (M : Int) < (x.length : Int) := by omega
    have hbe : b = x := HSame.out.resolve_left hM
    have HS3 := Lib.hid (Same_yes w4 _ _ b x HBq4.out HX4.out hbe)
    clear hbe
    go_wp2_with fail
    refine HS3.out.mono ?_
    rintro e w' ⟨rfl, rfl⟩
    by_cases hp : 0 < x.length
    · have hp' : (0 : Int) < (x.length : Int) := by omega
      go_wp2
      go_ret
      exact ⟨rfl, HB4.out⟩
    · have hp' : ¬ (0 : Int) < (x.length : Int) := by omega
      have ha0 : l.length ≤ 0 := by have := HPos.out; omega
      go_wp2
      go_ret
      exact Yes.of (len_zero ha0) HB4.out

theorem contract (H : Type) (enc : TypeId × Value → H) (W : World) (base : Nat) (args : Array Value) (ds gs : List (DataW H)) (before : List MemPlace)
    (hval : ∀ (j : Nat) t v, Try.f12.params[j]? = some t → args[j]? = some v → Value.okWide Try.prog W .any base t v)
    (hW : DataW.Whole enc Try.prog Try.f12.params.toList Rows.fnLimitsSpec.vars false W args.toList ds gs before) (hk : Rows.uptoSmall H (ds ++ gs) = true) :
    Calls Try.prog 12 args W fun e W' => ∃ v, e = .returned v ∧ Rows.fnLimitsSpec.post enc Try.prog Try.f12 false true false false W args v W' := by
  have hW' := hW
  have hlt := hW.lt
  obtain ⟨p, q, hA0, hV, rfl, _, _⟩ := hW
  have hA : DataW.TrodAll enc Try.prog W 0 (fun _ => true) true Try.f12.params.toList args.toList ds p := hA0
  rw [Try.params12] at hA hval
  obtain ⟨v0, vs0, d0, ds0, p0, q0, hargs, rfl, rfl, h0, r0⟩ := trodAll_cons hA
  obtain ⟨v1, vs1, d1, ds1, p1, q1, rfl, rfl, rfl, h1, r1⟩ := trodAll_cons r0
  obtain ⟨v2, vs2, d2, ds2, p2, q2, rfl, rfl, rfl, h2, r2⟩ := trodAll_cons r1
  obtain ⟨v3, vs3, d3, ds3, p3, q3, rfl, rfl, rfl, h3, r3⟩ := trodAll_cons r2
  obtain ⟨rfl, rfl, rfl⟩ := trodAll_nil r3
  obtain rfl : args = #[v0, v1, v2, v3] := by cases args; simp_all
  obtain ⟨rfl, rfl⟩ := trodVars_none hV
  have hbulk := bulk_of hk
  obtain ⟨a0, rfl, _, _⟩ := open_bool Try.underlying4 (hval 0 4 v0 rfl rfl) h0
  obtain ⟨a1, rfl, _, _, w1⟩ := open_int Try.underlying3 (hval 1 3 v1 rfl rfl) h1
  obtain ⟨a2, rfl, _, _, w2⟩ := open_int Try.underlying3 (hval 2 3 v2 rfl rfl) h2
  obtain ⟨l3, g3, b3⟩ := open_bytes (hval 3 24 v3 rfl rfl) h3 (fun y hy => hlt y (by simp [hy]))
  simp only [List.append_nil, Rows.uptoBulkAll] at hbulk
  refine (walk W a0 a1 a2 v3 l3 (int_range w1) (int_range w2) g3 (by omega)).mono fun e W' ⟨he, hg⟩ => ?_
  subst he
  exact ⟨_, rfl, law_post hW' rfl rfl rfl rfl rfl (by rw [Try.params12]; intro t ht; simp at ht; rcases ht with rfl | rfl | rfl | rfl <;> exact ⟨by kernel_rfl, of_decide_eq_true (by kernel_rfl)⟩) hg⟩

set_option maxRecDepth 100000 in
theorem lifted (os : Os) (started : os.Started) (H : Type) (enc : TypeId × Value → H) (F : Stop.Interp) :
    ReturnsInHanded {} Try.checked os 12 .any ((Rows.OpenSpec.upto Rows.fnLimitsSpec).pre6 enc Try.prog Try.f12 Rows.fnLimitsUptoRow.domain false) (((Rows.OpenSpec.upto Rows.fnLimitsSpec).at F).post enc Try.prog Try.f12 false true false false) := by
  refine returnsInHanded_of_cond (C := Try.checked) (s := Rows.OpenSpec.upto Rows.fnLimitsSpec) (k := Rows.uptoSmall) rfl Try.ownk started (by kernel_rfl) Try.func12
    (OpenSpec.witness (enc := enc) (C := Try.checked) (s := Rows.OpenSpec.upto Rows.fnLimitsSpec) (k := Rows.uptoSmall) rfl false ⟨#[], #[.bool false, .int .i64 0, .int .i64 0, .slice none 0 0], []⟩ 8 (by kernel_rfl) (by kernel_rfl) (by kernel_rfl)
      (x := ([.lit (.bool false), .lit (.int .i64 0), .lit (.int .i64 0), .nil], [], [])) (by kernel_rfl) rfl (by kernel_rfl)) ?_
  intro W base args ds gs before hval hW _ hk _
  exact contract H enc W base args ds gs before hval hW hk

theorem closed : joinedFacts Try.prog 12 Try.f12 (Rows.OpenSpec.upto Rows.fnLimitsSpec).bare Rows.fnLimitsUptoRow = true := by
  unfold joinedFacts
  rw [enters, lifts_no, make_cut]
  kernel_rfl

theorem proved : Rows.FnLimitsUptoSaid :=
  OpenClaim.holds_of_cond 12 Try.f12 rfl rfl rfl rfl rfl rfl rfl ⟨rfl, rfl, rfl, rfl, rfl⟩ rfl rfl rfl rfl rfl (by kernel_rfl) Try.func12 closed
    (of_decide_eq_true (by kernel_rfl)) (by unfold Func.isWrapper; rw [if_neg (of_decide_eq_false (by kernel_rfl))]; exact ⟨rfl, rfl⟩)
    (fun os started H enc _ F => lifted os started H enc F)
end Go.Proofs.Ytgdfbnedmifjlaa.fnLimits
