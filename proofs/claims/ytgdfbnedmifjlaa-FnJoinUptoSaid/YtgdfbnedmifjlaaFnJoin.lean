/- FnJoin: two texts, the first one of which ends with a line break, are encoded one behind the other as each is by itself, where what comes in is of bulk at most 1048576. -/
import Derived.Test.YtgdfbnedmifjlaaGrow
import Derived.Test.YtgdfbnedmifjlaaPlainD
import Derived.Test.YtgdfbnedmifjlaaHead
namespace Go.Proofs.Ytgdfbnedmifjlaa.fnJoin
open Go.RowKit Go.ChangeShapes Go.WideShapes Go.ChangeAt



set_option maxHeartbeats 4000000 in
theorem walk (w : World) (u : Value) (a : List UInt8) (v : Value) (b : List UInt8) (ha : Rd w 1 u a.length (a.map bv)) (hla : a.length ≤ 1048576) (hb : Rd w 1 v b.length (b.map bv)) (hlb : b.length ≤ 1048576) : Calls Try.prog 15 #[u, v] w (Yes w) := by
  obtain ⟨i0, hi, hz0, hz1, hz2⟩ := info_parts info5
  obtain ⟨A, c, rfl, _⟩ := ha.shape
  obtain ⟨A', c', rfl, _⟩ := hb.shape
  obtain ⟨a2, ha2⟩ : ∃ x, x = a ++ [13, 10] := ⟨_, rfl⟩
  obtain ⟨ab, hab⟩ : ∃ x, x = a2 ++ b := ⟨_, rfl⟩
  obtain ⟨due, hdue⟩ : ∃ x, x = Qp.enc false a2 ++ Qp.enc false b := ⟨_, rfl⟩
  have hal : a2.length ≤ a.length + 2 := by rw [ha2]; simp
  have hbl : ab.length ≤ a2.length + b.length := by rw [hab]; simp
  have hdl : due.length ≤ (Qp.enc false a2).length + (Qp.enc false b).length := by rw [hdue]; simp
  have hgg : ab.length ≤ due.length := by rw [hdue, hab]; simp only [List.length_append]; have := (Qp.enc_len false a2).1; have := (Qp.enc_len false b).1; omega
  have hj : Qp.enc false ab = due := by rw [hdue, hab, ha2]; exact Qp.enc_join a b
  have hle1 := Qp.enc_len false a2
  have hle2 := Qp.enc_len false b
  have HJ := Lib.hid hj
  have HA2 := Lib.hid ha2
  have HAB := Lib.hid hab
  have HDU := Lib.hid hdue
  clear ha2 hab hdue hj
  generalize hx1 : Qp.enc false a2 = xa at *
  generalize hx2 : Qp.enc false b = xb at *
  have HX1 := Lib.hid hx1
  have HX2 := Lib.hid hx2
  clear hx1 hx2
  have HA := Lib.hid ha
  have HB := Lib.hid hb
  have HG0 := Lib.hid (Grow.start w)
  clear ha hb
  go_enter Try.func15, Try.ntmps15
  go_wp2_with (at_builtin; refine wpList_app _ rfl (.tmp 7) (.tmp 8) 24 rfl w.heap.size 5 i0 (.int .u8 0) 1 1 Try.underlying24 hi hz0 hz1 hz2 rfl (by decide) _ 0 [] rfl HG0.out.1 (.slice A a.length c) a.length (a.map bv) rfl (HA.out.alloc _) (bvs_one a) (by unfold maxLen; omega) (by omega) (by simp) ?_)
  intro v1 w1 q1 q2 _
  have HG1 := Lib.hid (HG0.out.first a q1 q2)
  have hs1 := HG1.out.2.size
  clear q1 q2 HG0
  go_wp2_with (at_builtin; refine wpList_app _ rfl (.tmp 9) (.tmp 10) 24 rfl w.heap.size 5 i0 (.int .u8 0) 1 1 Try.underlying24 hi hz0 hz1 hz2 rfl (by decide) v1 a.length (a.map bv) rfl (HG1.out.alloc _).1 (.slice (some ⟨w1.heap.size, 0, none⟩) 2 2) 2 [bv 13, bv 10] rfl (rd_row w1 [13, 10] _ rfl) (bvs_one [13, 10]) (by unfold maxLen; omega) (by omega) (by simp; omega) ?_)
  intro v2 w2 q1 q2 _
  have nb := (HG1.out.more [13, 10] q1 q2).bytes
  rw [← HA2.out] at nb
  obtain ⟨xA, xc, e2, hxc, hx, hb2⟩ := nb
  injection e2 with e2
  subst e2
  have HX := Lib.hid hx
  have HB2 := Lib.hid hb2
  have HP1 := Lib.hid (Paired_calls w2 _ a2 hx (by omega))
  have HP2 := Lib.hid (Paired_calls w2 _ b (HB.out.keep hb2) (by omega))
  clear q1 q2 hx hb2 HG1 hs1
  go_wp2_with fail
  refine HP1.out.mono ?_
  rintro e w' ⟨rfl, rfl⟩
  cases hp : Qp.paired a2 with
  | false =>
    clear hp
    go_wp2
    go_ret
    exact ⟨rfl, HB2.out⟩
  | true =>
    clear hp
    go_wp2_with fail
    refine HP2.out.mono ?_
    rintro e w' ⟨rfl, rfl⟩
    cases hq : Qp.paired b with
    | false =>
      clear hq
      go_wp2
      go_ret
      exact ⟨rfl, HB2.out⟩
    | true =>
      clear hq HP1 HP2
      have HG0 := Lib.hid (Grow.start w2)
      go_wp2_with (at_builtin; refine wpList_app _ rfl (.tmp 20) (.tmp 21) 24 rfl w2.heap.size 5 i0 (.int .u8 0) 1 1 Try.underlying24 hi hz0 hz1 hz2 rfl (by decide) _ 0 [] rfl HG0.out.1 (.slice xA a2.length xc) a2.length (a2.map bv) rfl (HX.out.alloc _) (bvs_one a2) (by unfold maxLen; omega) (by omega) (by simp) ?_)
      intro v3 w3 q1 q2 _
      have HG1 := Lib.hid (HG0.out.first a2 q1 q2)
      have hs3 := HG1.out.2.size
      clear q1 q2 HG0
      go_wp2_with (at_builtin; refine wpList_app _ rfl (.tmp 22) (.tmp 23) 24 rfl w2.heap.size 5 i0 (.int .u8 0) 1 1 Try.underlying24 hi hz0 hz1 hz2 rfl (by decide) v3 a2.length (a2.map bv) rfl HG1.out.1 (.slice A' b.length c') b.length (b.map bv) rfl ((HB.out.keep HB2.out).keep HG1.out.2) (bvs_one b) (by unfold maxLen; omega) (by omega) (by omega) ?_)
      intro v4 w4 q1 q2 _
      have nb := (HG1.out.app b q1 q2).bytes
      rw [← HAB.out] at nb
      obtain ⟨yA, yc, e4, hyc, hy, hb4⟩ := nb
      injection e4 with e4
      subst e4
      have HY := Lib.hid hy
      have HB4 := Lib.hid (bel_old HB2.out hb4)
      have HX4 := Lib.hid (HX.out.keep hb4)
      have HBB4 := Lib.hid ((HB.out.keep HB2.out).keep hb4)
      clear q1 q2 hy hb4 HG1 hs3 HX HB2
      have HG0 := Lib.hid (Grow.start w4)
      have HC1 := Lib.hid (Encode_bytes (w4.alloc (.cells #[] 5)) false _ a2 (HX4.out.alloc _) (by omega))
      rw [HX1.out] at HC1
      go_wp2_with fail
      refine HC1.out.mono ?_
      intro e w5 h
      obtain ⟨sA, sc, rfl, _, hs, hb5⟩ := h
      have HG1 := Lib.hid (HG0.out.keep hb5)
      have HS := Lib.hid hs
      have hz5 := HG1.out.2.size
      clear hs hb5 HG0 HC1
      go_wp2_with (at_builtin; refine wpList_app _ rfl (.tmp 25) (.tmp 27) 24 rfl w4.heap.size 5 i0 (.int .u8 0) 1 1 Try.underlying24 hi hz0 hz1 hz2 rfl (by decide) _ 0 [] rfl HG1.out.1 (.slice sA xa.length sc) xa.length (xa.map bv) rfl HS.out (bvs_one _) (by unfold maxLen; omega) (by omega) (by omega) ?_)
      intro v6 w6 q1 q2 _
      have HG2 := Lib.hid (HG1.out.first _ q1 q2)
      clear q1 q2 HG1 HS hz5
      have HC2 := Lib.hid (Encode_bytes w6 false _ b (HBB4.out.keep HG2.out.2) (by omega))
      rw [HX2.out] at HC2
      go_wp2_with fail
      refine HC2.out.mono ?_
      intro e w7 h
      obtain ⟨tA, tc, rfl, _, ht, hb7⟩ := h
      have HG3 := Lib.hid (HG2.out.keep hb7)
      have HT := Lib.hid ht
      have hz7 := HG3.out.2.size
      clear ht hb7 HG2 HC2
      go_wp2_with (at_builtin; refine wpList_app _ rfl (.tmp 28) (.tmp 30) 24 rfl w4.heap.size 5 i0 (.int .u8 0) 1 1 Try.underlying24 hi hz0 hz1 hz2 rfl (by decide) v6 xa.length (xa.map bv) rfl HG3.out.1 (.slice tA xb.length tc) xb.length (xb.map bv) rfl HT.out (bvs_one _) (by unfold maxLen; omega) (by omega) (by omega) ?_)
      intro v8 w8 q1 q2 _
      have nb := (HG3.out.app _ q1 q2).bytes
      rw [← HDU.out] at nb
      obtain ⟨dA, dc, e8, hdc, hd, hb8⟩ := nb
      injection e8 with e8
      subst e8
      have HC3 := Lib.hid (Encode_bytes w8 false _ ab (HY.out.keep hb8) (by omega))
      rw [HJ.out] at HC3
      have HD := Lib.hid hd
      have HB8 := Lib.hid (bel_old HB4.out hb8)
      clear q1 q2 HG3 HT hz7 hd hb8
      go_wp2_with fail
      refine HC3.out.mono ?_
      intro e w9 h
      obtain ⟨zA, zc, rfl, _, hz, hb9⟩ := h
      have HS := Lib.hid (Same_yes w9 _ _ due due hz (HD.out.keep hb9) rfl)
      have HB9 := Lib.hid (bel_old HB8.out hb9)
      clear hz hb9 HC3
      go_wp2_with fail
      refine HS.out.mono ?_
      rintro e w' ⟨rfl, rfl⟩
      have hge : (ab.length : Int) ≤ (due.length : Int) := by omega
      go_wp2
      go_ret
      exact ⟨rfl, HB9.out⟩

theorem contract (H : Type) (enc : TypeId × Value → H) (W : World) (base : Nat) (args : Array Value) (ds gs : List (DataW H)) (before : List MemPlace)
    (hval : ∀ (j : Nat) t v, Try.f15.params[j]? = some t → args[j]? = some v → Value.okWide Try.prog W .any base t v)
    (hW : DataW.Whole enc Try.prog Try.f15.params.toList Rows.fnJoinSpec.vars false W args.toList ds gs before) (hk : Rows.uptoSmall H (ds ++ gs) = true) :
    Calls Try.prog 15 args W fun e W' => ∃ v, e = .returned v ∧ Rows.fnJoinSpec.post enc Try.prog Try.f15 false true false false W args v W' := by
  have hW' := hW
  have hlt := hW.lt
  obtain ⟨p, q, hA0, hV, rfl, _, _⟩ := hW
  have hA : DataW.TrodAll enc Try.prog W 0 (fun _ => true) true Try.f15.params.toList args.toList ds p := hA0
  rw [Try.params15] at hA hval
  obtain ⟨v0, vs0, d0, ds0, p0, q0, hargs, rfl, rfl, h0, r0⟩ := trodAll_cons hA
  obtain ⟨v1, vs1, d1, ds1, p1, q1, rfl, rfl, rfl, h1, r1⟩ := trodAll_cons r0
  obtain ⟨rfl, rfl, rfl⟩ := trodAll_nil r1
  obtain rfl : args = #[v0, v1] := by cases args; simp_all
  obtain ⟨rfl, rfl⟩ := trodVars_none hV
  have hbulk := bulk_of hk
  obtain ⟨l0, g0, b0⟩ := open_bytes (hval 0 24 v0 rfl rfl) h0 (fun y hy => hlt y (by simp [hy]))
  obtain ⟨l1, g1, b1⟩ := open_bytes (hval 1 24 v1 rfl rfl) h1 (fun y hy => hlt y (by simp [hy]))
  simp only [List.append_nil, Rows.uptoBulkAll] at hbulk
  refine (walk W v0 l0 v1 l1 g0 (by omega) g1 (by omega)).mono fun e W' ⟨he, hg⟩ => ?_
  subst he
  exact ⟨_, rfl, law_post hW' rfl rfl rfl rfl rfl (by rw [Try.params15]; intro t ht; simp at ht; subst ht; exact ⟨by kernel_rfl, of_decide_eq_true (by kernel_rfl)⟩) hg⟩

set_option maxRecDepth 100000 in
theorem lifted (os : Os) (started : os.Started) (H : Type) (enc : TypeId × Value → H) (F : Stop.Interp) :
    ReturnsInHanded {} Try.checked os 15 .any ((Rows.OpenSpec.upto Rows.fnJoinSpec).pre6 enc Try.prog Try.f15 Rows.fnJoinUptoRow.domain false) (((Rows.OpenSpec.upto Rows.fnJoinSpec).at F).post enc Try.prog Try.f15 false true false false) := by
  refine returnsInHanded_of_cond (C := Try.checked) (s := Rows.OpenSpec.upto Rows.fnJoinSpec) (k := Rows.uptoSmall) rfl Try.ownk started (by kernel_rfl) Try.func15
    (OpenSpec.witness (enc := enc) (C := Try.checked) (s := Rows.OpenSpec.upto Rows.fnJoinSpec) (k := Rows.uptoSmall) rfl false ⟨#[], #[.slice none 0 0, .slice none 0 0], []⟩ 8 (by kernel_rfl) (by kernel_rfl) (by kernel_rfl)
      (x := ([.nil, .nil], [], [])) (by kernel_rfl) rfl (by kernel_rfl)) ?_
  intro W base args ds gs before hval hW _ hk _
  exact contract H enc W base args ds gs before hval hW hk

theorem closed : joinedFacts Try.prog 15 Try.f15 (Rows.OpenSpec.upto Rows.fnJoinSpec).bare Rows.fnJoinUptoRow = true := by
  unfold joinedFacts
  rw [enters, lifts_no, make_cut]
  kernel_rfl

theorem proved : Rows.FnJoinUptoSaid :=
  OpenClaim.holds_of_cond 15 Try.f15 rfl rfl rfl rfl rfl rfl rfl ⟨rfl, rfl, rfl, rfl, rfl⟩ rfl rfl rfl rfl rfl (by kernel_rfl) Try.func15 closed
    (of_decide_eq_true (by kernel_rfl)) (by unfold Func.isWrapper; rw [if_neg (of_decide_eq_false (by kernel_rfl))]; exact ⟨rfl, rfl⟩)
    (fun os started H enc _ F => lifted os started H enc F)
end Go.Proofs.Ytgdfbnedmifjlaa.fnJoin
