/- FnHave: what the underlying writer has got never gets less; before Close it is a beginning of what it has got in the end, where what comes in is of bulk at most 1048576. -/
import Derived.Test.YtgdfbnedmifjlaaCounts
import Derived.Test.YtgdfbnedmifjlaaHead
namespace Go.Proofs.Ytgdfbnedmifjlaa.fnHave
open Go.RowKit Go.ChangeShapes Go.WideShapes Go.ChangeAt

theorem stepCells_take (xs : List Qp.Stp) : ∀ (ds : List Value) (n : Nat), stepCells (xs.take n) (ds.take n) = (stepCells xs ds).take (n * 2) := by
  induction xs with
  | nil => intro ds n; simp [stepCells]
  | cons x xs ih =>
    intro ds n
    cases ds with
    | nil => cases n <;> simp [stepCells]
    | cons d ds =>
      cases n with
      | zero => simp [stepCells]
      | succ n =>
        have e : (n + 1) * 2 = n * 2 + 1 + 1 := by omega
        simp only [List.take_succ_cons, stepCells, ih ds n, e]
theorem steps_take {w : World} {A : Option Addr} {c : Nat} {xs : List Qp.Stp} (n : Nat) (h : Steps w (.slice A xs.length c) xs) (hn : n ≤ xs.length) : Steps w (.slice A n c) (xs.take n) := by
  obtain ⟨ds, h1, h2, h3⟩ := h
  have e : (xs.take n).length = n := by simp; omega
  refine ⟨ds.take n, by simp; omega, ?_, fun i d x g1 g2 => ?_⟩
  · rw [e, stepCells_take]
    have hl := stepCells_len xs ds h1
    refine ⟨by simp; omega, ?_⟩
    rcases h2.2 with ⟨g1, g2⟩ | ⟨ad, c', g1, g2, g3⟩
    · injection g1 with g1 _ g5
      have hn0 : n = 0 := by omega
      subst g1 g5 hn0
      exact .inl ⟨rfl, rfl⟩
    · injection g1 with g1 _ g5
      subst g1 g5
      refine .inr ⟨ad, c, rfl, by omega, fun h0 => ?_⟩
      obtain ⟨k1, k2, k3⟩ := g3 (by omega)
      refine ⟨k1, k2, fun j u hu => k3 j u ?_⟩
      have hj : j < n * 2 := by
        have := (List.getElem?_eq_some_iff.1 hu).1
        simp at this; omega
      rw [← hu, List.getElem?_take_of_lt hj]
  · have hi : i < n := by
      have := (List.getElem?_eq_some_iff.1 g1).1
      simp at this; omega
    rw [List.getElem?_take_of_lt hi] at g1 g2
    exact h3 i d x g1 g2

/-- What the underlying writer has got behind k calls. -/
def hv (bin : Bool) (xs : List Qp.Stp) (k : Nat) : Nat := (Qp.endP none bin Qp.st0 (xs.take k)).got.length
theorem hv_mono (bin : Bool) (xs : List Qp.Stp) (k : Nat) : hv bin xs k ≤ hv bin xs (k + 1) := (Qp.end_prefix2 none bin xs k (k + 1) (by omega)).length_le
theorem hv_end (bin : Bool) (xs : List Qp.Stp) : hv bin xs xs.length = (Qp.endP none bin Qp.st0 xs).got.length := by unfold hv; rw [List.take_length]
theorem hv_le (bin : Bool) (xs : List Qp.Stp) (k : Nat) : hv bin xs k ≤ (Qp.endP none bin Qp.st0 xs).got.length := (Qp.end_prefix none bin xs k).length_le
/-- The answer of each call, whole. -/
theorem ans_of {bin : Bool} {xs : List Qp.Stp} {al : List An} (hal : al.length = xs.length) (hok : ∀ (i : Nat) (a : An) (x : Qp.Stp), al[i]? = some a → xs[i]? = some x → AnOK a (Qp.endP none bin Qp.st0 (xs.take (i + 1))) x) (k : Nat) (x : Qp.Stp) (hx : xs[k]? = some x) :
    al[k]? = some ⟨if x.cl then 0 else (x.data.length : Int), false, hv bin xs (k + 1)⟩ := by
  have hk := (List.getElem?_eq_some_iff.1 hx).1
  have ha : al[k]? = some (al[k]'(by omega)) := List.getElem?_eq_getElem _
  obtain ⟨g1, g2, g3⟩ := hok k _ x ha hx
  have hb := Qp.end_fine bin (xs.take (k + 1))
  rw [ha]
  generalize al[k]'(by omega) = a at *
  obtain ⟨n, b, h⟩ := a
  simp only at g1 g2 g3
  rw [g3 hb, g1, hb, g2]
  rfl

set_option maxHeartbeats 4000000 in
theorem walk (w : World) (bin : Bool) (u : Value) (xs : List Qp.Stp) (hs : Steps w u xs) (ht : tot xs ≤ 1048576) : Calls Try.prog 4 #[.bool bin, u] w (Yes w) := by
  have hxl := tot_len xs
  have HC0 := Lib.hid (written_calls w u xs hs (by omega))
  have HStep := Lib.hid hs
  obtain ⟨sA, sc, rfl, hsc⟩ : ∃ A c, u = .slice A xs.length c ∧ xs.length ≤ c := by obtain ⟨_, _, h, _⟩ := hs; exact h.shape
  clear hs
  go_enter Try.func4, Try.ntmps4
  go_wp2_with fail
  refine HC0.out.mono ?_
  intro e w1 h
  obtain ⟨dA, dn, dc, b, rfl, hb1, hpost⟩ := h
  have HB1 := Lib.hid hb1
  clear hb1 HC0
  cases b with
  | false =>
    clear hpost
    go_wp2
    go_ret
    exact ⟨rfl, HB1.out⟩
  | true =>
    obtain ⟨hends, rfl, _⟩ := hpost rfl
    have h0 : 0 < xs.length := by obtain ⟨ys, z, rfl, _⟩ := hends; simp
    have hgot := Qp.end_script bin xs hends
    have hpos := Qp.enc_pos bin (Qp.wdata xs)
    rw [← hgot] at hpos
    have HPos := Lib.hid hpos
    clear hpost hends hgot hpos
    generalize Qp.wdata xs = data at *
    obtain ⟨n1, hn1⟩ : ∃ n1, xs.length = n1 + 1 := ⟨xs.length - 1, by omega⟩
    have HC1 := Lib.hid (fun w' (h : Below w.heap.size w w') => Run_calls w' bin _ xs (HStep.out.keep h) (by omega))
    have ht2 : tot (xs.take n1) ≤ tot xs := tot_take xs n1
    have HC2 := Lib.hid (fun w' (h : Below w.heap.size w w') => Run_calls w' bin _ (xs.take n1) (steps_take n1 (HStep.out.keep h) (by omega)) (by omega))
    have htl : (xs.take n1).length = n1 := by simp; omega
    have hpre := Qp.end_prefix none bin xs n1
    have hhe := hv_end bin xs
    have hhm := hv_mono bin xs
    have hhl := hv_le bin xs
    have hget : ∀ k, k < n1 + 1 → ∃ x, xs[k]? = some x := fun k hk => ⟨xs[k]'(by omega), List.getElem?_eq_getElem _⟩
    have hget2 : ∀ k x, k < n1 → xs[k]? = some x → (xs.take n1)[k]? = some x := fun k x hk hx => by rw [List.getElem?_take_of_lt hk]; exact hx
    have hhv2 : ∀ k, k < n1 → hv bin (xs.take n1) (k + 1) = hv bin xs (k + 1) := fun k hk => by unfold hv; rw [List.take_take, Nat.min_eq_left (by omega)]
    rw [hn1] at HC1 hhe
    rw [hn1]
    have HN1 := Lib.hid hn1
    have HTL := Lib.hid htl
    have HPre := Lib.hid hpre
    have HHE := Lib.hid hhe
    have HHM := Lib.hid hhm
    have HHL := Lib.hid hhl
    have HGet := Lib.hid hget
    have HGet2 := Lib.hid hget2
    have HHV2 := Lib.hid hhv2
    have hnb : n1 + 1 ≤ 1048576 := by omega
    have hnc : n1 + 1 ≤ sc := by omega
    clear hn1 htl hpre hhe hhm hhl hget hget2 hhv2 h0 hxl hsc ht2 HStep
    go_wp2_with fail
    refine (HC1.out w1 HB1.out).mono ?_
    intro e w2 h
    obtain ⟨xA, xc, gA, gc, al, he, hx, hans, hb2, hcnt, hok⟩ := run_out h
    have hal : al.length = xs.length := hcnt.all (Qp.end_fine bin xs)
    have HA1 := Lib.hid (ans_of hal hok)
    rw [hal, HN1.out] at he hans
    subst he
    have HX := Lib.hid hx
    have HAns := Lib.hid hans
    have HB2 := Lib.hid (bel_old HB1.out hb2)
    clear h hx hans hb2 hcnt hok hal HC1 HB1
    go_wp2_with fail
    refine (HC2.out w2 HB2.out).mono ?_
    intro e w3 h
    obtain ⟨yA, yc, fA, fc, al2, he, hy, hans2, hb3, hcnt2, hok2⟩ := run_out h
    have hal2 : al2.length = (xs.take n1).length := hcnt2.all (Qp.end_fine bin (xs.take n1))
    have HA2 := Lib.hid (ans_of hal2 hok2)
    rw [hal2, HTL.out] at he hans2
    subst he
    have HX3 := Lib.hid (HX.out.keep hb3)
    have HAns3 := Lib.hid (HAns.out.keep hb3)
    have HFst := Lib.hid hans2
    have HB3 := Lib.hid (bel_old HB2.out hb3)
    have HBeg := Lib.hid (Begins_yes w3 _ _ _ _ (HX.out.keep hb3) hy HPre.out)
    clear h hy hans2 hb3 hcnt2 hok2 hal2 HC2 HB2 HX HAns HPre
    generalize hgx : (Qp.endP none bin Qp.st0 xs).got = x at *
    generalize (Qp.endP none bin Qp.st0 (xs.take n1)).got = y at *
    clear hgx
    have hne : ((n1 : Int) + 1 != (n1 : Int) + 1) = false := by simp
    have hne2 : ((n1 : Int) != (n1 : Int)) = false := by simp
    go_wp2_with fail
    refine HBeg.out.mono ?_
    rintro e w' ⟨rfl, nd, rfl⟩
    have HB4 := Lib.hid (bel_drewN HB3.out nd)
    have HAns4 : Hid (Rd (w3.drewN nd) 3 (.slice gA (n1 + 1) gc) (n1 + 1) (ansCells al)) := HAns3
    have HFst4 : Hid (Rd (w3.drewN nd) 3 (.slice fA n1 fc) n1 (ansCells al2)) := HFst
    generalize w3.drewN nd = w4 at *
    clear HBeg HX3 HAns3 HFst HB3
    go_wp2_with fail
    go_loopw [11, 58] (fun hh i wr => ∃ k : Nat, k ≤ n1 + 1 ∧ i = .int .i64 k ∧ hh = .int .i64 (hv bin xs k : Int) ∧ Below w4.heap.size w4 wr) (fun _ i _ => n1 + 1 - (intOf i).toNat)
    case atStart => exact ⟨0, Nat.zero_le _, rfl, rfl, Below.refl _ _⟩
    case round =>
      obtain ⟨k, hk, rfl, rfl, hb⟩ := hrel
      by_cases hkl : k < n1 + 1
      · obtain ⟨s, hsx⟩ := HGet.out k hkl
        have ha := HA1.out k s hsx
        obtain ⟨g1, g2, g3⟩ := ansCells_at al k _ ha
        simp only at g1 g2 g3
        obtain ⟨ab, ao, rfl, hab, hcell⟩ := (HAns4.out.keep hb).get (k := k) (by omega)
        have c1 := hcell _ _ g1
        have c2 := hcell _ _ g2
        have c3 := hcell _ _ g3
        rw [← Nat.add_assoc] at c2 c3
        have m1 := HHM.out k
        have m2 := HHL.out (k + 1)
        have HB5 := Lib.hid hb
        by_cases hkn : k < n1
        · have ha2 := HA2.out k s (HGet2.out k s hkn hsx)
          rw [HHV2.out k hkn] at ha2
          obtain ⟨t1, t2, t3⟩ := ansCells_at al2 k _ ha2
          simp only at t1 t2 t3
          obtain ⟨fb, fo, rfl, hfb, hcell2⟩ := (HFst4.out.keep hb).get (k := k) hkn
          have c4 := hcell2 _ _ t1
          have c5 := hcell2 _ _ t2
          have c6 := hcell2 _ _ t3
          rw [← Nat.add_assoc] at c5 c6
          generalize (if s.cl then (0 : Int) else (s.data.length : Int)) = nn at *
          clear hcell hcell2 hsx ha ha2 g1 g2 g3 t1 t2 t3 hb
          generalize hv bin xs k = h0 at *
          generalize hh1 : hv bin xs (k + 1) = h1 at *
          have HH1 := Lib.hid hh1
          clear hh1
          go_wp2_with fail
          have d1 : decide (h1 < h0) = false := decide_eq_false (by omega)
          have d2 : decide (x.length < h1) = false := decide_eq_false (by omega)
          have d3 : decide (k < n1) = true := decide_eq_true (by omega)
          go_quiet (fail)
          go_wp2_with fail
          go_roundw
          case rel => exact ⟨k + 1, by omega, by go_num, by rw [HH1.out], bel_drewN (bel_new HB5.out _) _⟩
          case measure => simp [intOf]; omega
        · generalize (if s.cl then (0 : Int) else (s.data.length : Int)) = nn at *
          clear hcell hsx ha g1 g2 g3 hb
          generalize hv bin xs k = h0 at *
          generalize hh1 : hv bin xs (k + 1) = h1 at *
          have HH1 := Lib.hid hh1
          clear hh1
          go_wp2_with fail
          have d1 : decide (h1 < h0) = false := decide_eq_false (by omega)
          have d2 : decide (x.length < h1) = false := decide_eq_false (by omega)
          have d3 : decide (k < n1) = false := decide_eq_false (by omega)
          go_quiet (fail)
          go_wp2_with fail
          go_roundw
          case rel => exact ⟨k + 1, by omega, by go_num, by rw [HH1.out], bel_drewN (bel_new HB5.out _) _⟩
          case measure => simp [intOf]; omega
      · have hke : k = n1 + 1 := by omega
        have hhx : hv bin xs k = x.length := by rw [hke]; exact HHE.out
        rw [hhx]
        have HB5 := Lib.hid hb
        clear hb hhx hke
        have z1 : ((x.length : Int) == (x.length : Int)) = true := by simp
        by_cases hp : 0 < x.length
        · have hp' : (0 : Int) < (x.length : Int) := by omega
          go_wp2
          go_ret
          exact ⟨rfl, bel_old HB4.out HB5.out⟩
        · have hp' : ¬ (0 : Int) < (x.length : Int) := by omega
          have ha0 : data.length ≤ 0 := by have := HPos.out; omega
          go_wp2
          go_ret
          exact Yes.of (len_zero ha0) (bel_old HB4.out HB5.out)

theorem contract (H : Type) (enc : TypeId × Value → H) (W : World) (base : Nat) (args : Array Value) (ds gs : List (DataW H)) (before : List MemPlace)
    (hval : ∀ (j : Nat) t v, Try.f4.params[j]? = some t → args[j]? = some v → Value.okWide Try.prog W .any base t v)
    (hW : DataW.Whole enc Try.prog Try.f4.params.toList Rows.fnHaveSpec.vars false W args.toList ds gs before) (hk : Rows.uptoSmall H (ds ++ gs) = true) :
    Calls Try.prog 4 args W fun e W' => ∃ v, e = .returned v ∧ Rows.fnHaveSpec.post enc Try.prog Try.f4 false true false false W args v W' := by
  have hW' := hW
  have hlt := hW.lt
  obtain ⟨p, q, hA0, hV, rfl, _, _⟩ := hW
  have hA : DataW.TrodAll enc Try.prog W 0 (fun _ => true) true Try.f4.params.toList args.toList ds p := hA0
  rw [Try.params4] at hA hval
  obtain ⟨v0, vs0, d0, ds0, p0, q0, hargs, rfl, rfl, h0, r0⟩ := trodAll_cons hA
  obtain ⟨v1, vs1, d1, ds1, p1, q1, rfl, rfl, rfl, h1, r1⟩ := trodAll_cons r0
  obtain ⟨rfl, rfl, rfl⟩ := trodAll_nil r1
  obtain rfl : args = #[v0, v1] := by cases args; simp_all
  obtain ⟨rfl, rfl⟩ := trodVars_none hV
  have hbulk := bulk_of hk
  obtain ⟨a0, rfl, _, _⟩ := open_bool Try.underlying4 (hval 0 4 v0 rfl rfl) h0
  obtain ⟨l1, g1, b1⟩ := open_steps (hval 1 23 v1 rfl rfl) h1 (fun y hy => hlt y (by simp [hy]))
  simp only [List.append_nil, Rows.uptoBulkAll] at hbulk
  refine (walk W a0 v1 l1 g1 (by omega)).mono fun e W' ⟨he, hg⟩ => ?_
  subst he
  exact ⟨_, rfl, law_post hW' rfl rfl rfl rfl rfl (by rw [Try.params4]; intro t ht; simp at ht; rcases ht with rfl | rfl <;> exact ⟨by kernel_rfl, of_decide_eq_true (by kernel_rfl)⟩) hg⟩

set_option maxRecDepth 100000 in
theorem lifted (os : Os) (started : os.Started) (H : Type) (enc : TypeId × Value → H) (F : Stop.Interp) :
    ReturnsInHanded {} Try.checked os 4 .any ((Rows.OpenSpec.upto Rows.fnHaveSpec).pre6 enc Try.prog Try.f4 Rows.fnHaveUptoRow.domain false) (((Rows.OpenSpec.upto Rows.fnHaveSpec).at F).post enc Try.prog Try.f4 false true false false) := by
  refine returnsInHanded_of_cond (C := Try.checked) (s := Rows.OpenSpec.upto Rows.fnHaveSpec) (k := Rows.uptoSmall) rfl Try.ownk started (by kernel_rfl) Try.func4
    (OpenSpec.witness (enc := enc) (C := Try.checked) (s := Rows.OpenSpec.upto Rows.fnHaveSpec) (k := Rows.uptoSmall) rfl false ⟨#[], #[.bool false, .slice none 0 0], []⟩ 8 (by kernel_rfl) (by kernel_rfl) (by kernel_rfl)
      (x := ([.lit (.bool false), .nil], [], [])) (by kernel_rfl) rfl (by kernel_rfl)) ?_
  intro W base args ds gs before hval hW _ hk _
  exact contract H enc W base args ds gs before hval hW hk

theorem closed : joinedFacts Try.prog 4 Try.f4 (Rows.OpenSpec.upto Rows.fnHaveSpec).bare Rows.fnHaveUptoRow = true := by
  unfold joinedFacts
  rw [enters, lifts_no, make_cut]
  kernel_rfl

theorem proved : Rows.FnHaveUptoSaid :=
  OpenClaim.holds_of_cond 4 Try.f4 rfl rfl rfl rfl rfl rfl rfl ⟨rfl, rfl, rfl, rfl, rfl⟩ rfl rfl rfl rfl rfl (by kernel_rfl) Try.func4 closed
    (of_decide_eq_true (by kernel_rfl)) (by unfold Func.isWrapper; rw [if_neg (of_decide_eq_false (by kernel_rfl))]; exact ⟨rfl, rfl⟩)
    (fun os started H enc _ F => lifted os started H enc F)
end Go.Proofs.Ytgdfbnedmifjlaa.fnHave
