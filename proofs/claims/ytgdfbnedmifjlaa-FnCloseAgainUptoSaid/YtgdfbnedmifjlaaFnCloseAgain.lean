/- FnCloseAgain: a second Close does not fail, and adds nothing, where what comes in is of bulk at most 1048576. -/
import Derived.Test.YtgdfbnedmifjlaaSpecB
import Derived.Test.YtgdfbnedmifjlaaHead
namespace Go.Proofs.Ytgdfbnedmifjlaa.fnCloseAgain
open Go.RowKit Go.ChangeShapes Go.WideShapes Go.ChangeAt

def script (l : List UInt8) : List Qp.Stp := [⟨false, l⟩, ⟨true, []⟩, ⟨true, []⟩]
theorem steps_three (w : World) (d : Value) (l : List UInt8) (h : Rd w 1 d l.length (l.map bv)) :
    Steps (w.alloc (.cells #[.bool false, d, .bool true, .slice none 0 0, .bool true, .slice none 0 0] 26)) (.slice (some ⟨w.heap.size, 0, none⟩) 3 3) (script l) := by
  refine ⟨[d, .slice none 0 0, .slice none 0 0], rfl, ⟨rfl, .inr ⟨_, _, rfl, Nat.le_refl _, fun _ => ⟨rfl, by simp, fun j u hu => ?_⟩⟩⟩, ?_⟩
  · have := (Blk.new w 26 #[.bool false, d, .bool true, .slice none 0 0, .bool true, .slice none 0 0]).cell (0 + j)
    rw [this, ← hu]; simp [stepCells, script]
  · intro i e x h1 h2
    match i with
    | 0 => simp [script] at h1 h2; subst h1 h2; exact h.alloc _
    | 1 => simp [script] at h1 h2; subst h1 h2; exact rd_nil _
    | 2 => simp [script] at h1 h2; subst h1 h2; exact rd_nil _
    | i + 3 => simp at h1
theorem close_again (s : Qp.St) (h1 : s.bad = false) (h2 : s.buf = []) : Qp.close none s = s := by
  obtain ⟨buf, cr, got, bad⟩ := s
  simp at h1 h2
  subst h1 h2
  simp [Qp.close, Qp.checkLast, Qp.flush, Qp.over]
theorem end_again (bin : Bool) (l : List UInt8) : Qp.endP none bin Qp.st0 (script l) = Qp.close none (Qp.write none bin Qp.st0 l) := by
  obtain ⟨h1, h2, _⟩ := Qp.run_none bin l Qp.st0 [] [] rfl rfl
  show Qp.close none (Qp.close none (Qp.write none bin Qp.st0 l)) = _
  rw [close_again _ h1 h2]
theorem end_good (bin : Bool) (l : List UInt8) : (Qp.close none (Qp.write none bin Qp.st0 l)).bad = false := (Qp.run_none bin l Qp.st0 [] [] rfl rfl).1

/-- What Run's answers say. -/
theorem answers {w w1 : World} {bin : Bool} {l : List UInt8} {e : Ending} (h : RunPost w bin none (script l) e w1) :
    ∃ A c gb go gc n1 n2, e = .returned (.tuple #[.slice A (Qp.enc bin l).length c, .slice (some ⟨gb, go, none⟩) 3 gc]) ∧ Rd w1 1 (.slice A (Qp.enc bin l).length c) (Qp.enc bin l).length ((Qp.enc bin l).map bv) ∧
      Below w.heap.size w w1 ∧ w1.cell? ⟨gb, go + 3, none⟩ = some n1 ∧ w1.cell? ⟨gb, go + 4, none⟩ = some (.bool false) ∧ w1.cell? ⟨gb, go + 5, none⟩ = some (.int .i64 ((Qp.enc bin l).length : Int)) ∧
      w1.cell? ⟨gb, go + 6, none⟩ = some n2 ∧ w1.cell? ⟨gb, go + 7, none⟩ = some (.bool false) ∧ gb < w1.heap.size := by
  obtain ⟨v, va, al, rfl, g1, g2, g3, _, g4, g5, _⟩ := h
  rw [end_again] at g1
  have hlen : al.length = 3 := g4 (by rw [end_again]; exact end_good bin l)
  have r1 := Rd.of_own g1
  obtain ⟨A, c, rfl, _⟩ := r1.shape
  have r2 := Rd.of_own g2
  rw [hlen] at r2
  obtain ⟨A2, c2, rfl, _⟩ := r2.shape
  obtain ⟨gb, go, rfl, hgb, hcell⟩ := r2.get (k := 0) (by omega)
  match al, hlen with
  | [a0, a1, a2], _ =>
    obtain ⟨⟨k1, k2, _⟩, _⟩ := g5 1 a1 ⟨true, []⟩ rfl rfl
    obtain ⟨⟨k3, k4, _⟩, _⟩ := g5 2 a2 ⟨true, []⟩ rfl rfl
    have e1 : Qp.endP none bin Qp.st0 ((script l).take 2) = Qp.close none (Qp.write none bin Qp.st0 l) := rfl
    have e2 : Qp.endP none bin Qp.st0 ((script l).take 3) = Qp.close none (Qp.write none bin Qp.st0 l) := end_again bin l
    rw [e1, end_good] at k1
    rw [e1] at k2
    rw [e2, end_good] at k3
    refine ⟨A, c, gb, go, c2, _, _, rfl, r1, g3, hcell 3 _ rfl, ?_, ?_, hcell 6 _ rfl, ?_, hgb⟩
    · rw [hcell 4 _ rfl, k1]
    · rw [hcell 5 _ rfl, k2]; rfl
    · rw [hcell 7 _ rfl, k3]

set_option maxHeartbeats 2000000 in
theorem walk (w : World) (bin : Bool) (u : Value) (l : List UInt8) (hr : Rd w 1 u l.length (l.map bv)) (hl : l.length ≤ 1048576) : Calls Try.prog 13 #[.bool bin, u] w (Yes w) := by
  have hpos := Qp.enc_pos bin l
  have hle := (Qp.enc_len bin l).2
  obtain ⟨A, c, rfl, _⟩ := hr.shape
  have hS := steps_three w _ l hr
  have HC1 := Lib.hid (Run_calls _ bin _ _ hS (by simp [script, tot]; omega))
  have HC2 := Lib.hid (fun w1 (h : Below w.heap.size w w1) => Encode_bytes w1 bin _ l (hr.keep h) (by omega))
  have HB0 := Lib.hid ((Below.refl w.heap.size w).alloc (Nat.le_refl _) (.cells #[.bool false, .slice A l.length c, .bool true, .slice none 0 0, .bool true, .slice none 0 0] 26))
  clear hr hS
  go_enter Try.func13, Try.ntmps13
  go_wp2_with fail
  refine HC1.out.mono ?_
  intro e w1 h
  obtain ⟨xA, xc, gb, go, gc, n1, n2, rfl, hx, hb1, c3, c4, c5, c6, c7, hgb⟩ := answers h
  have HX := Lib.hid hx
  have HB1 := Lib.hid (bel_old HB0.out hb1)
  clear hx hb1 h HB0
  generalize hxe : Qp.enc bin l = x at *
  clear hxe
  have HCell := Lib.hid c5
  clear c3 c5 c6
  go_wp2_with fail
  refine (HC2.out w1 HB1.out).mono ?_
  intro e w2 h
  obtain ⟨yA, yc, rfl, _, hy, hb2⟩ := h
  have HS := Lib.hid (Same_yes w2 _ _ x x (HX.out.keep hb2) hy rfl)
  have HB := Lib.hid (bel_old HB1.out hb2)
  have k5 := (hb2.cell (p := ⟨gb, go + 5, none⟩) hgb).trans HCell.out
  clear hy hb2
  go_wp2_with fail
  refine HS.out.mono ?_
  rintro e w' ⟨rfl, rfl⟩
  by_cases hp : 0 < x.length
  · have hp' : (0 : Int) < (x.length : Int) := by omega
    clear hpos
    go_wp2
    go_ret
    exact ⟨rfl, HB.out⟩
  · have hp' : ¬ (0 : Int) < (x.length : Int) := by omega
    have ha0 : l.length ≤ 0 := by omega
    clear hpos
    go_wp2
    go_ret
    exact Yes.of (len_zero ha0) HB.out

theorem contract (H : Type) (enc : TypeId × Value → H) (W : World) (base : Nat) (args : Array Value) (ds gs : List (DataW H)) (before : List MemPlace)
    (hval : ∀ (j : Nat) t v, Try.f13.params[j]? = some t → args[j]? = some v → Value.okWide Try.prog W .any base t v)
    (hW : DataW.Whole enc Try.prog Try.f13.params.toList Rows.fnCloseAgainSpec.vars false W args.toList ds gs before) (hk : Rows.uptoSmall H (ds ++ gs) = true) :
    Calls Try.prog 13 args W fun e W' => ∃ v, e = .returned v ∧ Rows.fnCloseAgainSpec.post enc Try.prog Try.f13 false true false false W args v W' := by
  have hW' := hW
  have hlt := hW.lt
  obtain ⟨p, q, hA0, hV, rfl, _, _⟩ := hW
  have hA : DataW.TrodAll enc Try.prog W 0 (fun _ => true) true Try.f13.params.toList args.toList ds p := hA0
  rw [Try.params13] at hA hval
  obtain ⟨v0, vs0, d0, ds0, p0, q0, hargs, rfl, rfl, h0, r0⟩ := trodAll_cons hA
  obtain ⟨v1, vs1, d1, ds1, p1, q1, rfl, rfl, rfl, h1, r1⟩ := trodAll_cons r0
  obtain ⟨rfl, rfl, rfl⟩ := trodAll_nil r1
  obtain rfl : args = #[v0, v1] := by cases args; simp_all
  obtain ⟨rfl, rfl⟩ := trodVars_none hV
  have hbulk := bulk_of hk
  obtain ⟨a0, rfl, _, _⟩ := open_bool Try.underlying4 (hval 0 4 v0 rfl rfl) h0
  obtain ⟨l1, g1, b1⟩ := open_bytes (hval 1 24 v1 rfl rfl) h1 (fun y hy => hlt y (by simp [hy]))
  simp only [List.append_nil, Rows.uptoBulkAll] at hbulk
  refine (walk W a0 v1 l1 g1 (by omega)).mono fun e W' ⟨he, hg⟩ => ?_
  subst he
  exact ⟨_, rfl, law_post hW' rfl rfl rfl rfl rfl (by rw [Try.params13]; intro t ht; simp at ht; rcases ht with rfl | rfl <;> exact ⟨by kernel_rfl, of_decide_eq_true (by kernel_rfl)⟩) hg⟩

set_option maxRecDepth 100000 in
theorem lifted (os : Os) (started : os.Started) (H : Type) (enc : TypeId × Value → H) (F : Stop.Interp) :
    ReturnsInHanded {} Try.checked os 13 .any ((Rows.OpenSpec.upto Rows.fnCloseAgainSpec).pre6 enc Try.prog Try.f13 Rows.fnCloseAgainUptoRow.domain false) (((Rows.OpenSpec.upto Rows.fnCloseAgainSpec).at F).post enc Try.prog Try.f13 false true false false) := by
  refine returnsInHanded_of_cond (C := Try.checked) (s := Rows.OpenSpec.upto Rows.fnCloseAgainSpec) (k := Rows.uptoSmall) rfl Try.ownk started (by kernel_rfl) Try.func13
    (OpenSpec.witness (enc := enc) (C := Try.checked) (s := Rows.OpenSpec.upto Rows.fnCloseAgainSpec) (k := Rows.uptoSmall) rfl false ⟨#[], #[.bool false, .slice none 0 0], []⟩ 8 (by kernel_rfl) (by kernel_rfl) (by kernel_rfl)
      (x := ([.lit (.bool false), .nil], [], [])) (by kernel_rfl) rfl (by kernel_rfl)) ?_
  intro W base args ds gs before hval hW _ hk _
  exact contract H enc W base args ds gs before hval hW hk

theorem closed : joinedFacts Try.prog 13 Try.f13 (Rows.OpenSpec.upto Rows.fnCloseAgainSpec).bare Rows.fnCloseAgainUptoRow = true := by
  unfold joinedFacts
  rw [enters, lifts_no, make_cut]
  kernel_rfl

theorem proved : Rows.FnCloseAgainUptoSaid :=
  OpenClaim.holds_of_cond 13 Try.f13 rfl rfl rfl rfl rfl rfl rfl ⟨rfl, rfl, rfl, rfl, rfl⟩ rfl rfl rfl rfl rfl (by kernel_rfl) Try.func13 closed
    (of_decide_eq_true (by kernel_rfl)) (by unfold Func.isWrapper; rw [if_neg (of_decide_eq_false (by kernel_rfl))]; exact ⟨rfl, rfl⟩)
    (fun os started H enc _ F => lifted os started H enc F)
end Go.Proofs.Ytgdfbnedmifjlaa.fnCloseAgain
