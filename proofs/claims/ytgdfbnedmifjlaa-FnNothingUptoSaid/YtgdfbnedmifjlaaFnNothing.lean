/- FnNothing: no bytes are nothing, however often they are written, and what is empty among parts changes nothing, where what comes in is of bulk at most 1048576. -/
import Derived.Test.YtgdfbnedmifjlaaGrow
import Derived.Test.YtgdfbnedmifjlaaPlainD
import Derived.Test.YtgdfbnedmifjlaaHead
namespace Go.Proofs.Ytgdfbnedmifjlaa.fnNothing
open Go.RowKit Go.ChangeShapes Go.WideShapes Go.ChangeAt

theorem rd_zero (w : World) (ad : Addr) (c : Nat) : Rd w 1 (.slice (some ad) 0 c) 0 [] := ⟨rfl, .inr ⟨_, _, rfl, Nat.zero_le _, fun h => absurd h (by decide)⟩⟩
theorem rd_cells (w : World) (cs : List Value) (t : TypeId) (n : Nat) (hn : cs.length = n) (g : Nat) (hg : w.heap.size = g) : Rd (w.alloc (.cells cs.toArray t)) 1 (.slice (some ⟨g, 0, none⟩) n n) n cs := by
  subst hg hn
  refine ⟨by simp, .inr ⟨_, _, rfl, Nat.le_refl _, fun _ => ⟨rfl, by simp, fun j u hu => ?_⟩⟩⟩
  have := (Blk.new w t cs.toArray).cell (0 + j)
  rw [this, ← hu]; simp
def Apart (a b : Value) : Prop := ∀ k, a.ownBlock = some k → b.ownBlock ≠ some k
theorem Apart.symm {a b : Value} (h : Apart a b) : Apart b a := fun k h1 h2 => h k h2 h1
theorem grow_apart {w wr x1 w1 : World} {ve vm ve' : Value} {n m : Nat} {ds es : List Value} (hb : Below w.heap.size w wr) (he : wr.ownsRow w.heap.size 24 1 ve n ds) (hm : wr.ownsRow w.heap.size 24 1 vm m es) (ha : Apart ve vm)
    (hx : Below wr.heap.size wr x1) (hg : x1.grownBy w1 ve.ownBlock) (hat : ve'.ownBlock = ve.ownBlock ∨ ve'.ownBlock = some x1.heap.size) :
    w1.ownsRow w.heap.size 24 1 vm m es ∧ Apart ve' vm ∧ Below w.heap.size w w1 := by
  refine ⟨?_, ?_, ?_⟩
  · refine Only.own (S := fun i => ve.ownBlock = some i) ⟨hg.os, hg.tape, hg.output, hg.size, fun i hi hn => hg.block i hi (fun h => hn h.symm)⟩ (own_keep hm hx) (fun k hk h2 => ha k h2 hk)
  · intro k h1 h2
    rcases hat with h | h
    · rw [h] at h1; exact ha k h1 h2
    · rw [h] at h1
      injection h1 with h1
      have := (hm.lt k h2).2
      have := hx.size
      omega
  · exact (bel_old hb hx).grown hg (bel_old hb hx).size (fun i hi => (he.lt i hi).1)

def em (ps : List (List UInt8)) : List (List UInt8) := ps.map fun _ => []
def mo (ps : List (List UInt8)) : List (List UInt8) := ps.flatMap fun p => [[], p, []]
theorem em_ptot (ps : List (List UInt8)) : ptot (em ps) ≤ ptot ps := by
  induction ps with
  | nil => simp [em, ptot]
  | cons p ps ih => simp only [em, List.map_cons, ptot, List.length_nil] at ih ⊢; omega
theorem mo_ptot (ps : List (List UInt8)) : ptot (mo ps) ≤ 3 * ptot ps := by
  induction ps with
  | nil => simp [mo, ptot]
  | cons p ps ih =>
    have e : mo (p :: ps) = [] :: p :: [] :: mo ps := by simp [mo]
    rw [e]
    simp only [ptot, List.length_nil]; omega
theorem em_len (ps : List (List UInt8)) : (em ps).length = ps.length := by simp [em]
theorem mo_len (ps : List (List UInt8)) : (mo ps).length = 3 * ps.length := by
  induction ps with
  | nil => rfl
  | cons p ps ih =>
    have e : mo (p :: ps) = [] :: p :: [] :: mo ps := by simp [mo]
    rw [e]
    simp only [List.length_cons, ih]; omega
theorem em_succ (ps : List (List UInt8)) (k : Nat) (p : List UInt8) (h : ps[k]? = some p) : em (ps.take (k + 1)) = em (ps.take k) ++ [[]] := by
  rw [List.take_add_one, h]; simp [em]
theorem mo_succ (ps : List (List UInt8)) (k : Nat) (p : List UInt8) (h : ps[k]? = some p) : mo (ps.take (k + 1)) = mo (ps.take k) ++ [[], p, []] := by
  rw [List.take_add_one, h]; simp [mo]

/-- What holds at the head of each round. -/
def NRel (w : World) (ps : List (List UInt8)) (k : Nat) (ve vm : Value) (wr : World) : Prop :=
  Below w.heap.size w wr ∧ VRow w wr ve (em (ps.take k)) ∧ VRow w wr vm (mo (ps.take k)) ∧ Apart ve vm
theorem NRel.start (w : World) (ps : List (List UInt8)) : NRel w ps 0 (.slice (some ⟨w.heap.size, 0, none⟩) 0 0) (.slice (some ⟨w.heap.size + 1, 0, none⟩) 0 0) ((w.alloc (.cells #[] 24)).alloc (.cells #[] 24)) := by
  have h2 : ((w.alloc (.cells #[] 24)).alloc (.cells #[] 24)).ownsRow w.heap.size 24 1 (.slice (some ⟨w.heap.size + 1, 0, none⟩) 0 0) 0 [] := by
    have := own_empty (w.alloc (.cells #[] 24)) 24 1
    have := own_base this (base' := w.heap.size) (by simp)
    simpa using this
  refine ⟨((Below.refl _ _).alloc (Nat.le_refl _) _).alloc (by simp) _, ⟨[], rfl, own_keep (own_empty w 24 1) ((Below.refl _ _).alloc (Nat.le_refl _) _), fun i d q h => by simp at h⟩, ⟨[], rfl, h2, fun i d q h => by simp at h⟩, ?_⟩
  intro k h1 h2
  simp [Value.ownBlock] at h1 h2
  omega

set_option maxHeartbeats 4000000 in
theorem walk (w : World) (bin : Bool) (pv : Value) (ps : List (List UInt8)) (hp : Parts w pv ps) (ht : ptot ps ≤ 1048576) : Calls Try.prog 5 #[.bool bin, pv] w (Yes w) := by
  obtain ⟨i0, hi, hz0, hz1, hz2⟩ := info_parts info24
  have hpl := ptot_len ps
  have hpos := Qp.enc_pos bin ps.flatten
  have HP := Lib.hid hp
  obtain ⟨ds, hds, hrd, hdat⟩ := hp
  obtain ⟨A, c, rfl, hc⟩ := hrd.shape
  have HD := Lib.hid hdat
  have HR := Lib.hid hrd
  have HDS := Lib.hid hds
  have HST := Lib.hid (NRel.start w ps)
  have HPos := Lib.hid hpos
  clear hdat hrd hds hpos
  go_enter Try.func5, Try.ntmps5
  go_wp2_with fail
  go_loopw [5, 6, 14] (fun ve vm i wr => ∃ k : Nat, k ≤ ps.length ∧ i = .int .i64 k ∧ NRel w ps k ve vm wr) (fun _ _ i _ => ps.length - (intOf i).toNat)
  case atStart => exact ⟨0, Nat.zero_le _, rfl, HST.out⟩
  case round =>
    obtain ⟨k, hk, rfl, hbel, ⟨es, e1, e2, e3⟩, ⟨ms, m1, m2, m3⟩, hap⟩ := hrel
    clear HST
    by_cases hkl : k < ps.length
    · obtain ⟨ab, ao, rfl, hab, hcell⟩ := (HR.out.keep hbel).get hkl
      obtain ⟨p, hp⟩ : ∃ p, ps[k]? = some p := ⟨ps[k], by simp [hkl]⟩
      obtain ⟨d, hd⟩ : ∃ d, ds[k]? = some d := ⟨ds[k]'(by rw [HDS.out]; exact hkl), by rw [List.getElem?_eq_getElem]⟩
      have c1 := hcell k d hd
      have hrp := HD.out k d p hd hp
      obtain ⟨dA, dc, rfl, _⟩ := hrp.shape
      have hel : (em (ps.take k)).length ≤ k := by rw [em_len]; simp; omega
      have hml : (mo (ps.take k)).length ≤ 3 * k := by rw [mo_len]; simp; omega
      have hsz := hbel.size
      have hes := em_succ ps k p hp
      have hms := mo_succ ps k p hp
      have HE := Lib.hid (And.intro e1 (And.intro e2 e3))
      have HM := Lib.hid (And.intro m1 (And.intro m2 m3))
      have HB := Lib.hid hbel
      have HAp := Lib.hid hap
      have HES := Lib.hid hes
      have HMS := Lib.hid hms
      have HRP := Lib.hid hrp
      clear hcell hp hd e1 e2 e3 m1 m2 m3 hbel hap hes hms hrp
      generalize em (ps.take k) = el at *
      generalize mo (ps.take k) = ml at *
      have hx1 : Below wr.heap.size wr ((wr.alloc (.cells #[] 5)).alloc (.cells #[.slice (some ⟨wr.heap.size, 0, none⟩) 0 0] 24)) := ((Below.refl _ _).alloc (Nat.le_refl _) _).alloc (by simp) _
      have HX1 := Lib.hid hx1
      have HR1 := Lib.hid (rd_cells (wr.alloc (.cells #[] 5)) [.slice (some ⟨wr.heap.size, 0, none⟩) 0 0] 24 1 rfl (wr.heap.size + 1) (by simp))
      clear hx1
      go_wp2_with (at_builtin; refine wpList_app _ rfl (.tmp 18) (.tmp 20) 22 rfl w.heap.size 24 i0 (.slice none 0 0) 1 24 Try.underlying22 hi hz0 hz1 hz2 rfl (by decide) u5 el.length es rfl (own_keep HE.out.2.1 HX1.out) (.slice (some ⟨wr.heap.size + 1, 0, none⟩) 1 1) 1 [.slice (some ⟨wr.heap.size, 0, none⟩) 0 0] rfl HR1.out (by simp [Value.oneCell']) (by unfold maxLen; omega) (by omega) (by simp; omega) ?_)
      intro ve' w1 q1 q2 q3
      obtain ⟨n1, n2, n3⟩ := grow_apart HB.out HE.out.2.1 HM.out.2.1 HAp.out HX1.out q2 (by simpa using q3)
      have nv := VRow.one (q := []) HE.out.1 HE.out.2.2 (rd_zero w ⟨wr.heap.size, 0, none⟩ 0) q1
      have HVE := Lib.hid nv
      have HVM := Lib.hid n1
      have HA1 := Lib.hid n2
      have HB1 := Lib.hid n3
      have hsz1 := n3.size
      clear q1 q2 q3 n1 n2 n3 nv HX1 HR1 HB HAp HE
      have hx2 : Below w1.heap.size w1 (((w1.alloc (.cells #[] 5)).alloc (.cells #[] 5)).alloc (.cells #[.slice (some ⟨w1.heap.size, 0, none⟩) 0 0, .slice dA p.length dc, .slice (some ⟨w1.heap.size + 1, 0, none⟩) 0 0] 24)) := (((Below.refl _ _).alloc (Nat.le_refl _) _).alloc (by simp) _).alloc (by simp; omega) _
      have HX2 := Lib.hid hx2
      have HR2 := Lib.hid (rd_cells ((w1.alloc (.cells #[] 5)).alloc (.cells #[] 5)) [.slice (some ⟨w1.heap.size, 0, none⟩) 0 0, .slice dA p.length dc, .slice (some ⟨w1.heap.size + 1, 0, none⟩) 0 0] 24 3 rfl (w1.heap.size + 2) (by simp))
      clear hx2
      go_wp2_with (at_builtin; refine wpList_app _ rfl (.tmp 22) (.tmp 26) 22 rfl w.heap.size 24 i0 (.slice none 0 0) 1 24 Try.underlying22 hi hz0 hz1 hz2 rfl (by decide) u6 ml.length ms rfl (own_keep HVM.out HX2.out) (.slice (some ⟨w1.heap.size + 2, 0, none⟩) 3 3) 3 [.slice (some ⟨w1.heap.size, 0, none⟩) 0 0, .slice dA p.length dc, .slice (some ⟨w1.heap.size + 1, 0, none⟩) 0 0] rfl HR2.out (by simp [Value.oneCell']) (by unfold maxLen; omega) (by omega) (by simp; omega) ?_)
      intro vm' w2 q1 q2 q3
      obtain ⟨ds1, r1, r2, r3⟩ := HVE.out
      obtain ⟨n1, n2, n3⟩ := grow_apart HB1.out HVM.out r2 HA1.out.symm HX2.out q2 (by simpa using q3)
      have nm : VRow w w2 vm' (ml ++ [[], p, []]) := VRow.more HM.out.1 HM.out.2.2 rfl (fun i d' q' g1 g2 => by
        match i with
        | 0 => simp at g1 g2; subst g1 g2; exact rd_zero w _ _
        | 1 => simp at g1 g2; subst g1 g2; exact HRP.out
        | 2 => simp at g1 g2; subst g1 g2; exact rd_zero w _ _
        | i + 3 => simp at g1) q1
      have hN : NRel w ps (k + 1) ve' vm' w2 := ⟨n3, by rw [HES.out]; exact ⟨ds1, r1, n1, r3⟩, by rw [HMS.out]; exact nm, n2.symm⟩
      have HN := Lib.hid hN
      clear q1 q2 q3 n1 n2 n3 nm r1 r2 r3 hN HX2 HR2 HVE HVM HA1 HB1 HM
      go_wp2
      go_roundw
      case rel => exact ⟨k + 1, by omega, by go_num, HN.out⟩
      case measure => simp [intOf]; omega
    · have hke : k = ps.length := by omega
      subst hke
      rw [List.take_length] at e1 e2 e3 m1 m2 m3
      have hpe : Parts wr u5 (em ps) := VRow.parts ⟨es, e1, e2, e3⟩ hbel
      have hpm : Parts wr u6 (mo ps) := VRow.parts ⟨ms, m1, m2, m3⟩ hbel
      have h1 := em_ptot ps
      have h2 := mo_ptot ps
      have HC1 := Lib.hid (EncodeParts_calls wr bin _ ps (HP.out.keep hbel) (by omega))
      have HC2 := Lib.hid (fun w' (h : Below wr.heap.size wr w') => EncodeParts_calls w' bin u5 (em ps) (hpe.keep h) (by omega))
      have HC3 := Lib.hid (fun w' (h : Below wr.heap.size wr w') => EncodeParts_calls w' bin u6 (mo ps) (hpm.keep h) (by omega))
      have HC4 := Lib.hid (fun w' (h : Below wr.heap.size wr w') => Whole_calls w' _ ps ((HP.out.keep hbel).keep h) (by omega))
      have f1 : (em ps).flatten = [] := Qp.flat_none ps
      have f2 : (mo ps).flatten = ps.flatten := Qp.flat_more ps
      rw [f1, Qp.enc_nil] at HC2
      rw [f2] at HC3
      have HB := Lib.hid hbel
      clear e1 e2 e3 m1 m2 m3 hbel hap hpe hpm h1 h2 f1 f2
      generalize Qp.enc bin ps.flatten = x at *
      generalize ps.flatten = whole at *
      go_wp2_with fail
      refine HC1.out.mono ?_
      intro e w1 h
      obtain ⟨xA, xc, rfl, _, hx, hb1⟩ := h
      have HX := Lib.hid hx
      have HB1 := Lib.hid hb1
      clear hx hb1
      go_wp2_with fail
      refine (HC2.out w1 HB1.out).mono ?_
      intro e w2 h
      obtain ⟨yA, yc, rfl, _, _, hb2⟩ := h
      have HB2 := Lib.hid (bel_old HB1.out hb2)
      have HX2 := Lib.hid (HX.out.keep hb2)
      clear hb2 HX
      go_wp2_with fail
      refine (HC3.out w2 HB2.out).mono ?_
      intro e w3 h
      obtain ⟨zA, zc, rfl, _, hz, hb3⟩ := h
      have HB3 := Lib.hid (bel_old HB2.out hb3)
      have HS := Lib.hid (Same_yes w3 _ _ x x hz (HX2.out.keep hb3) rfl)
      clear hz hb3 HX2
      go_wp2_with fail
      refine HS.out.mono ?_
      rintro e w' ⟨rfl, rfl⟩
      by_cases hp : 0 < x.length
      · have hp' : (0 : Int) < (x.length : Int) := by omega
        go_wp2
        go_ret
        exact ⟨rfl, bel_old HB.out HB3.out⟩
      · have hp' : ¬ (0 : Int) < (x.length : Int) := by omega
        have ha0 : whole.length ≤ 0 := by have := HPos.out; omega
        go_wp2_with fail
        refine (HC4.out w3 HB3.out).mono ?_
        intro e w4 h
        obtain ⟨tA, tc, rfl, _, _, hb4⟩ := h
        have HB4 := Lib.hid (bel_old (bel_old HB.out HB3.out) hb4)
        clear hb4
        go_wp2
        go_ret
        exact Yes.of (len_zero ha0) HB4.out

theorem contract (H : Type) (enc : TypeId × Value → H) (W : World) (base : Nat) (args : Array Value) (ds gs : List (DataW H)) (before : List MemPlace)
    (hval : ∀ (j : Nat) t v, Try.f5.params[j]? = some t → args[j]? = some v → Value.okWide Try.prog W .any base t v)
    (hW : DataW.Whole enc Try.prog Try.f5.params.toList Rows.fnNothingSpec.vars false W args.toList ds gs before) (hk : Rows.uptoSmall H (ds ++ gs) = true) :
    Calls Try.prog 5 args W fun e W' => ∃ v, e = .returned v ∧ Rows.fnNothingSpec.post enc Try.prog Try.f5 false true false false W args v W' := by
  have hW' := hW
  have hlt := hW.lt
  obtain ⟨p, q, hA0, hV, rfl, _, _⟩ := hW
  have hA : DataW.TrodAll enc Try.prog W 0 (fun _ => true) true Try.f5.params.toList args.toList ds p := hA0
  rw [Try.params5] at hA hval
  obtain ⟨v0, vs0, d0, ds0, p0, q0, hargs, rfl, rfl, h0, r0⟩ := trodAll_cons hA
  obtain ⟨v1, vs1, d1, ds1, p1, q1, rfl, rfl, rfl, h1, r1⟩ := trodAll_cons r0
  obtain ⟨rfl, rfl, rfl⟩ := trodAll_nil r1
  obtain rfl : args = #[v0, v1] := by cases args; simp_all
  obtain ⟨rfl, rfl⟩ := trodVars_none hV
  have hbulk := bulk_of hk
  obtain ⟨a0, rfl, _, _⟩ := open_bool Try.underlying4 (hval 0 4 v0 rfl rfl) h0
  obtain ⟨l1, g1, b1⟩ := open_parts (hval 1 22 v1 rfl rfl) h1 (fun y hy => hlt y (by simp [hy]))
  simp only [List.append_nil, Rows.uptoBulkAll] at hbulk
  refine (walk W a0 v1 l1 g1 (by omega)).mono fun e W' ⟨he, hg⟩ => ?_
  subst he
  exact ⟨_, rfl, law_post hW' rfl rfl rfl rfl rfl (by rw [Try.params5]; intro t ht; simp at ht; rcases ht with rfl | rfl <;> exact ⟨by kernel_rfl, of_decide_eq_true (by kernel_rfl)⟩) hg⟩

set_option maxRecDepth 100000 in
theorem lifted (os : Os) (started : os.Started) (H : Type) (enc : TypeId × Value → H) (F : Stop.Interp) :
    ReturnsInHanded {} Try.checked os 5 .any ((Rows.OpenSpec.upto Rows.fnNothingSpec).pre6 enc Try.prog Try.f5 Rows.fnNothingUptoRow.domain false) (((Rows.OpenSpec.upto Rows.fnNothingSpec).at F).post enc Try.prog Try.f5 false true false false) := by
  refine returnsInHanded_of_cond (C := Try.checked) (s := Rows.OpenSpec.upto Rows.fnNothingSpec) (k := Rows.uptoSmall) rfl Try.ownk started (by kernel_rfl) Try.func5
    (OpenSpec.witness (enc := enc) (C := Try.checked) (s := Rows.OpenSpec.upto Rows.fnNothingSpec) (k := Rows.uptoSmall) rfl false ⟨#[], #[.bool false, .slice none 0 0], []⟩ 8 (by kernel_rfl) (by kernel_rfl) (by kernel_rfl)
      (x := ([.lit (.bool false), .nil], [], [])) (by kernel_rfl) rfl (by kernel_rfl)) ?_
  intro W base args ds gs before hval hW _ hk _
  exact contract H enc W base args ds gs before hval hW hk

theorem closed : joinedFacts Try.prog 5 Try.f5 (Rows.OpenSpec.upto Rows.fnNothingSpec).bare Rows.fnNothingUptoRow = true := by
  unfold joinedFacts
  rw [enters, lifts_no, make_cut]
  kernel_rfl

theorem proved : Rows.FnNothingUptoSaid :=
  OpenClaim.holds_of_cond 5 Try.f5 rfl rfl rfl rfl rfl rfl rfl ⟨rfl, rfl, rfl, rfl, rfl⟩ rfl rfl rfl rfl rfl (by kernel_rfl) Try.func5 closed
    (of_decide_eq_true (by kernel_rfl)) (by unfold Func.isWrapper; rw [if_neg (of_decide_eq_false (by kernel_rfl))]; exact ⟨rfl, rfl⟩)
    (fun os started H enc _ F => lifted os started H enc F)
end Go.Proofs.Ytgdfbnedmifjlaa.fnNothing
