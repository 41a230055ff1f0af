/- FnShort: a line of at most 75 bytes that may all stand for themselves stays as it is, whatever comes in. -/
import Derived.Test.YtgdfbnedmifjlaaDecode
import Derived.Test.YtgdfbnedmifjlaaFull
import Derived.Test.YtgdfbnedmifjlaaHead
namespace Go.Proofs.Ytgdfbnedmifjlaa.fnShort
open Go.RowKit Go.ChangeShapes Go.WideShapes Go.ChangeAt

/-- The bytes before the place may all stand for themselves. -/
def Good (l : List UInt8) (k : Nat) : Prop := ∀ j (h : j < l.length), j < k → Qp.lit l[j] = true ∨ (Qp.blank l[j] = true ∧ j + 1 ≠ l.length)
theorem Good.next {l : List UInt8} {k : Nat} (h : Good l k) (x : UInt8) (hx : l[k]? = some x) (g : Qp.lit x = true ∨ (Qp.blank x = true ∧ k + 1 ≠ l.length)) : Good l (k + 1) := by
  intro j hj hjk
  rcases Nat.lt_or_ge j k with h1 | h1
  · exact h j hj h1
  · have : j = k := by omega
    subst this
    rw [List.getElem?_eq_getElem hj] at hx
    injection hx with hx
    rw [hx]; exact g
theorem Good.all {l : List UInt8} (h : Good l l.length) (bin : Bool) (hl : l.length ≤ 75) : Qp.enc bin l = l := by
  refine Qp.enc_short bin l hl fun l1 b l2 e => ?_
  have := h l1.length (by rw [e]; simp) (by rw [e]; simp)
  have e2 : l[l1.length]'(by rw [e]; simp) = b := by simp [e]
  rw [e2] at this
  rcases this with g | ⟨g, g'⟩
  · exact .inl g
  · refine .inr ⟨g, fun e3 => g' ?_⟩
    rw [e, e3]; simp

set_option maxHeartbeats 2000000 in
theorem walk (w : World) (bin : Bool) (u : Value) (l : List UInt8) (hr : Rd w 1 u l.length (l.map bv)) (hl : l.length ≤ 9223372036854775807) : Calls Try.prog 22 #[.bool bin, u] w (Yes w) := by
  have HC1 := Lib.hid (fun h => Encode_bytes w bin u l hr h)
  obtain ⟨A, c, rfl, _⟩ := hr.shape
  have HR := Lib.hid hr
  clear hr
  go_enter Try.func22, Try.ntmps22
  go_wp2_with fail
  go_loop [9] (fun i => ∃ k : Nat, k ≤ l.length ∧ i = .int .i64 k ∧ Good l k) (fun i => l.length - (intOf i).toNat)
  case atStart => exact ⟨0, Nat.zero_le _, rfl, fun j _ h => absurd h (by omega)⟩
  case round =>
    obtain ⟨k, hk, rfl, hgood⟩ := hrel
    by_cases hkl : k < l.length
    · obtain ⟨ab, ao, rfl, _, hcell⟩ := HR.out.byte hkl
      have c1 := hcell k hkl
      have hx : l[k]? = some l[k] := List.getElem?_eq_getElem hkl
      generalize l[k] = x at *
      have HG := Lib.hid hgood
      have HX := Lib.hid hx
      clear hgood hx hcell
      cases hlit : Qp.lit x with
      | true =>
        have HN := Lib.hid (Good.next HG.out x HX.out (.inl hlit))
        have HL := Lib.hid (Lit_yes x w hlit)
        clear hlit
        go_wp2_with fail
        refine HL.out.mono ?_
        rintro e w' ⟨rfl, rfl⟩
        go_wp2_with fail
        go_round
        case rel => exact ⟨k + 1, by omega, by go_num, HN.out⟩
        case measure => simp [intOf]; omega
      | false =>
        have HL := Lib.hid (Lit_no x w hlit)
        clear hlit
        cases hbl : Qp.blank x with
        | false =>
          have HBL := Lib.hid (Blank_no x w hbl)
          clear hbl
          go_wp2_with fail
          refine HL.out.mono ?_
          rintro e w' ⟨rfl, rfl⟩
          go_wp2_with fail
          refine HBL.out.mono ?_
          rintro e w' ⟨rfl, rfl⟩
          go_wp2
          go_ret
          exact ⟨rfl, Below.refl _ _⟩
        | true =>
          have HBL := Lib.hid (Blank_yes x w hbl)
          by_cases hlast : k + 1 = l.length
          · have hq : ((k : Int) == (l.length : Int) - 1) = true := by simp; omega
            clear hbl
            go_wp2_with fail
            refine HL.out.mono ?_
            rintro e w' ⟨rfl, rfl⟩
            go_wp2_with fail
            refine HBL.out.mono ?_
            rintro e w' ⟨rfl, rfl⟩
            go_wp2
            go_ret
            exact ⟨rfl, Below.refl _ _⟩
          · have hq : ((k : Int) == (l.length : Int) - 1) = false := by simp; omega
            have HN := Lib.hid (Good.next HG.out x HX.out (.inr ⟨hbl, hlast⟩))
            clear hbl
            go_wp2_with fail
            refine HL.out.mono ?_
            rintro e w' ⟨rfl, rfl⟩
            go_wp2_with fail
            refine HBL.out.mono ?_
            rintro e w' ⟨rfl, rfl⟩
            go_wp2_with fail
            go_round
            case rel => exact ⟨k + 1, by omega, by go_num, HN.out⟩
            case measure => simp [intOf]; omega
    · have hke : k = l.length := by omega
      subst hke
      by_cases h75 : l.length ≤ 75
      · have HE := Lib.hid (hgood.all bin h75)
        have HC := Lib.hid (HC1.out (by omega))
        rw [HE.out] at HC
        clear hgood
        go_wp2_with fail
        refine HC.out.mono ?_
        intro e w1 h
        obtain ⟨xA, xc, rfl, _, hx, hb1⟩ := h
        have HS := Lib.hid (Same_yes w1 _ _ l l hx (HR.out.keep hb1) rfl)
        have HB := Lib.hid hb1
        clear hx hb1
        go_wp2_with fail
        refine HS.out.mono ?_
        rintro e w' ⟨rfl, rfl⟩
        go_wp2
        go_ret
        exact ⟨rfl, HB.out⟩
      · clear hgood
        go_wp2
        go_ret
        exact ⟨rfl, Below.refl _ _⟩

theorem contract (H : Type) (enc : TypeId × Value → H) (W : World) (base : Nat) (args : Array Value) (ds gs : List (DataW H)) (before : List MemPlace)
    (hval : ∀ (j : Nat) t v, Try.f22.params[j]? = some t → args[j]? = some v → Value.okWide Try.prog W .any base t v)
    (hW : DataW.Whole enc Try.prog Try.f22.params.toList Rows.fnShortSpec.vars false W args.toList ds gs before) :
    Calls Try.prog 22 args W fun e W' => ∃ v, e = .returned v ∧ Rows.fnShortSpec.post enc Try.prog Try.f22 false true false false W args v W' := by
  have hW' := hW
  have hlt := hW.lt
  obtain ⟨p, q, hA0, hV, rfl, _, _⟩ := hW
  have hA : DataW.TrodAll enc Try.prog W 0 (fun _ => true) true Try.f22.params.toList args.toList ds p := hA0
  rw [Try.params22] at hA hval
  obtain ⟨v0, vs0, d0, ds0, p0, q0, hargs, rfl, rfl, h0, r0⟩ := trodAll_cons hA
  obtain ⟨v1, vs1, d1, ds1, p1, q1, rfl, rfl, rfl, h1, r1⟩ := trodAll_cons r0
  obtain ⟨rfl, rfl, rfl⟩ := trodAll_nil r1
  obtain rfl : args = #[v0, v1] := by cases args; simp_all
  obtain ⟨rfl, rfl⟩ := trodVars_none hV
  obtain ⟨a0, rfl, _, _⟩ := open_bool Try.underlying4 (hval 0 4 v0 rfl rfl) h0
  obtain ⟨l1, g1, b1⟩ := open_bytes (hval 1 24 v1 rfl rfl) h1 (fun y hy => hlt y (by simp [hy]))
  refine (walk W a0 v1 l1 g1 (okWide_len g1 (hval 1 24 v1 rfl rfl))).mono fun e W' ⟨he, hg⟩ => ?_
  subst he
  exact ⟨_, rfl, law_post hW' rfl rfl rfl rfl rfl (by rw [Try.params22]; intro t ht; simp at ht; rcases ht with rfl | rfl <;> exact ⟨by kernel_rfl, of_decide_eq_true (by kernel_rfl)⟩) hg⟩

set_option maxRecDepth 100000 in
theorem lifted (os : Os) (started : os.Started) (H : Type) (enc : TypeId × Value → H) :
    ReturnsInHanded {} Try.checked os 22 .any (Rows.fnShortSpec.pre6 enc Try.prog Try.f22 Rows.fnShortRow.domain false) (Rows.fnShortSpec.post enc Try.prog Try.f22 false true false false) := by
  refine returnsInHanded_of_change (C := Try.checked) Try.ownk started (by kernel_rfl) Try.func22
    (ChangeSpec.witness6 (enc := enc) (C := Try.checked) false ⟨#[], #[.bool false, .slice none 0 0], []⟩ 8 (by kernel_rfl) (by kernel_rfl) (by kernel_rfl) (by kernel_rfl)) ?_
  intro W base args ds gs before hval hW _ _
  exact contract H enc W base args ds gs before hval hW

theorem closed : joinedFacts Try.prog 22 Try.f22 Rows.fnShortSpec Rows.fnShortRow = true := by
  unfold joinedFacts
  rw [enters, lifts_no, make_cut]
  kernel_rfl

theorem proved : Rows.FnShortSaid :=
  OpenClaim.holds_of_wide 22 Try.f22 rfl rfl rfl rfl rfl rfl rfl ⟨rfl, rfl, rfl, rfl, rfl⟩ rfl rfl rfl rfl rfl (by kernel_rfl) Try.func22 closed
    (of_decide_eq_true (by kernel_rfl)) (by unfold Func.isWrapper; rw [if_neg (of_decide_eq_false (by kernel_rfl))]; exact ⟨rfl, rfl⟩)
    (fun os started H enc _ => lifted os started H enc)
end Go.Proofs.Ytgdfbnedmifjlaa.fnShort
