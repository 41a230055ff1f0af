/- write of the writer: its loop over the bytes of a slice. -/
import Derived.Test.YtgdfbnedmifjlaaLast
import Derived.Test.YtgdfbnedmifjlaaBound
namespace Go.Proofs.Ytgdfbnedmifjlaa
open Go.RowKit

/-- The bytes of a slice, in a block that the writer leaves alone. -/
def Src (w : World) (b g : Nat) (v : Value) (A : Option Addr) (l : List UInt8) : Prop :=
  0 < l.length → ∃ pb po, A = some ⟨pb, po, none⟩ ∧ pb < w.heap.size ∧ pb ≠ b ∧ pb ≠ g ∧ v.ownBlock ≠ some pb ∧ ∀ j (h : j < l.length), w.cell? ⟨pb, po + j, none⟩ = some (bv l[j])
theorem Src.fr {w w' : World} {b g : Nat} {v v' : Value} {A : Option Addr} {l : List UInt8} (h : Src w b g v A l) (hf : Fr b g w v w' v') : Src w' b g v' A l := by
  intro hl
  obtain ⟨pb, po, e, h1, h2, h3, h4, h5⟩ := h hl
  refine ⟨pb, po, e, Nat.lt_of_lt_of_le h1 hf.1.size, h2, h3, ?_, fun j hj => ?_⟩
  · intro he
    rcases hf.2 with h6 | ⟨k, h6, h7⟩
    · exact h4 (h6.symm.trans he)
    · rw [h6] at he; injection he with he; omega
  · rw [← h5 j hj]
    exact hf.1.cell (p := ⟨pb, po + j, none⟩) h1 (fun hS => by
      rcases hS with h6 | h6 | h6
      · exact h2 h6
      · exact h3 h6
      · exact h4 h6)

theorem put_stores {w : World} {B b g : Nat} {bin : Bool} {L : Option Nat} {s : Qp.St} {v : Value} (x : UInt8) (hi : Inv w B b g bin L s v) (hl : s.buf.length ≤ 74) (n : Nat) (hn : s.buf.length = n) :
    Inv (((w.setCell ⟨b, 3 + n, none⟩ (.int .u8 (x.toNat : Int))).setCell ⟨b, 2, none⟩ (.int .i64 ((n : Int) + 1))).setCell ⟨b, 81, none⟩ (.bool false)).drew B b g bin L { s with buf := s.buf ++ [x], cr := false } v ∧
    Fr b g w v (((w.setCell ⟨b, 3 + n, none⟩ (.int .u8 (x.toNat : Int))).setCell ⟨b, 2, none⟩ (.int .i64 ((n : Int) + 1))).setCell ⟨b, 81, none⟩ (.bool false)).drew v := by
  subst hn
  obtain ⟨rest, hlen, hr⟩ := hi.raw
  have r3 := ((hr.putLine s.buf.length x (by omega) (.int .u8 (x.toNat : Int)) rfl).putN (s.buf.length + 1) ((s.buf.length : Int) + 1) (by omega)).setCr false
  rw [put_one _ _ _ (by omega)] at r3
  exact ⟨Raw.inv r3.drew (by simp) rfl rfl rfl, ((((Fr.refl b g w v).put _ rfl _).put _ rfl _).put _ rfl _).drew⟩
theorem cr_store {w : World} {B b g : Nat} {bin : Bool} {L : Option Nat} {s : Qp.St} {v : Value} (hi : Inv w B b g bin L s v) (c : Bool) :
    Inv (w.setCell ⟨b, 81, none⟩ (.bool c)) B b g bin L { s with cr := c } v ∧ Fr b g w v (w.setCell ⟨b, 81, none⟩ (.bool c)) v := by
  obtain ⟨rest, hlen, hr⟩ := hi.raw
  exact ⟨Raw.inv (hr.setCr c) rfl rfl rfl rfl, (Fr.refl b g w v).put _ rfl _⟩

/-- What holds at the head of each round of write's loop. -/
def WRel (w0 : World) (B b g : Nat) (bin : Bool) (L : Option Nat) (s0 : Qp.St) (v0 : Value) (A : Option Addr) (p : List UInt8) (k : Nat) (wr : World) : Prop :=
  ∃ s v, Inv wr B b g bin L s v ∧ Fr b g w0 v0 wr v ∧ Src wr b g v A p ∧ s.bad = false ∧ s.buf.length ≤ 75 ∧ Qp.size s ≤ Qp.size s0 + 8 * k ∧ Qp.writeAll L s0 p = Qp.writeAll L s (p.drop k)

section
variable {w0 wr w2 : World} {B b g : Nat} {bin : Bool} {L : Option Nat} {s0 s1 : Qp.St} {v0 v1 v2 : Value} {A : Option Addr} {p : List UInt8} {k : Nat} {x : UInt8}
theorem WRel.next (hfr : Fr b g w0 v0 wr v1) (hsrc : Src wr b g v1 A p) (hb : s1.bad = false) (hl : s1.buf.length ≤ 75) (hsz : Qp.size s1 ≤ Qp.size s0 + 8 * k) (hall : Qp.writeAll L s0 p = Qp.writeAll L (Qp.putc L x s1) (p.drop (k + 1)))
    (hi : Inv w2 B b g bin L (Qp.putc L x s1) v2) (hf : Fr b g wr v1 w2 v2) (hgood : (Qp.putc L x s1).bad = false) : WRel w0 B b g bin L s0 v0 A p (k + 1) w2 :=
  ⟨_, _, hi, hfr.trans hf, hsrc.fr hf, hgood, Qp.buf_putc L x s1 hb hl hgood, by have := Qp.size_putc L x s1; omega, hall⟩
theorem WRel.stop (hfr : Fr b g w0 v0 wr v1) (hall : Qp.writeAll L s0 p = Qp.writeAll L (Qp.putc L x s1) (p.drop (k + 1)))
    (hi : Inv w2 B b g bin L (Qp.putc L x s1) v2) (hf : Fr b g wr v1 w2 v2) (hbad : (Qp.putc L x s1).bad = true) : WPost w0 B b g bin L v0 (Qp.writeAll L s0 p) (.returned (.iface 90 (.agg #[]))) w2 := by
  rw [hall, Qp.writeAll_stuck L _ _ hbad]
  exact WPost.mk_fell hbad hi (hfr.trans hf)
end
theorem u8_tests (x : UInt8) : ((x.toNat : Int) == 10) = (x == 10) ∧ ((x.toNat : Int) == 13) = (x == 13) := ⟨int_eq_u8 x 10 (by omega), int_eq_u8 x 13 (by omega)⟩

set_option maxHeartbeats 4000000 in
theorem write_calls (w : World) (B b g : Nat) (bin : Bool) (L : Option Nat) (s : Qp.St) (v : Value) (A : Option Addr) (c : Nat) (p : List UInt8) (hi : Inv w B b g bin L s v) (hb : s.bad = false) (hl : s.buf.length ≤ 75)
    (hL : L.getD 0 ≤ 9223372036854775807) (hg : Qp.size s + 8 * p.length ≤ 1099511000000) (hs : Src w b g v A p) :
    Calls Try.prog 61 #[.pointer (some ⟨b, 0, none⟩), .slice A p.length c] w (WPost w B b g bin L v (Qp.writeAll L s p)) := by
  have hR : WRel w B b g bin L s v A p 0 w := ⟨s, v, hi, Fr.refl _ _ _ _, hs, hb, hl, by omega, rfl⟩
  have hpl : p.length ≤ 1099511000000 := by omega
  have HG := Lib.hid hg
  clear hi hb hl hs hg
  go_enter Try.func61, Try.ntmps61
  go_wp2_with fail
  go_loopw [12] (fun i wr => ∃ k : Nat, k ≤ p.length ∧ i = .int .i64 k ∧ WRel w B b g bin L s v A p k wr) (fun i _ => p.length - (intOf i).toNat)
  case atStart => exact ⟨0, Nat.zero_le _, rfl, hR⟩
  case round =>
    obtain ⟨k, hk, rfl, s1, v1, hi, hfr, hsrc, hb, hl, hsz, hall⟩ := hrel
    clear hR
    by_cases hkl : k < p.length
    · obtain ⟨pb, po, rfl, _, _, _, _, hcells⟩ := hsrc (by omega)
      have hx := hcells k hkl
      obtain ⟨x, hxe⟩ : ∃ x, x = p[k] := ⟨_, rfl⟩
      rw [← hxe] at hx
      have hx' : wr.cell? ⟨pb, po + k, none⟩ = some (.int .u8 (x.toNat : Int)) := hx
      have hd : p.drop k = x :: p.drop (k + 1) := by rw [hxe]; exact List.drop_eq_getElem_cons hkl
      rw [hd, Qp.writeAll_cons] at hall
      clear hx hcells hxe hd
      have hsz75 : s1.got.length + s1.buf.length ≤ 1099511500000 := by
        have := HG.out
        simp only [Qp.size] at hsz this
        omega
      have HI := Lib.hid hi
      have HFR := Lib.hid hfr
      have HSR := Lib.hid hsrc
      have HB := Lib.hid hb
      have HSZ := Lib.hid hsz
      have HALL := Lib.hid hall
      obtain ⟨rest, hlen, hr⟩ := hi.raw
      have c2 := hr.c2
      have cc := hr.cc
      have fc := hr.fz 81
      have f2 := hr.fz 2
      obtain ⟨t10, t13⟩ := u8_tests x
      by_cases h10 : (x == 10) = true
      · by_cases hcr : s1.cr = true
        · -- the LF of a CR LF
          have e := Qp.putc_skip L x s1 hb h10 hcr
          have R := cr_store hi false
          rw [← e] at R
          have g1 : (Qp.putc L x s1).bad = false := by rw [e]; exact hb
          rw [hcr] at cc
          rw [h10] at t10
          have HR := Lib.hid R
          have HG1 := Lib.hid g1
          clear hi hfr hsrc hb hsz hall hr R g1 e hcr h10 t13 c2 f2 hlen
          go_wp2_with fail
          go_roundw
          case rel => exact ⟨k + 1, by omega, by go_num, WRel.next HFR.out HSR.out HB.out hl HSZ.out HALL.out HR.out.1 HR.out.2 HG1.out⟩
          case measure => simp [intOf]; omega
        · -- a LF alone
          have hcr' : s1.cr = false := by simpa using hcr
          have h13 : (x == 13) = false := by
            have : x = 10 := by simpa using h10
            rw [this]; rfl
          have e := Qp.putc_brk L x s1 hb (by simp [h10]) (by simp [hcr'])
          obtain ⟨s2, hs2⟩ : ∃ s2, s2 = { s1 with cr := (x == 13) || s1.cr } := ⟨_, rfl⟩
          rw [← hs2] at e
          have hi2 : Inv wr B b g bin L s2 v1 := by rw [hs2, h13, hcr']; exact ⟨by have := hi.wr; rw [hcr'] at this; exact this, hi.sk, hi.own, hi.bB⟩
          have hb2 : s2.bad = false := by rw [hs2]; exact hb
          have hg2 : s2.got = s1.got := by rw [hs2]
          have hbuf2 : s2.buf = s1.buf := by rw [hs2]
          have hl2 : s2.buf.length ≤ 75 := by rw [hbuf2]; exact hl
          have HF2 := Lib.hid (Fr.refl b g wr v1)
          have HE := Lib.hid e
          rw [hcr'] at cc
          rw [h10] at t10
          rw [h13] at t13
          clear hi hfr hsrc hb hsz hall hr e hcr hcr' h10 h13 hs2 hlen
          have HC := Lib.hid (last_calls wr B b g bin L s2 v1 hi2 hb2 hl2 hL (by show s2.got.length + s2.buf.length ≤ _; rw [hg2, hbuf2]; omega))
          go_wp2_with fail
          refine HC.out.mono ?_
          intro e w1 h
          cases hbb : (Qp.checkLast L s2).bad with
          | true =>
            obtain ⟨v2, rfl, h2, h3⟩ := h.fell hbb
            have e2 : Qp.insCRLF L (Qp.checkLast L s2) = Qp.checkLast L s2 := Qp.good_insCRLF.stuck L _ hbb
            rw [HE.out, e2] at HALL
            have HALL2 := HALL
            have H2 := Lib.hid h2
            have H3 := Lib.hid h3
            have HBB := Lib.hid hbb
            have HE2 := Lib.hid e2
            clear h h2 h3 hbb e2
            go_wp2
            go_ret
            exact WRel.stop (x := x) HFR.out (by rw [HE.out, HE2.out]; exact HALL2.out) (by rw [HE.out, HE2.out]; exact H2.out) (HF2.out.trans H3.out) (by rw [HE.out, HE2.out]; exact HBB.out)
          | false =>
            obtain ⟨v2, rfl, h2, h3⟩ := h.good hbb
            have hl3 := Qp.buf_checkLast L s2 hb2 hl2 hbb
            have hz3 := Qp.size_checkLast L s2
            have HC2 := Lib.hid (insCRLF_calls w1 B b g bin L _ v2 h2 hbb (by omega) hL (by simp only [Qp.size] at hz3; rw [hg2, hbuf2] at hz3; omega))
            have H3 := Lib.hid h3
            clear h h2 h3 hbb hz3 hl3
            go_wp2_with fail
            refine HC2.out.mono ?_
            intro e w3 h
            cases hbb : (Qp.insCRLF L (Qp.checkLast L s2)).bad with
            | true =>
              obtain ⟨v3, rfl, h4, h5⟩ := h.fell hbb
              have H4 := Lib.hid h4
              have H5 := Lib.hid h5
              have HBB := Lib.hid hbb
              clear h h4 h5 hbb
              go_wp2
              go_ret
              exact WRel.stop (x := x) HFR.out HALL.out (by rw [HE.out]; exact H4.out) (HF2.out.trans (H3.out.trans H5.out)) (by rw [HE.out]; exact HBB.out)
            | false =>
              obtain ⟨v3, rfl, h4, h5⟩ := h.good hbb
              have H4 := Lib.hid h4
              have H5 := Lib.hid h5
              have HBB := Lib.hid hbb
              clear h h4 h5 hbb
              go_wp2
              go_roundw
              case rel => exact ⟨k + 1, by omega, by go_num, WRel.next (x := x) HFR.out HSR.out HB.out hl HSZ.out HALL.out (by rw [HE.out]; exact H4.out) (HF2.out.trans (H3.out.trans H5.out)) (by rw [HE.out]; exact HBB.out)⟩
              case measure => simp [intOf]; omega
      · have h10' : (x == 10) = false := by simpa using h10
        by_cases h13 : (x == 13) = true
        · -- a CR
          have e := Qp.putc_brk L x s1 hb (by simp [h13]) (by simp [h10'])
          obtain ⟨s2, hs2⟩ : ∃ s2, s2 = { s1 with cr := (x == 13) || s1.cr } := ⟨_, rfl⟩
          rw [← hs2] at e
          have R := cr_store hi true
          have hi2 : Inv (wr.setCell ⟨b, 81, none⟩ (.bool true)) B b g bin L s2 v1 := by rw [hs2, h13]; exact R.1
          have hb2 : s2.bad = false := by rw [hs2]; exact hb
          have hg2 : s2.got = s1.got := by rw [hs2]
          have hbuf2 : s2.buf = s1.buf := by rw [hs2]
          have hl2 : s2.buf.length ≤ 75 := by rw [hbuf2]; exact hl
          have HF2 := Lib.hid R.2
          have HE := Lib.hid e
          rw [h10'] at t10
          rw [h13] at t13
          obtain ⟨cr1, hcr1⟩ : ∃ c1, c1 = s1.cr := ⟨_, rfl⟩
          rw [← hcr1] at cc
          clear hi hfr hsrc hb hsz hall hr e h10 h10' h13 hs2 hlen R hcr1
          cases cr1 with
          | true =>
            have HC := Lib.hid (last_calls (wr.setCell ⟨b, 81, none⟩ (.bool true)) B b g bin L s2 v1 hi2 hb2 hl2 hL (by show s2.got.length + s2.buf.length ≤ _; rw [hg2, hbuf2]; omega))
            go_wp2_with fail
            refine HC.out.mono ?_
            intro e w1 h
            cases hbb : (Qp.checkLast L s2).bad with
            | true =>
              obtain ⟨v2, rfl, h2, h3⟩ := h.fell hbb
              have e2 : Qp.insCRLF L (Qp.checkLast L s2) = Qp.checkLast L s2 := Qp.good_insCRLF.stuck L _ hbb
              rw [HE.out, e2] at HALL
              have HALL2 := HALL
              have H2 := Lib.hid h2
              have H3 := Lib.hid h3
              have HBB := Lib.hid hbb
              have HE2 := Lib.hid e2
              clear h h2 h3 hbb e2
              go_wp2
              go_ret
              exact WRel.stop (x := x) HFR.out (by rw [HE.out, HE2.out]; exact HALL2.out) (by rw [HE.out, HE2.out]; exact H2.out) (HF2.out.trans H3.out) (by rw [HE.out, HE2.out]; exact HBB.out)
            | false =>
              obtain ⟨v2, rfl, h2, h3⟩ := h.good hbb
              have hl3 := Qp.buf_checkLast L s2 hb2 hl2 hbb
              have hz3 := Qp.size_checkLast L s2
              have HC2 := Lib.hid (insCRLF_calls w1 B b g bin L _ v2 h2 hbb (by omega) hL (by simp only [Qp.size] at hz3; rw [hg2, hbuf2] at hz3; omega))
              have H3 := Lib.hid h3
              clear h h2 h3 hbb hz3 hl3
              go_wp2_with fail
              refine HC2.out.mono ?_
              intro e w3 h
              cases hbb : (Qp.insCRLF L (Qp.checkLast L s2)).bad with
              | true =>
                obtain ⟨v3, rfl, h4, h5⟩ := h.fell hbb
                have H4 := Lib.hid h4
                have H5 := Lib.hid h5
                have HBB := Lib.hid hbb
                clear h h4 h5 hbb
                go_wp2
                go_ret
                exact WRel.stop (x := x) HFR.out HALL.out (by rw [HE.out]; exact H4.out) (HF2.out.trans (H3.out.trans H5.out)) (by rw [HE.out]; exact HBB.out)
              | false =>
                obtain ⟨v3, rfl, h4, h5⟩ := h.good hbb
                have H4 := Lib.hid h4
                have H5 := Lib.hid h5
                have HBB := Lib.hid hbb
                clear h h4 h5 hbb
                go_wp2
                go_roundw
                case rel => exact ⟨k + 1, by omega, by go_num, WRel.next (x := x) HFR.out HSR.out HB.out hl HSZ.out HALL.out (by rw [HE.out]; exact H4.out) (HF2.out.trans (H3.out.trans H5.out)) (by rw [HE.out]; exact HBB.out)⟩
                case measure => simp [intOf]; omega
          | false =>
            have HC := Lib.hid (last_calls (wr.setCell ⟨b, 81, none⟩ (.bool true)) B b g bin L s2 v1 hi2 hb2 hl2 hL (by show s2.got.length + s2.buf.length ≤ _; rw [hg2, hbuf2]; omega))
            go_wp2_with fail
            refine HC.out.mono ?_
            intro e w1 h
            cases hbb : (Qp.checkLast L s2).bad with
            | true =>
              obtain ⟨v2, rfl, h2, h3⟩ := h.fell hbb
              have e2 : Qp.insCRLF L (Qp.checkLast L s2) = Qp.checkLast L s2 := Qp.good_insCRLF.stuck L _ hbb
              rw [HE.out, e2] at HALL
              have HALL2 := HALL
              have H2 := Lib.hid h2
              have H3 := Lib.hid h3
              have HBB := Lib.hid hbb
              have HE2 := Lib.hid e2
              clear h h2 h3 hbb e2
              go_wp2
              go_ret
              exact WRel.stop (x := x) HFR.out (by rw [HE.out, HE2.out]; exact HALL2.out) (by rw [HE.out, HE2.out]; exact H2.out) (HF2.out.trans H3.out) (by rw [HE.out, HE2.out]; exact HBB.out)
            | false =>
              obtain ⟨v2, rfl, h2, h3⟩ := h.good hbb
              have hl3 := Qp.buf_checkLast L s2 hb2 hl2 hbb
              have hz3 := Qp.size_checkLast L s2
              have HC2 := Lib.hid (insCRLF_calls w1 B b g bin L _ v2 h2 hbb (by omega) hL (by simp only [Qp.size] at hz3; rw [hg2, hbuf2] at hz3; omega))
              have H3 := Lib.hid h3
              clear h h2 h3 hbb hz3 hl3
              go_wp2_with fail
              refine HC2.out.mono ?_
              intro e w3 h
              cases hbb : (Qp.insCRLF L (Qp.checkLast L s2)).bad with
              | true =>
                obtain ⟨v3, rfl, h4, h5⟩ := h.fell hbb
                have H4 := Lib.hid h4
                have H5 := Lib.hid h5
                have HBB := Lib.hid hbb
                clear h h4 h5 hbb
                go_wp2
                go_ret
                exact WRel.stop (x := x) HFR.out HALL.out (by rw [HE.out]; exact H4.out) (HF2.out.trans (H3.out.trans H5.out)) (by rw [HE.out]; exact HBB.out)
              | false =>
                obtain ⟨v3, rfl, h4, h5⟩ := h.good hbb
                have H4 := Lib.hid h4
                have H5 := Lib.hid h5
                have HBB := Lib.hid hbb
                clear h h4 h5 hbb
                go_wp2
                go_roundw
                case rel => exact ⟨k + 1, by omega, by go_num, WRel.next (x := x) HFR.out HSR.out HB.out hl HSZ.out HALL.out (by rw [HE.out]; exact H4.out) (HF2.out.trans (H3.out.trans H5.out)) (by rw [HE.out]; exact HBB.out)⟩
                case measure => simp [intOf]; omega
        · -- any other byte
          have h13' : (x == 13) = false := by simpa using h13
          rw [h10'] at t10
          rw [h13'] at t13
          by_cases h75 : s1.buf.length = 75
          · have HC := Lib.hid (insSoft_calls wr B b g bin L s1 v1 hi hb hl hL (by omega))
            have c2' : wr.cell? ⟨b, 2, none⟩ = some (.int .i64 75) := by rw [h75] at c2; exact c2
            cases hbb : (Qp.insSoft L s1).bad with
            | true =>
              have e := Qp.putc_full_bad L x s1 hb (by simp [h10', h13']) h75 hbb
              have HE := Lib.hid e
              have HBB := Lib.hid hbb
              clear hi hfr hsrc hb hsz hall hr e h10 h10' h13 h13' hlen c2 h75 hbb
              go_wp2_with fail
              refine HC.out.mono ?_
              intro e w1 h
              obtain ⟨v2, rfl, h2, h3⟩ := h.fell HBB.out
              have H2 := Lib.hid h2
              have H3 := Lib.hid h3
              clear h h2 h3
              go_wp2
              go_ret
              exact WRel.stop (x := x) HFR.out HALL.out (by rw [HE.out]; exact H2.out) H3.out (by rw [HE.out]; exact HBB.out)
            | false =>
              have e := Qp.putc_full L x s1 hb (by simp [h10', h13']) h75 hbb
              have hz : (Qp.insSoft L s1).buf.length ≤ 74 := by rw [Qp.buf_insSoft L s1 hb hbb]; simp
              have HE := Lib.hid e
              have HBB := Lib.hid hbb
              clear hi hfr hsrc hb hsz hall hr e h10 h10' h13 h13' hlen c2 h75 hbb f2 fc cc
              go_wp2_with fail
              refine HC.out.mono ?_
              intro e w1 h
              obtain ⟨v2, rfl, h2, h3⟩ := h.good HBB.out
              have R := put_stores x h2 hz
              obtain ⟨rest1, hlen1, hr1⟩ := h2.raw
              have c2 := hr1.c2
              have cc := hr1.cc
              have fc := hr1.fz 81
              have f2 := hr1.fz 2
              generalize (Qp.insSoft L s1).buf.length = n at *
              obtain ⟨o1, ho1⟩ : ∃ o, w1.cell? ⟨b, 3 + n, none⟩ = some o := ⟨_, hr1.cl n (by omega)⟩
              have f1 := hr1.fz (3 + n)
              have HR := Lib.hid (R n rfl)
              have H3 := Lib.hid h3
              clear h h2 h3 hr1 hlen1 R
              go_wp2_with fail
              go_region
              go_wp2_with fail
              go_roundw
              case rel => exact ⟨k + 1, by omega, by go_num, WRel.next (x := x) HFR.out HSR.out HB.out hl HSZ.out HALL.out (by rw [HE.out]; exact HR.out.1) (H3.out.trans HR.out.2) (by rw [HE.out]; exact HBB.out)⟩
              case measure => simp [intOf]; omega
          · have e := Qp.putc_put L x s1 hb (by simp [h10', h13']) h75
            have R := put_stores x hi (by omega)
            have h75' : ((s1.buf.length : Int) == 75) = false := by simp; omega
            have hl74 : s1.buf.length ≤ 74 := by omega
            have HE := Lib.hid e
            have HL := Lib.hid hl
            clear h75 e hl
            obtain ⟨n, hn⟩ : ∃ n, n = s1.buf.length := ⟨_, rfl⟩
            rw [← hn] at c2 h75' hl74
            obtain ⟨o1, ho1⟩ : ∃ o, wr.cell? ⟨b, 3 + n, none⟩ = some o := ⟨_, hr.cl n (by omega)⟩
            have f1 := hr.fz (3 + n)
            have HR := Lib.hid (R n hn.symm)
            clear hi hfr hsrc hb hsz hall hr R hlen h10 h10' h13 h13' hn
            go_wp2_with fail
            go_region
            go_wp2_with fail
            go_roundw
            case rel => exact ⟨k + 1, by omega, by go_num, WRel.next (x := x) HFR.out HSR.out HB.out HL.out HSZ.out HALL.out (by rw [HE.out]; exact HR.out.1) HR.out.2 (by rw [HE.out]; exact HB.out)⟩
            case measure => simp [intOf]; omega
    · -- the end
      have hke : k = p.length := by omega
      have HI := Lib.hid hi
      have HFR := Lib.hid hfr
      have HB := Lib.hid hb
      have HALL := Lib.hid hall
      have HK := Lib.hid hke
      clear hi hfr hsrc hb hsz hall hke
      go_wp2
      go_ret
      have e : Qp.writeAll L s p = s1 := by
        rw [HALL.out, HK.out, List.drop_length]; rfl
      rw [e]
      exact WPost.mk_good HB.out HI.out HFR.out
end Go.Proofs.Ytgdfbnedmifjlaa
