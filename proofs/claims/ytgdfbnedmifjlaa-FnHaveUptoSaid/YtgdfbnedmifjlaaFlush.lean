/- flush, insertCRLF, insertSoftLineBreak of the writer. -/
import Derived.Test.YtgdfbnedmifjlaaSink
import Derived.Deep.RegionWith
import Derived.BigRegion
namespace Go.Proofs.Ytgdfbnedmifjlaa
open Go.RowKit

/-- What a call of the writer tells: no error, or the sink's. -/
def errv (bad : Bool) : Value := if bad then .iface 90 (.agg #[]) else .nilIface
def WPost (w : World) (B b g : Nat) (bin : Bool) (L : Option Nat) (v : Value) (s' : Qp.St) (e : Ending) (w' : World) : Prop :=
  ∃ v', e = .returned (errv s'.bad) ∧ Inv w' B b g bin L s' v' ∧ Fr b g w v w' v'

theorem WPost.good {w w' : World} {B b g : Nat} {bin : Bool} {L : Option Nat} {v : Value} {s' : Qp.St} {e : Ending} (h : WPost w B b g bin L v s' e w') (hb : s'.bad = false) :
    ∃ v', e = .returned .nilIface ∧ Inv w' B b g bin L s' v' ∧ Fr b g w v w' v' := by
  obtain ⟨v', h1, h2, h3⟩ := h
  exact ⟨v', by rw [h1, hb]; rfl, h2, h3⟩
theorem WPost.fell {w w' : World} {B b g : Nat} {bin : Bool} {L : Option Nat} {v : Value} {s' : Qp.St} {e : Ending} (h : WPost w B b g bin L v s' e w') (hb : s'.bad = true) :
    ∃ v', e = .returned (.iface 90 (.agg #[])) ∧ Inv w' B b g bin L s' v' ∧ Fr b g w v w' v' := by
  obtain ⟨v', h1, h2, h3⟩ := h
  exact ⟨v', by rw [h1, hb]; rfl, h2, h3⟩
theorem WPost.mk_good {w w' : World} {B b g : Nat} {bin : Bool} {L : Option Nat} {v v' : Value} {s' : Qp.St} (hb : s'.bad = false) (hi : Inv w' B b g bin L s' v') (hf : Fr b g w v w' v') : WPost w B b g bin L v s' (.returned .nilIface) w' :=
  ⟨v', by rw [hb]; rfl, hi, hf⟩
theorem WPost.mk_fell {w w' : World} {B b g : Nat} {bin : Bool} {L : Option Nat} {v v' : Value} {s' : Qp.St} (hb : s'.bad = true) (hi : Inv w' B b g bin L s' v') (hf : Fr b g w v w' v') : WPost w B b g bin L v s' (.returned (.iface 90 (.agg #[]))) w' :=
  ⟨v', by rw [hb]; rfl, hi, hf⟩
theorem Inv.bad_ {w : World} {B b g : Nat} {bin : Bool} {L : Option Nat} {s : Qp.St} {v : Value} (h : Inv w B b g bin L s v) (x : Bool) : Inv w B b g bin L { s with bad := x } v := ⟨h.wr, h.sk, h.own, h.bB⟩
theorem flush_mk {w w1 : World} {B b g : Nat} {bin : Bool} {L : Option Nat} {s : Qp.St} {v v1 : Value} {rest : List UInt8} (hi : Inv w B b g bin L s v) (hb : s.bad = false) (hov : Qp.over L (s.got.length + s.buf.length) = false)
    (hlen : s.buf.length + rest.length = 78) (h1 : Blk w1 b 62 (wcells bin g s.buf.length (s.buf ++ rest) s.cr)) (h2 : Blk w1 g 55 (scells v1 L)) (h3 : w1.ownsRow B 5 1 v1 (s.got ++ s.buf).length ((s.got ++ s.buf).map bv))
    (h4 : Only (fun i => i = g ∨ v.ownBlock = some i) w w1) (h5 : Moved w v v1) : WPost w B b g bin L v (Qp.flush L s) (.returned .nilIface) (w1.setCell ⟨b, 2, none⟩ (.int .i64 0)) := by
  have e : Qp.flush L s = { s with buf := [], got := s.got ++ s.buf } := by simp [Qp.flush, hb, hov]
  rw [e]
  refine WPost.mk_good (v' := v1) hb ⟨⟨s.buf ++ rest, by simpa using hlen, ?_⟩, ?_, ?_, hi.bB⟩ ⟨?_, h5⟩
  · have := h1.set_ 2 (.int .i64 ((0 : Nat) : Int))
    rw [wcells_set2] at this
    exact this
  · exact h2.far (fun e => (h1.ne_ h2 (by decide)) e.symm) _
  · exact Only.own ((Only.refl (fun i => i = b) w1).setCell (.inl rfl) _) h3 (fun k hk hkb => own_ne h3 h1 (by decide) (by rw [hk, hkb]))
  · exact (h4.mono (fun i _ h => .inr h)).setCell (.inl (.inl rfl)) _

theorem size5 (w : World) : (sizeOf 5).run Try.prog w = .ok 1 w := by kernel_rfl
theorem slice_line (b n : Nat) (h : n ≤ 78) (w : World) : (Instr.sliceAt 60 (.pointer (some ⟨b, 3, none⟩)) none (some (.int .i64 (n : Int))) none).run Try.prog w = .ok (.slice (some ⟨b, 3, none⟩) n 78) w := by
  have ht : Try.prog.underlying 60 = some (.array (Try.prog.arrayLen 60) (Try.prog.elem 60)) := by kernel_rfl
  have hl : Try.prog.arrayLen 60 = 78 := by kernel_rfl
  have he : Try.prog.elem 60 = 5 := by kernel_rfl
  rw [run_sliceAt_array_h w 60 _ ht .i64 (n : Int) (by omega) (by rw [hl]; omega), he, size5, hl]
  simp [slicedAt, Addr.add]

theorem flush_ok (w : World) (B b g : Nat) (bin : Bool) (L : Option Nat) (s : Qp.St) (v : Value) (hi : Inv w B b g bin L s v)
    (hb : s.bad = false) (hl : s.buf.length ≤ 78) (hL : L.getD 0 ≤ 9223372036854775807) (hg : s.got.length + s.buf.length ≤ 1099511627776) (hov : Qp.over L (s.got.length + s.buf.length) = false) :
    Calls Try.prog 59 #[.pointer (some ⟨b, 0, none⟩)] w (WPost w B b g bin L v (Qp.flush L s)) := by
  obtain ⟨rest, hlen, hblk⟩ := hi.wr
  have c1 : w.cell? ⟨b, 1, none⟩ = some (.iface 53 (.pointer (some ⟨g, 0, none⟩))) := (hblk.cell 1).trans (wcells_1 ..)
  have c2 : w.cell? ⟨b, 2, none⟩ = some (.int .i64 (s.buf.length : Int)) := (hblk.cell 2).trans (wcells_2 ..)
  have hm : ∀ w : World, (method 192 53 (.pointer (some ⟨g, 0, none⟩)) "Write").run Try.prog w = .ok (80, .pointer (some ⟨g, 0, none⟩)) w := fun _ => by kernel_rfl
  have hc : ∀ (args : Array Value) (w : World), (callFunc 80 args).run Try.prog w = .ok (.enter 80 args) w := fun _ _ => by kernel_rfl
  have hsl := slice_line b s.buf.length hl
  have hcell : ∀ j u, (s.buf.map bv)[j]? = some u → w.cell? ((⟨b, 3, none⟩ : Addr).add j) = some u := by
    intro j u hu
    have hj : j < s.buf.length := by simpa using (List.getElem?_eq_some_iff.1 hu).1
    have e : (⟨b, 3, none⟩ : Addr).add j = ⟨b, 3 + j, none⟩ := by
      unfold Addr.add; split
      · rename_i h0; subst h0; rfl
      · rfl
    rw [e, hblk.cell, wcells_line _ _ _ _ _ j (by simp; omega)]
    rw [List.getElem_append_left hj]
    rw [← hu]; simp [hj]
  have HC := Lib.hid (sink_ok w.drew g B v L s.got s.buf ⟨b, 3, none⟩ 78 hi.sk.drew hi.own hcell hov hL hg (by have := hi.bB; have := hblk.lt; show B ≤ w.heap.size; omega))
  have hne := hi.ne_
  have HI := Lib.hid hi
  have HB := Lib.hid hblk
  have HN := Lib.hid hne
  have HO := Lib.hid hov
  clear hi hblk hcell hov hne
  go_enter Try.func59, Try.ntmps59
  go_wp2_with fail
  go_region_with (go_at_call 80; refine HC.out.mono ?_; intro e w1 h1; obtain ⟨v1, rfl, h2, h3, h4, h5⟩ := h1)
  all_goals
    have hb1 : Blk w1 b 62 (wcells bin g s.buf.length (s.buf ++ rest) s.cr) := h4.blk HB.out.drew (fun h => by
      rcases h with h | h
      · exact HN.out.1 h
      · exact HN.out.2.1 h)
    have c2' : w1.cell? ⟨b, 2, none⟩ = some (.int .i64 (s.buf.length : Int)) := (hb1.cell 2).trans (wcells_2 ..)
    have f2' := hb1.frozen 2
    have K1 := Lib.hid hb1
    have K2 := Lib.hid h2
    have K3 := Lib.hid h3
    have K4 := Lib.hid h4
    have K5 := Lib.hid h5
    clear hb1 h2 h3 h4 h5 c1 c2 hm hc hsl
    go_wp2
    go_ret
    exact flush_mk HI.out hb HO.out hlen K1.out K2.out K3.out K4.out.of_drew K5.out

theorem flush_full (w : World) (B b g : Nat) (bin : Bool) (m : Nat) (s : Qp.St) (v : Value) (hi : Inv w B b g bin (some m) s v)
    (hb : s.bad = false) (hl : s.buf.length ≤ 78) (hL : m ≤ 9223372036854775807) (hg : s.got.length + s.buf.length ≤ 1099511627776) (hov : Qp.over (some m) (s.got.length + s.buf.length) = true) :
    Calls Try.prog 59 #[.pointer (some ⟨b, 0, none⟩)] w (WPost w B b g bin (some m) v (Qp.flush (some m) s)) := by
  obtain ⟨rest, hlen, hr⟩ := hi.raw
  have c1 := hr.c1
  have c2 := hr.c2
  have hm : ∀ w : World, (method 192 53 (.pointer (some ⟨g, 0, none⟩)) "Write").run Try.prog w = .ok (80, .pointer (some ⟨g, 0, none⟩)) w := fun _ => by kernel_rfl
  have hc : ∀ (args : Array Value) (w : World), (callFunc 80 args).run Try.prog w = .ok (.enter 80 args) w := fun _ _ => by kernel_rfl
  have hsl := slice_line b s.buf.length hl
  have HC := Lib.hid (sink_full w.drew g B v m s.got s.buf ⟨b, 3, none⟩ 78 hi.sk.drew hi.own hov hL hg)
  have HI := Lib.hid hi
  have HO := Lib.hid hov
  clear hi hr hov hlen
  go_enter Try.func59, Try.ntmps59
  go_wp2_with fail
  go_region_with (go_at_call 80; refine HC.out.mono ?_; intro e w1 h1; obtain ⟨rfl, n, h2⟩ := h1)
  all_goals
    have K2 := Lib.hid h2
    clear h2 c1 c2 hm hc hsl
    go_wp2
    go_ret
    have e : Qp.flush (some m) s = { s with bad := true } := by simp [Qp.flush, hb, HO.out]
    have hw := K2.out
    subst hw
    rw [e]
    exact WPost.mk_fell rfl ((HI.out.drewN (1 + n)).bad_ true) ((Fr.refl b g w v).drewN (1 + n))

/-- flush, for every state. -/
theorem flush_calls (w : World) (B b g : Nat) (bin : Bool) (L : Option Nat) (s : Qp.St) (v : Value) (hi : Inv w B b g bin L s v)
    (hb : s.bad = false) (hl : s.buf.length ≤ 78) (hL : L.getD 0 ≤ 9223372036854775807) (hg : s.got.length + s.buf.length ≤ 1099511627776) :
    Calls Try.prog 59 #[.pointer (some ⟨b, 0, none⟩)] w (WPost w B b g bin L v (Qp.flush L s)) := by
  cases hov : Qp.over L (s.got.length + s.buf.length) with
  | false => exact flush_ok w B b g bin L s v hi hb hl hL hg hov
  | true =>
    cases L with
    | none => simp [Qp.over] at hov
    | some m => exact flush_full w B b g bin m s v hi hb hl hL hg hov
end Go.Proofs.Ytgdfbnedmifjlaa
