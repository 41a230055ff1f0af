/- The sink's Write, for every sink whose row is the call's own. -/
import Derived.Test.YtgdfbnedmifjlaaBase
import Derived.Maps.AppendAt
import Derived.Deep.QuietTactic
import Derived.BigQuiet
import Derived.Outline
import Derived.WalkSpells
namespace Go.Proofs.Ytgdfbnedmifjlaa
open Go.RowKit

theorem info5 : (Try.prog.info? 5).map (fun i => (i.zero, i.size, i.bytes)) = some (some (.int .u8 0), 1, 1) := by kernel_rfl

/-- What the sink's Write leaves, if it takes the bytes. -/
def SinkTook (w : World) (g B : Nat) (v : Value) (L : Option Nat) (got p : List UInt8) (e : Ending) (w' : World) : Prop :=
  ∃ v', e = .returned (.tuple #[.int .i64 (p.length : Int), .nilIface]) ∧ Blk w' g 55 (scells v' L) ∧ w'.ownsRow B 5 1 v' (got ++ p).length ((got ++ p).map bv) ∧
    Only (fun i => i = g ∨ v.ownBlock = some i) w w' ∧ Moved w v v'

theorem sinkTook_mk {w w1 : World} {g B n : Nat} {v v' u : Value} {L : Option Nat} {got p : List UInt8} (hs : Blk w g 55 (scells v L)) (hown : w.ownsRow B 5 1 v got.length (got.map bv))
    (hown' : w1.ownsRow B 5 1 v' (got.length + p.length) (got.map bv ++ p.map bv)) (hg : (w.drewN n).grownBy w1 v.ownBlock) (hat : v'.ownBlock = v.ownBlock ∨ v'.ownBlock = some (w.drewN n).heap.size) (hu : u = v') :
    SinkTook w g B v L got p (.returned (.tuple #[.int .i64 (p.length : Int), .nilIface])) (w1.setCell ⟨g, 0, none⟩ u) := by
  subst hu
  have hne : v.ownBlock ≠ some g := own_ne hown hs (by decide)
  have hb1 : Blk w1 g 55 (scells v L) := (hg.block g hs.lt (fun e => hne e.symm)).trans hs
  have hne' : u.ownBlock ≠ some g := own_ne hown' hb1 (by decide)
  have hset : Blk (w1.setCell ⟨g, 0, none⟩ u) g 55 (scells u L) := by
    have h := hb1.set_ 0 u
    have e : (scells v L).setIfInBounds 0 u = scells u L := by simp [scells]
    rwa [e] at h
  have ho1 : Only (fun i => i = g ∨ v.ownBlock = some i) w w1 := ((Only.refl _ w).drewN n).grown hg (fun k hk => .inl (.inr hk))
  refine ⟨u, rfl, hset, ?_, ho1.setCell (.inl (.inl rfl)) u, ?_⟩
  · have h2 : (w1.setCell ⟨g, 0, none⟩ u).ownsRow B 5 1 u (got.length + p.length) (got.map bv ++ p.map bv) := by
      refine Only.own ((Only.refl (fun i => i = g) w1).setCell (.inl rfl) u) hown' (fun k hk hkg => ?_)
      exact hne' (by rw [hk, hkg])
    simpa using h2
  · rcases hat with h | h
    · exact .inl h
    · exact .inr ⟨_, h, Nat.le_refl _⟩

theorem sink_ok (w : World) (g B : Nat) (v : Value) (L : Option Nat) (got p : List UInt8) (A : Addr) (c : Nat)
    (hs : Blk w g 55 (scells v L)) (hown : w.ownsRow B 5 1 v got.length (got.map bv))
    (hp : ∀ j u, (p.map bv)[j]? = some u → w.cell? (A.add j) = some u) (hov : Qp.over L (got.length + p.length) = false)
    (hL : L.getD 0 ≤ 9223372036854775807) (hl : got.length + p.length ≤ 1099511627776) (hB : B ≤ w.heap.size) :
    Calls Try.prog 80 #[.pointer (some ⟨g, 0, none⟩), .slice (some A) p.length c] w (SinkTook w g B v L got p) := by
  obtain ⟨i0, hi, hz0, hz1, hz2⟩ := info_parts info5
  obtain ⟨ao, cap, rfl⟩ := own_shape hown
  have c0 : w.cell? ⟨g, 0, none⟩ = some (.slice ao got.length cap) := hs.cell 0
  have c1 : w.cell? ⟨g, 1, none⟩ = some (.bool L.isSome) := hs.cell 1
  have c2 : w.cell? ⟨g, 2, none⟩ = some (.int .i64 ((L.getD 0 : Nat) : Int)) := hs.cell 2
  have f0 := hs.frozen 0
  have H0 := Lib.hid hs
  have H1 := Lib.hid hown
  have hlt := hs.lt
  have hne : (Value.slice ao got.length cap).ownBlock ≠ some g := own_ne hown hs (by decide)
  have H2 := Lib.hid hne
  clear hs hne
  cases L with
  | none =>
    simp only [Option.isSome_none] at c1
    go_enter Try.func80, Try.ntmps80
    go_wp2_with fail
    go_quiet (fail)
    go_wp2_with (at_builtin; refine wpList_append_own_at _ rfl _ _ 24 rfl B 5 i0 (.int .u8 0) 1 1 Try.underlying24 hi hz0 hz1 hz2 rfl (by decide) _ _ _ rfl hown A p.length c (p.map bv) rfl (by simp) hp (bvs_one p) (by unfold maxLen; omega) (by omega) hB ?_)
    intro v' w1 hown' hgrow _ hat
    obtain ⟨ao', cap', hv⟩ := own_shape hown'
    have hb1 : Blk w1 g 55 _ := (hgrow.block g hlt (fun e => H2.out e.symm)).trans H0.out
    have c0' : w1.cell? ⟨g, 0, none⟩ = some (.slice ao got.length cap) := hb1.cell 0
    have f0' := hb1.frozen 0
    clear hb1
    rw [hv]
    have H3 := Lib.hid hown'
    have H4 := Lib.hid hgrow
    have H5 := Lib.hid hat
    have H6 := Lib.hid hv
    clear hown' hgrow hat hv hown c0 c1 c2 f0 hp hov
    go_wp2
    go_ret2
    exact sinkTook_mk H0.out H1.out H3.out H4.out H5.out H6.out.symm
  | some m =>
    have hm : ¬ (m : Int) < (got.length : Int) + (p.length : Int) := by
      simp only [Qp.over, decide_eq_false_iff_not] at hov; omega
    simp only [Option.isSome_some] at c1
    simp only [Option.getD_some] at c2 hL
    clear hov
    go_enter Try.func80, Try.ntmps80
    go_wp2_with fail
    go_quiet (fail)
    go_wp2_with (at_builtin; refine wpList_append_own_at _ rfl _ _ 24 rfl B 5 i0 (.int .u8 0) 1 1 Try.underlying24 hi hz0 hz1 hz2 rfl (by decide) _ _ _ rfl hown A p.length c (p.map bv) rfl (by simp) hp (bvs_one p) (by unfold maxLen; omega) (by omega) hB ?_)
    intro v' w1 hown' hgrow _ hat
    obtain ⟨ao', cap', hv⟩ := own_shape hown'
    have hb1 : Blk w1 g 55 _ := (hgrow.block g hlt (fun e => H2.out e.symm)).trans H0.out
    have c0' : w1.cell? ⟨g, 0, none⟩ = some (.slice ao got.length cap) := hb1.cell 0
    have f0' := hb1.frozen 0
    clear hb1
    rw [hv]
    have H3 := Lib.hid hown'
    have H4 := Lib.hid hgrow
    have H5 := Lib.hid hat
    have H6 := Lib.hid hv
    clear hown' hgrow hat hv hown c0 c1 c2 f0 hp
    go_wp2
    go_ret2
    exact sinkTook_mk H0.out H1.out H3.out H4.out H5.out H6.out.symm

/-- The sink is full: it takes nothing. -/
theorem sink_full (w : World) (g B : Nat) (v : Value) (m : Nat) (got p : List UInt8) (A : Addr) (c : Nat)
    (hs : Blk w g 55 (scells v (some m))) (hown : w.ownsRow B 5 1 v got.length (got.map bv))
    (hov : Qp.over (some m) (got.length + p.length) = true) (hL : m ≤ 9223372036854775807) (hl : got.length + p.length ≤ 1099511627776) :
    Calls Try.prog 80 #[.pointer (some ⟨g, 0, none⟩), .slice (some A) p.length c] w fun e w' => e = .returned (.tuple #[.int .i64 0, .iface 90 (.agg #[])]) ∧ ∃ n, w' = w.drewN n := by
  obtain ⟨ao, cap, rfl⟩ := own_shape hown
  have c0 : w.cell? ⟨g, 0, none⟩ = some (.slice ao got.length cap) := hs.cell 0
  have c1 : w.cell? ⟨g, 1, none⟩ = some (.bool true) := hs.cell 1
  have c2 : w.cell? ⟨g, 2, none⟩ = some (.int .i64 (m : Int)) := hs.cell 2
  clear hs hown
  have hm : (m : Int) < (got.length : Int) + (p.length : Int) := by
    simp only [Qp.over, decide_eq_true_eq] at hov; omega
  clear hov
  go_enter Try.func80, Try.ntmps80
  go_wp2_with fail
  go_quiet (fail)
  go_wp2
  go_ret2
  exact ⟨rfl, _, rfl⟩
end Go.Proofs.Ytgdfbnedmifjlaa
