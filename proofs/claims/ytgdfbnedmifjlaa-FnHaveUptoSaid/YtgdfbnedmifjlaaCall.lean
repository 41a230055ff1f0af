/- call of the thin package: one call of a script. -/
import Derived.Test.YtgdfbnedmifjlaaImpl
import Derived.Laws.ResultCell
namespace Go.Proofs.Ytgdfbnedmifjlaa
open Go.RowKit

theorem Fr.alloc {b g : Nat} {w w1 : World} {v v1 : Value} (h : Fr b g w v w1 v1) (o : Obj) : Fr b g w v (w1.alloc o) v1 := ⟨h.1.alloc o, h.2⟩
theorem Fr.new {b g : Nat} {w w1 : World} {v v1 : Value} (h : Fr b g w v w1 v1) (p : Addr) (hp : w.heap.size ≤ p.block) (u : Value) : Fr b g w v (w1.setCell p u) v1 := ⟨h.1.setCell (.inr hp) u, h.2⟩
theorem Inv.alloc {w : World} {B b g : Nat} {bin : Bool} {L : Option Nat} {s : Qp.St} {v : Value} (h : Inv w B b g bin L s v) (o : Obj) : Inv (w.alloc o) B b g bin L s v :=
  h.keep ((Only.refl (fun _ => False) w).alloc o) (fun h => h) (fun h => h) (fun _ _ h => h)
theorem Inv.lt {w : World} {B b g : Nat} {bin : Bool} {L : Option Nat} {s : Qp.St} {v : Value} (h : Inv w B b g bin L s v) : b < w.heap.size ∧ g < w.heap.size ∧ (∀ k, v.ownBlock = some k → k < w.heap.size) := by
  obtain ⟨rest, _, hb⟩ := h.wr
  exact ⟨hb.lt, h.sk.lt, fun k hk => (h.own.lt k hk).2⟩
theorem Inv.new {w : World} {B b g : Nat} {bin : Bool} {L : Option Nat} {s : Qp.St} {v : Value} (h : Inv w B b g bin L s v) (p : Addr) (hp : p.block ≠ b ∧ p.block ≠ g ∧ v.ownBlock ≠ some p.block) (u : Value) : Inv (w.setCell p u) B b g bin L s v :=
  h.keep ((Only.refl (fun i => i = p.block) w).setCell (.inl rfl) u) (fun e => hp.1 e.symm) (fun e => hp.2.1 e.symm) (fun k hk e => hp.2.2 (by rw [hk, e]))

/-- What one call of a script tells, and leaves. -/
def CPost (w : World) (B b g : Nat) (bin : Bool) (L : Option Nat) (v : Value) (m : Nat) (s' : Qp.St) (e : Ending) (w' : World) : Prop :=
  ∃ v' n, e = .returned (.agg #[.int .i64 n, .bool s'.bad, .int .i64 (s'.got.length : Int)]) ∧ (s'.bad = false → n = (m : Int)) ∧ Inv w' B b g bin L s' v' ∧ Fr b g w v w' v'

theorem Fr.blk {b g : Nat} {w w1 : World} {v v1 : Value} (h : Fr b g w v w1 v1) {k : Nat} {t : TypeId} {cs : Array Value} (hk : Blk w k t cs) (h1 : k ≠ b) (h2 : k ≠ g) (h3 : v.ownBlock ≠ some k) : Blk w1 k t cs :=
  h.1.blk hk (fun hS => by
    rcases hS with e | e | e
    · exact h1 e
    · exact h2 e
    · exact h3 e)

theorem errv_true : errv true = .iface 90 (.agg #[]) := rfl
theorem errv_false : errv false = .nilIface := rfl

theorem call_close (w : World) (B b g : Nat) (bin : Bool) (L : Option Nat) (s : Qp.St) (v d : Value) (hi : Inv w B b g bin L s v) (hb : s.bad = false) (hl : s.buf.length ≤ 75)
    (hL : L.getD 0 ≤ 9223372036854775807) (hg : Qp.size s ≤ 1099511000000) :
    Calls Try.prog 52 #[.pointer (some ⟨b, 0, none⟩), .pointer (some ⟨g, 0, none⟩), .agg #[.bool true, d]] w (CPost w B b g bin L v 0 (Qp.close L s)) := by
  have hlt := hi.lt
  have hI := (hi.alloc (.cells #[.bool true, d] 26)).alloc (.cells #[.int .i64 0, .bool false, .int .i64 0] 31)
  have hn : Blk ((w.alloc (.cells #[.bool true, d] 26)).alloc (.cells #[.int .i64 0, .bool false, .int .i64 0] 31)) (w.heap.size + 1) 31 #[.int .i64 0, .bool false, .int .i64 0] := by
    have := Blk.new (w.alloc (.cells #[.bool true, d] 26)) 31 #[.int .i64 0, .bool false, .int .i64 0]
    simpa using this
  have HC := Lib.hid (close_calls _ B b g bin L s v hI hb hl hL hg)
  have HF := Lib.hid (((Fr.refl b g w v).alloc (.cells #[.bool true, d] 26)).alloc (.cells #[.int .i64 0, .bool false, .int .i64 0] 31))
  have HL := Lib.hid hlt
  have HN := Lib.hid hn
  clear hi hI hb hl hg hlt hn
  go_enter Try.func52, Try.ntmps52
  go_wp2_with fail
  refine HC.out.mono ?_
  intro e w1 h
  obtain ⟨v1, rfl, h2, h3⟩ := h
  have hk := h3.blk HN.out (by have := HL.out.1; omega) (by have := HL.out.2.1; omega) (fun e => by have := HL.out.2.2 _ e; omega)
  obtain ⟨ao, cap, hv⟩ := own_shape h2.own
  have k0 : w1.cell? ⟨w.heap.size + 1, 0, none⟩ = some (.int .i64 0) := hk.cell 0
  have k1 : w1.cell? ⟨w.heap.size + 1, 1, none⟩ = some (.bool false) := hk.cell 1
  have k2 : w1.cell? ⟨w.heap.size + 1, 2, none⟩ = some (.int .i64 0) := hk.cell 2
  have z0 := hk.frozen 0
  have z1 := hk.frozen 1
  have z2 := hk.frozen 2
  have c0 : w1.cell? ⟨g, 0, none⟩ = some v1 := h2.sk.cell 0
  rw [hv] at c0
  have hne := h2.ne_
  have hb1 : w.heap.size + 1 ≠ b := by have := HL.out.1; omega
  have hg1 : w.heap.size + 1 ≠ g := by have := HL.out.2.1; omega
  have ho1 : v1.ownBlock ≠ some (w.heap.size + 1) := own_ne h2.own hk (by decide)
  have hp : ∀ x y z : Value, CPost w B b g bin L v 0 (Qp.close L s) (.returned (.agg #[.int .i64 0, .bool (Qp.close L s).bad, .int .i64 ((Qp.close L s).got.length : Int)])) (((w1.setCell ⟨w.heap.size + 1, 0, none⟩ x).setCell ⟨w.heap.size + 1, 1, none⟩ y).setCell ⟨w.heap.size + 1, 2, none⟩ z).drew := fun x y z =>
    ⟨v1, 0, rfl, fun _ => rfl, (((h2.new _ ⟨hb1, hg1, ho1⟩ x).new _ ⟨hb1, hg1, ho1⟩ y).new _ ⟨hb1, hg1, ho1⟩ z).drew, ((((HF.out.trans h3).new ⟨w.heap.size + 1, 0, none⟩ (by simp) x).new ⟨w.heap.size + 1, 1, none⟩ (by simp) y).new ⟨w.heap.size + 1, 2, none⟩ (by simp) z).drew⟩
  have HP := Lib.hid hp
  clear h2 h3 hk hv hne ho1 hb1 hp
  cases hbb : (Qp.close L s).bad with
  | true =>
    rw [hbb] at HP
    clear hbb
    rw [errv_true]
    generalize (Qp.close L s).got.length = gl at *
    go_wp2_with fail
    go_region
    go_wp2_with fail
    exact bodyPost_ret (v := .agg #[.int .i64 0, .bool true, .int .i64 (gl : Int)]) (by simp [results, Try.results52, go_sem, k0, k1, k2]) rfl (HP.out _ _ _)
  | false =>
    rw [hbb] at HP
    clear hbb
    rw [errv_false]
    generalize (Qp.close L s).got.length = gl at *
    go_wp2_with fail
    go_region
    go_wp2_with fail
    exact bodyPost_ret (v := .agg #[.int .i64 0, .bool false, .int .i64 (gl : Int)]) (by simp [results, Try.results52, go_sem, k0, k1, k2]) rfl (HP.out _ _ _)

theorem Src.of_own {w0 w : World} {b g : Nat} {v p : Value} {l : List UInt8} (h : w.ownsRow w0.heap.size 5 1 p l.length (l.map bv)) (hb : b < w0.heap.size) (hg : g < w0.heap.size) (hv : ∀ k, v.ownBlock = some k → k < w0.heap.size) :
    ∃ A c, p = .slice A l.length c ∧ l.length ≤ c ∧ Src w b g v A l := by
  rcases (Rd.of_own h).2 with ⟨rfl, h0⟩ | ⟨ad, c, rfl, hc, hcell⟩
  · exact ⟨none, 0, by rw [h0], by omega, fun hl => by omega⟩
  · refine ⟨some ad, c, rfl, hc, fun hl => ?_⟩
    obtain ⟨h1, h2, h3⟩ := hcell hl
    obtain ⟨ab, ao, asp⟩ := ad
    simp only at h1; subst h1
    have hlo := (h.lt ab rfl).1
    refine ⟨ab, ao, rfl, h2, by omega, by omega, fun e => by have := hv _ e; omega, fun j hj => ?_⟩
    exact h3 j (bv l[j]) (by simp [hj])

theorem call_write (w : World) (B b g : Nat) (bin : Bool) (L : Option Nat) (s : Qp.St) (v d : Value) (l : List UInt8) (hi : Inv w B b g bin L s v) (hb : s.bad = false) (hl : s.buf.length ≤ 75)
    (hL : L.getD 0 ≤ 9223372036854775807) (hg : Qp.size s + 8 * l.length ≤ 1099510000000) (hd : Rd w 1 d l.length (l.map bv)) :
    Calls Try.prog 52 #[.pointer (some ⟨b, 0, none⟩), .pointer (some ⟨g, 0, none⟩), .agg #[.bool false, d]] w (CPost w B b g bin L v l.length (Qp.write L bin s l)) := by
  have hlt := hi.lt
  have hI := (hi.alloc (.cells #[.bool false, d] 26)).alloc (.cells #[.int .i64 0, .bool false, .int .i64 0] 31)
  have hn : Blk ((w.alloc (.cells #[.bool false, d] 26)).alloc (.cells #[.int .i64 0, .bool false, .int .i64 0] 31)) (w.heap.size + 1) 31 #[.int .i64 0, .bool false, .int .i64 0] := by
    have := Blk.new (w.alloc (.cells #[.bool false, d] 26)) 31 #[.int .i64 0, .bool false, .int .i64 0]
    simpa using this
  have hO := own_calls _ d l ((hd.alloc (.cells #[.bool false, d] 26)).alloc (.cells #[.int .i64 0, .bool false, .int .i64 0] 31)) (by simp only [Qp.size] at hg; omega)
  have HF := Lib.hid (((Fr.refl b g w v).alloc (.cells #[.bool false, d] 26)).alloc (.cells #[.int .i64 0, .bool false, .int .i64 0] 31))
  have HL := Lib.hid hlt
  have HN := Lib.hid hn
  have HO := Lib.hid hO
  have HI := Lib.hid hI
  have HB := Lib.hid hb
  have HG := Lib.hid hg
  have HBUF := Lib.hid hl
  obtain ⟨dA, dn, dc, rfl⟩ : ∃ A n c, d = .slice A n c := by
    rcases hd.2 with ⟨rfl, _⟩ | ⟨ad, c, rfl, _⟩
    · exact ⟨_, _, _, rfl⟩
    · exact ⟨_, _, _, rfl⟩
  clear hi hI hb hl hg hlt hn hO hd
  go_enter Try.func52, Try.ntmps52
  go_wp2_with fail
  refine HO.out.mono ?_
  intro e w1 h
  obtain ⟨p, rfl, h2, h3⟩ := h
  have hlt := HL.out
  obtain ⟨A, c, rfl, hc, hsrc⟩ := Src.of_own (b := b) (g := g) (v := v) h2 (by simp; omega) (by simp; omega) (fun k hk => by have := hlt.2.2 k hk; simp; omega)
  have hI1 : Inv w1 B b g bin L s v := HI.out.keep (Only.of_below h3) (by simp; omega) (by simp; omega) (fun k hk => by have := hlt.2.2 k hk; simp; omega)
  have hF1 : Fr b g w v w1 v := HF.out.trans ⟨(Only.of_below h3).mono (fun i hi h => by omega), Moved.refl _ _⟩
  have hN1 : Blk w1 (w.heap.size + 1) 31 #[.int .i64 0, .bool false, .int .i64 0] := (h3.block _ (by simp)).trans HN.out
  have hW := Write_calls w1 B b g bin L s v A c l hI1 HB.out HBUF.out hL HG.out hsrc hc
  have HW := Lib.hid hW
  have HF1 := Lib.hid hF1
  have HN1 := Lib.hid hN1
  clear hW hF1 hN1 hI1 hsrc hc h2 h3 hlt
  go_wp2_with fail
  refine HW.out.mono ?_
  intro e w2 h
  obtain ⟨v1, n, rfl, hn, h2, h3⟩ := h
  have hk := h3.blk HN1.out (by have := HL.out.1; omega) (by have := HL.out.2.1; omega) (fun e => by have := HL.out.2.2 _ e; omega)
  obtain ⟨ao, cap, hv⟩ := own_shape h2.own
  have k0 : w2.cell? ⟨w.heap.size + 1, 0, none⟩ = some (.int .i64 0) := hk.cell 0
  have k1 : w2.cell? ⟨w.heap.size + 1, 1, none⟩ = some (.bool false) := hk.cell 1
  have k2 : w2.cell? ⟨w.heap.size + 1, 2, none⟩ = some (.int .i64 0) := hk.cell 2
  have z0 := hk.frozen 0
  have z1 := hk.frozen 1
  have z2 := hk.frozen 2
  have c0 : w2.cell? ⟨g, 0, none⟩ = some v1 := h2.sk.cell 0
  rw [hv] at c0
  have hb1 : w.heap.size + 1 ≠ b := by have := HL.out.1; omega
  have hg1 : w.heap.size + 1 ≠ g := by have := HL.out.2.1; omega
  have ho1 : v1.ownBlock ≠ some (w.heap.size + 1) := own_ne h2.own hk (by decide)
  have hp : ∀ x y z : Value, CPost w B b g bin L v l.length (Qp.write L bin s l) (.returned (.agg #[.int .i64 n, .bool (Qp.write L bin s l).bad, .int .i64 ((Qp.write L bin s l).got.length : Int)])) (((w2.setCell ⟨w.heap.size + 1, 0, none⟩ x).setCell ⟨w.heap.size + 1, 1, none⟩ y).setCell ⟨w.heap.size + 1, 2, none⟩ z).drew := fun x y z =>
    ⟨v1, n, rfl, hn, (((h2.new _ ⟨hb1, hg1, ho1⟩ x).new _ ⟨hb1, hg1, ho1⟩ y).new _ ⟨hb1, hg1, ho1⟩ z).drew, ((((HF1.out.trans h3).new ⟨w.heap.size + 1, 0, none⟩ (by simp) x).new ⟨w.heap.size + 1, 1, none⟩ (by simp) y).new ⟨w.heap.size + 1, 2, none⟩ (by simp) z).drew⟩
  have HP := Lib.hid hp
  clear h2 h3 hk hv ho1 hb1 hp hn
  cases hbb : (Qp.write L bin s l).bad with
  | true =>
    rw [hbb] at HP
    clear hbb
    rw [errv_true]
    generalize (Qp.write L bin s l).got.length = gl at *
    go_wp2_with fail
    go_region
    go_wp2_with fail
    exact bodyPost_ret (v := .agg #[.int .i64 n, .bool true, .int .i64 (gl : Int)]) (by simp [results, Try.results52, go_sem, k0, k1, k2]) rfl (HP.out _ _ _)
  | false =>
    rw [hbb] at HP
    clear hbb
    rw [errv_false]
    generalize (Qp.write L bin s l).got.length = gl at *
    go_wp2_with fail
    go_region
    go_wp2_with fail
    exact bodyPost_ret (v := .agg #[.int .i64 n, .bool false, .int .i64 (gl : Int)]) (by simp [results, Try.results52, go_sem, k0, k1, k2]) rfl (HP.out _ _ _)
end Go.Proofs.Ytgdfbnedmifjlaa
