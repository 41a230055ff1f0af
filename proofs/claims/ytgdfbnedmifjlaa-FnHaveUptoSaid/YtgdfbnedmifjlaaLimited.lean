/- Limited of the thin package. -/
import Derived.Test.YtgdfbnedmifjlaaGrow
import Derived.Test.YtgdfbnedmifjlaaPlainD
namespace Go.Proofs.Ytgdfbnedmifjlaa
open Go.RowKit

theorem bad_stays (L : Option Nat) (bin : Bool) (xs : List Qp.Stp) (j k : Nat) (h : j ≤ k) (hb : (Qp.endP L bin Qp.st0 (xs.take k)).bad = false) : (Qp.endP L bin Qp.st0 (xs.take j)).bad = false := by
  cases hc : (Qp.endP L bin Qp.st0 (xs.take j)).bad with
  | false => rfl
  | true =>
    have e : xs.take k = xs.take j ++ (xs.take k).drop j := by
      have := List.take_append_drop j (xs.take k)
      rw [List.take_take, Nat.min_eq_left h] at this
      exact this.symm
    rw [e, Qp.endP_append, (Qp.good_endP bin _).stuck L _ hc, hc] at hb
    cases hb
theorem bad_ends (L : Option Nat) (bin : Bool) (xs : List Qp.Stp) (k : Nat) (hb : (Qp.endP L bin Qp.st0 (xs.take k)).bad = true) : Qp.endP L bin Qp.st0 xs = Qp.endP L bin Qp.st0 (xs.take k) := by
  have e : Qp.endP L bin Qp.st0 xs = Qp.endP L bin (Qp.endP L bin Qp.st0 (xs.take k)) (xs.drop k) := by rw [← Qp.endP_append, List.take_append_drop]
  rw [e]
  exact (Qp.good_endP bin (xs.drop k)).stuck L _ hb

/-- A run that ends at a call that fails. -/
theorem lim_post {w w3 : World} {bin : Bool} {L : Option Nat} {xs : List Qp.Stp} {k : Nat} {v va : Value} {al : List An} (hk : k < xs.length) (hl : al.length = k + 1) (ho : w3.ownsRow w.heap.size 31 3 va (k + 1) (ansCells al))
    (hi : Inv w3 w.heap.size (w.heap.size + 1) w.heap.size bin L (Qp.endP L bin Qp.st0 (xs.take (k + 1))) v) (hb : Below w.heap.size w w3) (hok : (Qp.endP L bin Qp.st0 (xs.take k)).bad = false) (hbad : (Qp.endP L bin Qp.st0 (xs.take (k + 1))).bad = true)
    (ha : ∀ i a x, al[i]? = some a → xs[i]? = some x → AnOK a (Qp.endP L bin Qp.st0 (xs.take (i + 1))) x) : RunPost w bin L xs (.returned (.tuple #[v, va])) w3 := by
  have e := bad_ends L bin xs (k + 1) hbad
  refine ⟨v, va, al, rfl, by rw [e]; exact hi.own, by rw [hl]; exact ho, hb, by omega, fun h => ?_, fun i a x h1 h2 => ⟨ha i a x h1 h2, fun h3 => ?_⟩, fun _ => ⟨k, hl, e.symm⟩⟩
  · rw [e, hbad] at h; cases h
  · rw [(ha i a x h1 h2).1]
    exact bad_stays L bin xs (i + 1) k (by omega) hok

set_option maxHeartbeats 4000000 in
theorem Limited_calls (w : World) (bin : Bool) (m : Nat) (hm : m ≤ 9223372036854775807) (sv : Value) (xs : List Qp.Stp) (hs : Steps w sv xs) (ht : tot xs ≤ 16777216) :
    Calls Try.prog 37 #[.bool bin, .int .i64 (m : Int), sv] w (RunPost w bin (some m) xs) := by
  obtain ⟨i0, hi, hz0, hz1, hz2⟩ := info_parts info31
  obtain ⟨ds, hds, hrd, hdat⟩ := hs
  obtain ⟨sA, sc, rfl, _⟩ := hrd.shape
  have hxl := tot_len xs
  have HD := Lib.hid hdat
  have HR := Lib.hid hrd
  have HDS := Lib.hid hds
  have HNW := Lib.hid (new_fresh w (some m))
  clear hdat hrd hds
  go_enter Try.func37, Try.ntmps37
  go_wp2_with fail
  refine HNW.out.mono ?_
  rintro e w1 ⟨rfl, hfr⟩
  have b0 : w1.cell? ⟨w.heap.size + 1, 0, none⟩ = some (.bool false) := (hfr.wr.cell 0).trans (wcells_0 ..)
  have fz := hfr.wr.frozen 0
  have hI := fresh_inv hfr bin (.cells #[] 31)
  have hsz : w.heap.size ≤ w1.heap.size := hfr.bel.size
  have hO : ((w1.setCell ⟨w.heap.size + 1, 0, none⟩ (.bool bin)).alloc (.cells #[] 31)).ownsRow w.heap.size 31 3 (.slice (some ⟨w1.heap.size, 0, none⟩) 0 0) 0 [] := by
    have := World.ownsRow_made (base := w.heap.size) (e := 31) (size := 3) (w1.setCell ⟨w.heap.size + 1, 0, none⟩ (.bool bin)) #[] 0 (by simpa [World.setCell] using hsz) (by unfold maxLen; omega) (by simp)
    simpa [World.setCell] using this
  have hRel : RRel w bin (some m) xs 0 (.slice (some ⟨w1.heap.size, 0, none⟩) 0 0) ((w1.setCell ⟨w.heap.size + 1, 0, none⟩ (.bool bin)).alloc (.cells #[] 31)) :=
    ⟨_, [], hI.1, hO, hI.2, rfl, rfl, by simp [Qp.endP, Qp.st0], by simp⟩
  have HRel := Lib.hid hRel
  clear hfr hI hO hRel
  go_wp2_with fail
  go_loopw [10, 27] (fun va i wr => ∃ k : Nat, k ≤ xs.length ∧ i = .int .i64 k ∧ RRel w bin (some m) xs k va wr) (fun _ i _ => xs.length - (intOf i).toNat)
  case atStart => exact ⟨0, Nat.zero_le _, rfl, HRel.out⟩
  case round =>
    obtain ⟨k, hk, rfl, v, al, hinv, hown, hbel, hlen, hbad, hbuf, hans⟩ := hrel
    clear b0 fz HRel hsz
    by_cases hkl : k < xs.length
    · have hrw := HR.out.keep hbel
      obtain ⟨ab, ao, rfl, h2, h3⟩ := hrw.get hkl
      obtain ⟨x, hx⟩ : ∃ x, xs[k]? = some x := ⟨xs[k], by simp [hkl]⟩
      obtain ⟨d, hd⟩ : ∃ d, ds[k]? = some d := ⟨ds[k]'(by rw [HDS.out]; exact hkl), by rw [List.getElem?_eq_getElem]⟩
      obtain ⟨g1, g2⟩ := stepCells_at xs ds k x d hx hd
      have c1 : wr.cell? ⟨ab, ao + k * 2, none⟩ = some (.bool x.cl) := h3 _ _ g1
      have c2 : wr.cell? ⟨ab, ao + (k * 2 + 1), none⟩ = some d := h3 _ _ g2
      have hdr := (HD.out k d x hd hx).keep hbel
      obtain ⟨dA, dc, rfl, _⟩ := hdr.shape
      have c2' : wr.cell? ⟨ab, ao + k * 2 + 1, none⟩ = some (.slice dA x.data.length dc) := by rw [Nat.add_assoc]; exact c2
      have htk : tot (xs.take k) + (x.data.length + 1) ≤ 16777216 := by
        have e1 : xs = xs.take k ++ (x :: xs.drop (k + 1)) := by
          have := List.drop_eq_getElem_cons hkl
          have hxk : xs[k] = x := by have := hx; rw [List.getElem?_eq_getElem hkl] at this; injection this
          rw [hxk] at this
          rw [← this, List.take_append_drop]
        have e2 := congrArg tot e1
        rw [tot_append] at e2
        simp only [tot] at e2
        omega
      have hsz := size_endP (some m) bin (xs.take k) Qp.st0
      have e0 : Qp.size Qp.st0 = 0 := rfl
      have hC := call_calls _ w.heap.size (w.heap.size + 1) w.heap.size bin (some m) _ v (.slice dA x.data.length dc) x (hinv.alloc (.cells #[.bool x.cl, .slice dA x.data.length dc] 26)) hbad hbuf (by simpa using hm) (by omega) (hdr.alloc _)
      have HC := Lib.hid hC
      have HI := Lib.hid hinv
      have HO := Lib.hid hown
      have HB := Lib.hid hbel
      have HL := Lib.hid hlen
      have HBad := Lib.hid hbad
      have HAns := Lib.hid hans
      have HX := Lib.hid hx
      clear hC hinv hown hbel hlen hbad hans hx hd g1 g2 hdr htk hsz e0 h2 h3 hrw c2
      go_wp2_with fail
      refine HC.out.mono ?_
      intro e w2 h
      obtain ⟨v1, n, rfl, hn, hi1, hf⟩ := h
      have ho1 : w2.ownsRow w.heap.size 31 3 u10 k (ansCells al) := by
        refine hf.1.own (own_keep HO.out ((Below.refl _ _).alloc (Nat.le_refl _) _)) (fun i hi' hS => ?_)
        obtain ⟨rest, _, hbk⟩ := HI.out.wr
        rcases hS with h | h | h
        · exact own_ne HO.out hbk (by decide) (by rw [hi', h])
        · exact own_ne HO.out HI.out.sk (by decide) (by rw [hi', h])
        · exact own_apart HO.out HI.out.own (by decide) i hi' h
      have hsz2 : w.heap.size ≤ w2.heap.size := by
        have g1 := hf.1.size
        have g2 := HB.out.size
        simp at g1; omega
      have hf2 : Fr (w.heap.size + 1) w.heap.size wr v w2 v1 := ((Fr.refl _ _ wr v).alloc _).trans hf
      generalize hbb : (Qp.callP (some m) bin (Qp.endP (some m) bin Qp.st0 (List.take k xs)) x).bad = bb at *
      generalize hgg : (Qp.callP (some m) bin (Qp.endP (some m) bin Qp.st0 (List.take k xs)) x).got.length = gl at *
      have HN := Lib.hid hn
      have HI1 := Lib.hid (hi1.alloc (.cells #[.int .i64 n, .bool bb, .int .i64 (gl : Int)] 31))
      have HF := Lib.hid (hf2.alloc (.cells #[.int .i64 n, .bool bb, .int .i64 (gl : Int)] 31))
      have HO1 := Lib.hid (own_keep ho1 ((Below.refl _ _).alloc (Nat.le_refl _) (.cells #[.int .i64 n, .bool bb, .int .i64 (gl : Int)] 31)))
      have hne : u10.ownBlock ≠ some w2.heap.size := fun h => by have := (ho1.lt _ h).2; omega
      have HNE := Lib.hid hne
      have HBB := Lib.hid hbb
      have HGG := Lib.hid hgg
      clear hn hi1 hf hf2 ho1 hne hbb hgg
      have r3 := rd_three (w2.alloc (.cells #[.int .i64 n, .bool bb, .int .i64 (gl : Int)] 31)) (.int .i64 n) (.bool bb) (.int .i64 (gl : Int))
      have e3 : (w2.alloc (.cells #[.int .i64 n, .bool bb, .int .i64 (gl : Int)] 31)).heap.size = w2.heap.size + 1 := by simp
      rw [e3] at r3
      have HR3 := Lib.hid r3
      clear r3 e3
      go_wp2_with (at_builtin; refine wpList_app _ rfl (.tmp 35) (.tmp 37) 27 rfl w.heap.size 31 i0 (.agg #[.int .i64 0, .bool false, .int .i64 0]) 3 24 Try.underlying27 hi hz0 hz1 hz2 rfl (by decide) u10 k (ansCells al) rfl (own_keep HO1.out ((Below.refl _ _).alloc (Nat.le_refl _) _)) (.slice (some ⟨w2.heap.size + 1, 0, none⟩) 1 1) 1 [.int .i64 n, .bool bb, .int .i64 (gl : Int)] rfl HR3.out (ones_ans ⟨n, bb, gl⟩) (by unfold maxLen; omega) (by omega) (by simp; omega) ?_)
      intro va' w3 g1 g2 g3
      have R := RRel.next HX.out hbuf HBad.out HL.out HAns.out HB.out HI.out HI1.out HF.out (by rw [HBB.out]; exact HN.out) HO1.out (by rw [HBB.out, HGG.out]; exact g1) g2
      have hca : w3.cell? ⟨w2.heap.size, 1, none⟩ = some (.bool bb) := by
        have hb1 : Blk ((w2.alloc (.cells #[.int .i64 n, .bool bb, .int .i64 (gl : Int)] 31)).alloc (.cells #[.int .i64 n, .bool bb, .int .i64 (gl : Int)] 31)) w2.heap.size 31 #[.int .i64 n, .bool bb, .int .i64 (gl : Int)] := (Blk.new w2 31 _).alloc _
        have hb3 : Blk w3 w2.heap.size 31 #[.int .i64 n, .bool bb, .int .i64 (gl : Int)] := (g2.block _ hb1.lt (fun e => HNE.out e.symm)).trans hb1
        exact hb3.cell 1
      have hsucc := endP_take_succ (some m) bin Qp.st0 xs k x HX.out
      have hbk : (Qp.endP (some m) bin Qp.st0 (xs.take (k + 1))).bad = bb := by rw [hsucc]; exact HBB.out
      have HRR := Lib.hid R
      have HBK := Lib.hid hbk
      clear g1 g2 g3 R hsucc hbk HR3 HNE HO1 HF HI1 HN HGG HC HO
      cases bb with
      | false =>
        go_wp2
        go_roundw
        case rel =>
          obtain ⟨al', r1, r2, r3, r4, r5, r6, _⟩ := HRR.out
          exact ⟨k + 1, by omega, by go_num, v1, al', r3, r2, r4, r1, HBK.out, r5 HBK.out, r6⟩
        case measure => simp [intOf]; omega
      | true =>
        obtain ⟨al', r1, r2, r3, r4, _, r6, _⟩ := HRR.out
        obtain ⟨vo, vc, hv⟩ := own_shape r3.own
        have c0 : w3.cell? ⟨w.heap.size, 0, none⟩ = some v1 := r3.sk.cell 0
        have hP := lim_post hkl r1 r2 r3 r4 HBad.out HBK.out r6
        rw [hv] at c0 hP
        have HP := Lib.hid hP
        clear r1 r2 r3 r4 r6 hv hP HRR
        generalize (Qp.endP (some m) bin Qp.st0 (xs.take (k + 1))).got.length = gn at *
        go_wp2
        go_ret2
        exact HP.out
    · have hke : k = xs.length := by omega
      subst hke
      have hfin : Qp.endP (some m) bin Qp.st0 (xs.take xs.length) = Qp.endP (some m) bin Qp.st0 xs := by rw [List.take_length]
      have hst := fun j (h : j ≤ xs.length) => bad_stays (some m) bin xs j xs.length h hbad
      rw [hfin] at hinv hbad
      obtain ⟨ao, cap, hv⟩ := own_shape hinv.own
      have c0 : wr.cell? ⟨w.heap.size, 0, none⟩ = some v := hinv.sk.cell 0
      rw [hv] at c0
      have hP : RunPost w bin (some m) xs (.returned (.tuple #[.slice ao (Qp.endP (some m) bin Qp.st0 xs).got.length cap, u10])) wr := by
        refine ⟨v, u10, al, by rw [← hv], hinv.own, by rw [hlen]; exact hown, hbel, by omega, fun _ => hlen, fun i a x h1 h2 => ⟨hans i a x h1 h2, fun _ => ?_⟩, fun h => by rw [hbad] at h; cases h⟩
        rw [(hans i a x h1 h2).1]
        exact hst (i + 1) (by have := (List.getElem?_eq_some_iff.1 h2).1; omega)
      have HP := Lib.hid hP
      clear hinv hown hbel hlen hbad hbuf hans hfin hv hP hst
      generalize (Qp.endP (some m) bin Qp.st0 xs).got.length = gn at *
      go_wp2
      go_ret2
      exact HP.out
end Go.Proofs.Ytgdfbnedmifjlaa
