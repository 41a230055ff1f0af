/- Encoded of the reference. -/
import Derived.Test.YtgdfbnedmifjlaaSpecF
import Derived.Test.YtgdfbnedmifjlaaPlainD
namespace Go.Proofs.Ytgdfbnedmifjlaa
open Go.RowKit

/-! What reads on, if the empty block g and new blocks alone may turn. -/
theorem Rd.only {w w' : World} {g n : Nat} {t : TypeId} {v : Value} {xs : List Value} (h : Rd w 1 v n xs) (hg : Blk w g t #[]) (ho : Only (fun i => i = g ∨ w.heap.size ≤ i) w w') : Rd w' 1 v n xs := by
  refine ⟨h.1, ?_⟩
  rcases h.2 with h2 | ⟨ad, c, h1, h2, h3⟩
  · exact .inl h2
  · refine .inr ⟨ad, c, h1, h2, fun hn => ?_⟩
    obtain ⟨h4, h5, h6⟩ := h3 hn
    have hne : ad.block ≠ g := by
      intro e
      have hl := h.1
      have hu : xs[0]? = some (xs[0]'(by omega)) := List.getElem?_eq_getElem _
      have := h6 0 _ hu
      rw [e, hg.cell] at this
      simp at this
    exact ⟨h4, Nat.lt_of_lt_of_le h5 ho.size, fun j u hu => (ho.cell (p := ⟨ad.block, ad.off + j, none⟩) h5 (fun hS => by
      rcases hS with h | h
      · exact hne h
      · exact absurd h5 (by simp at h; omega))).trans (h6 j u hu)⟩
theorem Parts.only {w w' : World} {g : Nat} {t : TypeId} {v : Value} {ps : List (List UInt8)} (h : Parts w v ps) (hg : Blk w g t #[]) (ho : Only (fun i => i = g ∨ w.heap.size ≤ i) w w') : Parts w' v ps := by
  obtain ⟨ds, h1, h2, h3⟩ := h
  exact ⟨ds, h1, h2.only hg ho, fun i d q g1 g2 => (h3 i d q g1 g2).only hg ho⟩

def ERel (w w2 : World) (ls : List (List UInt8)) (k : Nat) (v : Value) (wr : World) : Prop :=
  ORow w.heap.size wr v ((ls.take k).map Qp.filled) ∧ Only (fun i => i = w.heap.size ∨ w2.heap.size ≤ i) w2 wr ∧ (∀ j, v.ownBlock = some j → j = w.heap.size ∨ w2.heap.size ≤ j)
theorem ERel.start {w w2 : World} (ls : List (List UInt8)) (hb : Below (w.alloc (.cells #[] 24)).heap.size (w.alloc (.cells #[] 24)) w2) : ERel w w2 ls 0 (.slice (some ⟨w.heap.size, 0, none⟩) 0 0) w2 := by
  refine ⟨(ORow.start w).keep hb, Only.refl _ _, fun j hj => ?_⟩
  simp [Value.ownBlock] at hj
  exact .inl hj.symm
theorem ERel.next {w w2 wr w' w3 : World} {ls : List (List UInt8)} {k : Nat} {v v' d : Value} {q : List UInt8} {ds : List Value} {o : Obj} (hq : ls[k]? = some q)
    (h1 : ds.length = ((ls.take k).map Qp.filled).length) (h2 : wr.ownsRow w.heap.size 24 1 v ((ls.take k).map Qp.filled).length ds)
    (h3 : ∀ (i : Nat) (d : Value) (q : List UInt8), ds[i]? = some d → ((ls.take k).map Qp.filled)[i]? = some q → wr.ownsRow w.heap.size 5 1 d q.length (q.map bv))
    (h4 : Only (fun i => i = w.heap.size ∨ w2.heap.size ≤ i) w2 wr) (h5 : ∀ j, v.ownBlock = some j → j = w.heap.size ∨ w2.heap.size ≤ j) (hw : w.heap.size ≤ wr.heap.size)
    (hd : w'.ownsRow wr.heap.size 5 1 d (Qp.filled q).length ((Qp.filled q).map bv)) (hb : Below wr.heap.size wr w')
    (ho : w3.ownsRow w.heap.size 24 1 v' (((ls.take k).map Qp.filled).length + 1) (ds ++ [d])) (hg : (w'.alloc o).grownBy w3 v.ownBlock) (hat : v'.ownBlock = v.ownBlock ∨ v'.ownBlock = some (w'.alloc o).heap.size) : ERel w w2 ls (k + 1) v' w3 := by
  have hsz := h4.size
  have hsz2 := hb.size
  refine ⟨?_, ?_, ?_⟩
  · have e : (ls.take (k + 1)).map Qp.filled = (ls.take k).map Qp.filled ++ [Qp.filled q] := by rw [List.take_add_one, hq]; simp
    rw [e]
    exact ORow.push h1 (own_keep h2 hb) (fun i d q g1 g2 => own_keep (h3 i d q g1 g2) hb) (own_base hd hw) ho hg
  · have a1 : Only (fun i => i = w.heap.size ∨ w2.heap.size ≤ i) w2 w' := h4.trans (Only.of_below hb) (fun i hi h => by omega)
    exact (a1.alloc o).grown hg (fun j hj => (h5 j hj).elim (fun h => .inl (.inl h)) .inr)
  · intro j hj
    rcases hat with h | h
    · rw [h] at hj; exact h5 j hj
    · rw [h] at hj
      injection hj with hj
      right
      simp at hj
      omega

theorem lines_total (l : List UInt8) : ∀ (k : Nat) (p : List UInt8), (Qp.lines l)[k]? = some p → p.length ≤ l.length := by
  intro k p hp
  have h1 : Qp.joined (Qp.lines l) = l := by have := Qp.joined_linesGo l []; simpa [Qp.lines] using this
  have h2 : ∀ (ls : List (List UInt8)) (p : List UInt8), p ∈ ls → p.length ≤ (Qp.joined ls).length := by
    intro ls p hm
    cases ls with
    | nil => simp at hm
    | cons a ls =>
      have key : ∀ (ls : List (List UInt8)), p ∈ ls → p.length ≤ (Qp.joinGo ls).length := by
        intro ls
        induction ls with
        | nil => intro h; simp at h
        | cons b ls ih =>
          intro h
          rcases List.mem_cons.1 h with rfl | h
          · simp [Qp.joinGo]; omega
          · have := ih h; simp [Qp.joinGo]; omega
      rcases List.mem_cons.1 hm with rfl | h
      · simp [Qp.joined]
      · have := key ls h; simp [Qp.joined]; omega
  have := h2 _ p (List.mem_of_getElem? hp)
  rwa [h1] at this

set_option maxHeartbeats 4000000 in
theorem Encoded_calls (w : World) (bin : Bool) (v : Value) (l : List UInt8) (hr : Rd w 1 v l.length (l.map bv)) (hl : l.length ≤ 16777216) (hf : (bin || Qp.paired l) = true) :
    Calls Try.prog 36 #[.bool bin, v] w (NewBytes w (Qp.enc bin l)) := by
  have hf' : bin = true ∨ Qp.paired l = true := by simpa using hf
  have henc := Qp.encoded_eq bin l hf'
  have hel := (Qp.enc_len bin l).2
  obtain ⟨A, c, rfl, _⟩ := hr.shape
  cases bin with
  | true =>
    have e : Qp.enc true l = Qp.filled l := by rw [← henc]; simp [Qp.encoded]
    rw [e]
    have HC := Lib.hid (Filled_calls w _ l hr (by omega))
    clear hr hf hf' henc hel e
    generalize Qp.filled l = x at *
    go_enter Try.func36, Try.ntmps36
    go_wp2_with fail
    refine HC.out.mono ?_
    intro e w1 h
    obtain ⟨A, c, rfl, h1, h2, h3⟩ := h.bytes
    have HP : Hid (NewBytes w x (.returned (.slice A x.length c)) w1) := Lib.hid ⟨A, c, rfl, h1, h2, h3⟩
    clear h h1 h2 h3
    go_wp2
    go_ret
    exact HP.out
  | false =>
    obtain ⟨i0, hi, hz0, hz1, hz2⟩ := info_parts info24
    have e : Qp.enc false l = Qp.joined ((Qp.lines (Qp.canonical l)).map Qp.filled) := by rw [← henc]; simp [Qp.encoded]
    have hcl : (Qp.canonical l).length ≤ 2 * l.length := canonGo_len l false
    have hlc : (Qp.lines (Qp.canonical l)).length ≤ (Qp.canonical l).length + 1 := lines_count _ []
    have hlt := lines_total (Qp.canonical l)
    rw [e] at hel ⊢
    have HLT := Lib.hid hlt
    have HC1 := Lib.hid (Canonical_calls (w.alloc (.cells #[] 24)) _ l (hr.alloc _) (by omega))
    have HST := Lib.hid (fun (w2 : World) ls (h : Below (w.alloc (.cells #[] 24)).heap.size (w.alloc (.cells #[] 24)) w2) => ERel.start ls h)
    have HBlk := Lib.hid (Blk.new w 24 #[])
    clear hr hf hf' henc e hlt
    generalize Qp.canonical l = cl at *
    go_enter Try.func36, Try.ntmps36
    go_wp2_with fail
    refine HC1.out.mono ?_
    intro e w1 h
    obtain ⟨xA, xc, rfl, _, hx, hb1⟩ := h
    have HC2 := Lib.hid (Lines_calls w1 _ cl hx (by omega))
    have HB1 := Lib.hid hb1
    clear hx hb1 HC1
    generalize Qp.lines cl = ls at *
    go_wp2_with fail
    refine HC2.out.mono ?_
    intro e w2 h
    obtain ⟨yA, yc, rfl, _, hy, hb2⟩ := h
    have HP := Lib.hid hy
    have hb12 := bel_old HB1.out hb2
    have HB2 := Lib.hid hb12
    have HS0 := Lib.hid (HST.out w2 ls hb12)
    have hbk : Blk w2 w.heap.size 24 #[] := (hb12.block _ (by simp)).trans HBlk.out
    have HBk := Lib.hid hbk
    have hw2 : w.heap.size + 1 ≤ w2.heap.size := by have := hb12.size; simpa using this
    clear hy hb2 hb12 hbk HC2 HST HBlk HB1
    go_wp2_with fail
    go_loopw [5, 16] (fun v i wr => ∃ k : Nat, k ≤ ls.length ∧ i = .int .i64 k ∧ ERel w w2 ls k v wr) (fun _ i _ => ls.length - (intOf i).toNat)
    case atStart => exact ⟨0, Nat.zero_le _, rfl, HS0.out⟩
    case round =>
      obtain ⟨k, hk, rfl, ⟨ds, v1, v2, v3⟩, ho, hv⟩ := hrel
      clear HS0
      have hsz := ho.size
      by_cases hkl : k < ls.length
      · obtain ⟨ab, ao, rfl, _, hcell⟩ := (HP.out.only HBk.out ho).get hkl
        obtain ⟨p, hp⟩ : ∃ p, ls[k]? = some p := ⟨ls[k], List.getElem?_eq_getElem hkl⟩
        obtain ⟨dA, dc, c1, hd⟩ := hcell k p hp
        have hpl := HLT.out k p hp
        have HC := Lib.hid (Filled_calls wr _ p hd (by omega))
        have HR := Lib.hid (And.intro hp (And.intro v1 (And.intro v2 (And.intro v3 (And.intro ho hv)))))
        have hnl : ((ls.take k).map Qp.filled).length ≤ k := by simp; omega
        have hnk : ((ls.take k).map Qp.filled).length = k := by simp; omega
        have HNK := Lib.hid hnk
        clear hnk
        clear hcell hd hp v1 v2 v3 ho hv
        go_wp2_with fail
        refine HC.out.mono ?_
        intro e w' h
        obtain ⟨d, rfl, g1, g2⟩ := h
        have hsz2 := g2.size
        have HO := Lib.hid (own_keep HR.out.2.2.1 g2)
        obtain ⟨fA, fc, rfl⟩ := own_shape g1
        have HG := Lib.hid (And.intro g1 g2)
        clear g1 g2 HC
        have hone : ∀ u ∈ [Value.slice fA (Qp.filled p).length fc], u.oneCell' = true := by simp [Value.oneCell']
        have H1 := Lib.hid hone
        clear hone
        go_wp2_with (at_builtin; refine wpList_app _ rfl (.tmp 20) (.tmp 23) 22 rfl w.heap.size 24 i0 (.slice none 0 0) 1 24 Try.underlying22 hi hz0 hz1 hz2 rfl (by decide) u5 ((ls.take k).map Qp.filled).length ds rfl (own_keep HO.out ((Below.refl _ _).alloc (Nat.le_refl _) _)) (.slice (some ⟨w'.heap.size, 0, none⟩) 1 1) 1 [.slice fA (Qp.filled p).length fc] rfl (rd_one w' _ _) H1.out (by unfold maxLen; omega) (by omega) (by simp; omega) ?_)
        intro v' w3 q1 q2 q3
        have HN := Lib.hid (ERel.next HR.out.1 HR.out.2.1 HR.out.2.2.1 HR.out.2.2.2.1 HR.out.2.2.2.2.1 HR.out.2.2.2.2.2 (by omega) HG.out.1 HG.out.2 (by rw [HNK.out]; exact q1) q2 (by simpa using q3))
        clear q1 q2 q3 HR HO HG H1
        go_wp2
        go_roundw
        case rel => exact ⟨k + 1, by omega, by go_num, HN.out⟩
        case measure => simp [intOf]; omega
      · have hke : k = ls.length := by omega
        subst hke
        rw [List.take_length] at v1 v2 v3
        have hO : ORow w.heap.size wr u5 (ls.map Qp.filled) := ⟨ds, v1, v2, v3⟩
        have hb : Below w.heap.size w wr := by
          have h1 : Below w.heap.size w2 wr := ho.below (by omega) (fun i hS => by omega)
          exact ((((Below.refl _ w).alloc (Nat.le_refl _) _).trans (HB2.out.mono (by simp)))).trans h1
        have HC := Lib.hid (Joined_calls wr u5 _ hO.parts (by omega) (by simp; omega))
        have HB := Lib.hid hb
        clear v1 v2 v3 ho hv hO hb
        generalize Qp.joined (ls.map Qp.filled) = x at *
        go_wp2_with fail
        refine HC.out.mono ?_
        intro e w4 h
        obtain ⟨zA, zc, rfl, z1, z2, z3⟩ := h
        have HN : Hid (NewBytes w x (.returned (.slice zA x.length zc)) w4) := Lib.hid ⟨zA, zc, rfl, z1, z2, bel_old HB.out z3⟩
        clear z1 z2 z3
        go_wp2
        go_ret
        exact HN.out
end Go.Proofs.Ytgdfbnedmifjlaa
