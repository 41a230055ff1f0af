/- FnUnfolded: without its soft line breaks the encoded text has each byte that may stand for itself as it is, and the others as an equals sign and two digits, where what comes in is of bulk at most 1048576. -/
import Derived.Test.YtgdfbnedmifjlaaSpecG
import Derived.Test.YtgdfbnedmifjlaaHead
namespace Go.Proofs.Ytgdfbnedmifjlaa.fnUnfolded
open Go.RowKit Go.ChangeShapes Go.WideShapes Go.ChangeAt

theorem tokens_at (l : List UInt8) (k : Nat) (hk : k < l.length) : Qp.tokens (l.drop k) = Qp.token l[k] (k + 1 == l.length) ++ Qp.tokens (l.drop (k + 1)) := by
  have e : (l.drop (k + 1)).isEmpty = (k + 1 == l.length) := by
    by_cases h : k + 1 = l.length
    · rw [List.drop_eq_nil_of_le (by omega)]; simp [h]
    · cases hd : l.drop (k + 1) with
      | nil => have := congrArg List.length hd; simp at this; omega
      | cons a r => simp [h]
  rw [List.drop_eq_getElem_cons hk, Qp.tokens, e]
theorem tokens_len (l : List UInt8) : (Qp.tokens l).length ≤ 3 * l.length := by
  induction l with
  | nil => simp [Qp.tokens]
  | cons b bs ih =>
    have := (Qp.token_len b bs.isEmpty).2
    simp [Qp.tokens]; omega

/-- The rows of tokens so far. -/
def URel (w : World) (ls : List (List UInt8)) (k : Nat) (v : Value) (wr : World) : Prop := ORow w.heap.size wr v ((ls.take k).map Qp.tokens) ∧ Below w.heap.size w wr
theorem URel.start (w : World) (ls : List (List UInt8)) : URel w ls 0 (.slice (some ⟨w.heap.size, 0, none⟩) 0 0) (w.alloc (.cells #[] 24)) := ⟨ORow.start w, (Below.refl _ _).alloc (Nat.le_refl _) _⟩
theorem URel.next {w wr w' w3 : World} {ls : List (List UInt8)} {k : Nat} {v v' d : Value} {q : List UInt8} {ds : List Value} {o : Obj} (hq : ls[k]? = some q)
    (h1 : ds.length = ((ls.take k).map Qp.tokens).length) (h2 : wr.ownsRow w.heap.size 24 1 v ((ls.take k).map Qp.tokens).length ds)
    (h3 : ∀ (i : Nat) (d : Value) (q : List UInt8), ds[i]? = some d → ((ls.take k).map Qp.tokens)[i]? = some q → wr.ownsRow w.heap.size 5 1 d q.length (q.map bv))
    (hbel : Below w.heap.size w wr) (hd : w'.ownsRow wr.heap.size 5 1 d (Qp.tokens q).length ((Qp.tokens q).map bv)) (hb : Below wr.heap.size wr w')
    (ho : w3.ownsRow w.heap.size 24 1 v' (((ls.take k).map Qp.tokens).length + 1) (ds ++ [d])) (hg : (w'.alloc o).grownBy w3 v.ownBlock) : URel w ls (k + 1) v' w3 := by
  refine ⟨?_, bel_grown (bel_old hbel hb) (own_keep h2 hb) (Nat.le_refl _) o hg⟩
  have e : (ls.take (k + 1)).map Qp.tokens = (ls.take k).map Qp.tokens ++ [Qp.tokens q] := by rw [List.take_add_one, hq]; simp
  rw [e]
  exact ORow.push h1 (own_keep h2 hb) (fun i d q g1 g2 => own_keep (h3 i d q g1 g2) hb) (own_base hd hbel.size) ho hg

set_option maxHeartbeats 8000000 in
theorem walk (w : World) (bin : Bool) (u : Value) (l : List UInt8) (hr : Rd w 1 u l.length (l.map bv)) (hl : l.length ≤ 1048576) : Calls Try.prog 27 #[.bool bin, u] w (Yes w) := by
  obtain ⟨i0, hi, hz0, hz1, hz2⟩ := info_parts info24
  obtain ⟨j0, hj, hy0, hy1, hy2⟩ := info_parts info5
  have HC0 := Lib.hid (fixed_calls w bin u l hr (by omega))
  have HR := Lib.hid hr
  have hel := (Qp.enc_len bin l).2
  have hul := unfolded_len _ (Qp.enc bin l) (Nat.le_refl _)
  have HCan := Lib.hid (fun w' (h : Below w.heap.size w w') => Canonical_calls w' u l (hr.keep h) (by omega))
  obtain ⟨A, c, rfl, _⟩ := hr.shape
  clear hr
  cases hp : (bin || Qp.paired l) with
  | false =>
    rw [hp] at HC0
    clear hp
    go_enter Try.func27, Try.ntmps27
    go_wp2_with fail
    refine HC0.out.mono ?_
    rintro e w' ⟨rfl, rfl⟩
    go_wp2
    go_ret
    exact ⟨rfl, Below.refl _ _⟩
  | true =>
    have hue := Qp.unfolded_enc bin l (by simpa using hp)
    rw [hp] at HC0
    clear hp
    cases bin with
    | true =>
      obtain ⟨ls, hls⟩ : ∃ x, x = [l] := ⟨_, rfl⟩
      have hln : ls.length = 1 := by rw [hls]; rfl
      have hlk : ∀ (k : Nat) (p : List UInt8), ls[k]? = some p → p.length ≤ 2097152 := by
        intro k p hkp
        rw [hls] at hkp
        cases k with
        | zero => simp at hkp; subst hkp; omega
        | succ k => simp at hkp
      have hue' : Qp.unfolded (Qp.enc true l) = Qp.joined (ls.map Qp.tokens) := by rw [hue, hls]; rfl
      have hjl : (Qp.joined (ls.map Qp.tokens)).length ≤ 1073741824 := by rw [← hue']; omega
      have hlc : ls.length ≤ 2097153 := by omega
      have hP : Parts (w.alloc (.cells #[.slice A l.length c] 24)) (.slice (some ⟨w.heap.size, 0, none⟩) ls.length 1) ls := by
        rw [hls]
        exact ⟨[.slice A l.length c], rfl, rd_one w _ _, fun i d q g1 g2 => by
          cases i with
          | zero => simp at g1 g2; subst g1 g2; exact HR.out.alloc _
          | succ i => simp at g1⟩
      have HP := Lib.hid hP
      have HLK := Lib.hid hlk
      have HUE := Lib.hid hue'
      have HLN := Lib.hid hln
      have HB3 := Lib.hid ((Below.refl w.heap.size w).alloc (Nat.le_refl _) (.cells #[.slice A l.length c] 24))
      clear hls hln hlk hue hue' hP HCan
      go_enter Try.func27, Try.ntmps27
      go_wp2_with fail
      refine HC0.out.mono ?_
      rintro e w' ⟨rfl, rfl⟩
      go_wp2_with fail
      have HST := Lib.hid (URel.start (w.alloc (.cells #[.slice A l.length c] 24)) ls)
      have hs3 : (w.alloc (.cells #[.slice A l.length c] 24)).heap.size = w.heap.size + 1 := by simp
      rw [hs3] at HST
      have HS3 := Lib.hid hs3
      clear hs3
      generalize w.alloc (.cells #[.slice A l.length c] 24) = w3 at *
      go_loopw [6, 26] (fun v i wr => ∃ k : Nat, k ≤ 1 ∧ i = .int .i64 k ∧ URel w3 ls k v wr) (fun _ i _ => 1 - (intOf i).toNat)
      case atStart => exact ⟨0, Nat.zero_le _, rfl, HST.out⟩
      case round =>
        obtain ⟨k, hk, rfl, ⟨ds, v1, v2, v3⟩, hbel⟩ := hrel
        clear HST
        have hsz := hbel.size
        by_cases hkl : k < 1
        · have hkl2 : k < ls.length := by rw [HLN.out]; exact hkl
          obtain ⟨ab, ao, e9, _, hcell⟩ := (HP.out.keep hbel).get hkl2
          obtain ⟨p, hp⟩ : ∃ p, ls[k]? = some p := ⟨ls[k], List.getElem?_eq_getElem hkl2⟩
          obtain ⟨dA, dc, c1, hd⟩ := hcell k p hp
          injection e9 with e9; injection e9 with e91 e92; subst e91 e92; rw [Nat.zero_add] at c1
          have hpl := HLK.out k p hp
          have htl := tokens_len p
          have hnl : ((ls.take k).map Qp.tokens).length ≤ k := by simp; omega
          have hnk : ((ls.take k).map Qp.tokens).length = k := by simp; omega
          have HNK := Lib.hid hnk
          have HD := Lib.hid hd
          have HRR := Lib.hid (And.intro hp (And.intro v1 (And.intro v2 (And.intro v3 hbel))))
          have HG0 := Lib.hid (GRel.start wr (Qp.tokens p))
          clear hcell hd hp v1 v2 v3 hbel hnk hkl2
          obtain ⟨wo, hwo⟩ : ∃ x, x = wr := ⟨_, rfl⟩
          subst hwo
          go_wp2_with fail
          go_loopw [9, 33] (fun v i wx => ∃ j : Nat, j ≤ p.length ∧ i = .int .i64 j ∧ GRel wo (Qp.tokens p) (Qp.tokens (p.drop j)) v wx) (fun _ i _ => p.length - (intOf i).toNat)
          case atStart => exact ⟨0, Nat.zero_le _, rfl, HG0.out⟩
          case round =>
            obtain ⟨j, hjp, rfl, hgr⟩ := hrel
            clear HG0
            have hbx : Below wo.heap.size wo wr := by obtain ⟨_, _, h, _⟩ := hgr; exact h
            by_cases hjl : j < p.length
            · obtain ⟨pb, po, rfl, _, hpc⟩ := (HD.out.keep hbx).byte hjl
              have c2 := hpc j hjl
              have hla : ((j : Int) == (p.length : Int) - 1) = (j + 1 == p.length) := by
                rw [Bool.eq_iff_iff]; simp; omega
              have hat := tokens_at p j hjl
              have htk := Qp.token_len p[j] (j + 1 == p.length)
              have HC := Lib.hid (Token_calls wr p[j] (j + 1 == p.length))
              generalize p[j] = x at *
              generalize (j + 1 == p.length) = la at *
              generalize Qp.token x la = t at *
              have HGR := Lib.hid hgr
              have HAT := Lib.hid hat
              clear hpc hbx hgr hat
              go_wp2_with fail
              refine HC.out.mono ?_
              rintro e w1 ⟨rfl, hb1⟩
              obtain ⟨out2, r1, r2, r3⟩ := HGR.out.keep hb1
              rw [HAT.out] at r3
              have ho2 : out2.length + t.length ≤ 8388608 := by
                have e := congrArg List.length r3
                simp only [List.length_append] at e
                omega
              have hsz2 := r2.size
              have R1 := Lib.hid r1
              have R2 := Lib.hid r2
              have R3 := Lib.hid r3
              clear r1 r2 r3 hb1 HGR HAT HC hla
              go_wp2_with (at_builtin; refine wpList_appStr _ rfl (.tmp 38) (.tmp 45) 24 9 rfl wo.heap.size 5 j0 Try.underlying24 Try.underlying9 hj hy0 hy1 hy2 u9 out2.length (out2.map bv) rfl R1.out t rfl (by unfold maxLen; omega) (by omega) (by omega) ?_)
              intro v2 w2 q1 q2
              have HN2 := Lib.hid (GRel.app t R1.out R2.out R3.out q1 q2)
              clear q1 q2 R1 R2 R3
              go_wp2
              go_roundw
              case rel => exact ⟨j + 1, by omega, by go_num, HN2.out⟩
              case measure => simp [intOf]; omega
            · have hje : j = p.length := by omega
              rw [hje, List.drop_length] at hgr
              obtain ⟨d, ed, g1, g2⟩ := GRel.row hgr
              injection ed with ed
              subst ed
              have hsz2 := g2.size
              have HO := Lib.hid (own_keep HRR.out.2.2.1 g2)
              obtain ⟨fA, fc, rfl⟩ := own_shape g1
              have HG := Lib.hid (And.intro g1 g2)
              have hone : ∀ u ∈ [Value.slice fA (Qp.tokens p).length fc], u.oneCell' = true := by simp [Value.oneCell']
              have H1 := Lib.hid hone
              clear g1 g2 hone hgr hbx hje
              go_wp2_with (at_builtin; refine wpList_app _ rfl (.tmp 48) (.tmp 50) 22 rfl w3.heap.size 24 i0 (.slice none 0 0) 1 24 Try.underlying22 hi hz0 hz1 hz2 rfl (by decide) u6 ((ls.take k).map Qp.tokens).length ds rfl (own_keep HO.out ((Below.refl _ _).alloc (Nat.le_refl _) _)) (.slice (some ⟨wr.heap.size, 0, none⟩) 1 1) 1 [.slice fA (Qp.tokens p).length fc] rfl (rd_one wr _ _) H1.out (by unfold maxLen; omega) (by omega) (by simp; omega) ?_)
              intro v' w4 q1 q2 _
              have HN := Lib.hid (URel.next HRR.out.1 HRR.out.2.1 HRR.out.2.2.1 HRR.out.2.2.2.1 HRR.out.2.2.2.2 HG.out.1 HG.out.2 (by first | (rw [HNK.out]; exact q1) | simpa using q1) q2)
              clear q1 q2 HRR HO HG H1
              go_wp2
              go_roundw
              case rel => exact ⟨k + 1, by omega, by go_num, HN.out⟩
              case measure => simp [intOf]; omega
        · have hke : k = ls.length := by rw [HLN.out]; omega
          rw [hke, List.take_length] at v1 v2 v3
          have hO : ORow w3.heap.size wr u6 (ls.map Qp.tokens) := ⟨ds, v1, v2, v3⟩
          have hbw : Below w.heap.size w wr := bel_old HB3.out hbel
          have HC1 := Lib.hid (Encode_bytes wr true _ l (HR.out.keep hbw) (by omega))
          have HJ := Lib.hid (fun w' (h : Below wr.heap.size wr w') => Joined_calls w' u6 _ (hO.keep h).parts hjl (by simp; omega))
          have HBW := Lib.hid hbw
          clear v1 v2 v3 hbel hO hbw hke
          generalize Qp.enc true l = x at *
          go_wp2_with fail
          refine HC1.out.mono ?_
          intro e w4 h
          obtain ⟨eA, ec, rfl, _, hx, hb4⟩ := h
          have HU := Lib.hid (Unfolded_calls w4 _ x hx (by omega))
          have HB4 := Lib.hid hb4
          clear hx hb4
          go_wp2_with fail
          refine HU.out.mono ?_
          intro e w5 h
          obtain ⟨fA, fc, rfl, _, hy, hb5⟩ := h
          have HY := Lib.hid hy
          have HB5 := Lib.hid (bel_old HB4.out hb5)
          clear hy hb5
          go_wp2_with fail
          refine (HJ.out w5 HB5.out).mono ?_
          intro e w6 h
          obtain ⟨gA, gc, rfl, _, hz, hb6⟩ := h
          have HS := Lib.hid (Same_yes w6 _ _ _ _ (HY.out.keep hb6) hz HUE.out)
          have HB6 := Lib.hid (bel_old (bel_old HBW.out HB5.out) hb6)
          clear hz hb6
          go_wp2_with fail
          refine HS.out.mono ?_
          rintro e w' ⟨rfl, rfl⟩
          go_wp2
          go_ret
          exact ⟨rfl, HB6.out⟩
    | false =>
      have hcl : (Qp.canonical l).length ≤ 2 * l.length := canonGo_len l false
      have hlc0 : (Qp.lines (Qp.canonical l)).length ≤ (Qp.canonical l).length + 1 := lines_count _ []
      have hlt := lines_total (Qp.canonical l)
      have HB0 := Lib.hid ((Below.refl w.heap.size w).alloc (Nat.le_refl _) (.cells #[.slice A l.length c] 24))
      have HC1 := Lib.hid (HCan.out _ HB0.out)
      have hue' : Qp.unfolded (Qp.enc false l) = Qp.joined ((Qp.lines (Qp.canonical l)).map Qp.tokens) := hue
      clear hue HCan
      generalize Qp.canonical l = cl at *
      have hjl : (Qp.joined ((Qp.lines cl).map Qp.tokens)).length ≤ 1073741824 := by rw [← hue']; omega
      have hlc : (Qp.lines cl).length ≤ 2097153 := by omega
      have hlk : ∀ (k : Nat) (p : List UInt8), (Qp.lines cl)[k]? = some p → p.length ≤ 2097152 := fun k p hkp => by have := hlt k p hkp; omega
      have HLK := Lib.hid hlk
      have HUE := Lib.hid hue'
      clear hlt hlk hue' hlc0
      go_enter Try.func27, Try.ntmps27
      go_wp2_with fail
      refine HC0.out.mono ?_
      rintro e w' ⟨rfl, rfl⟩
      go_wp2_with fail
      refine HC1.out.mono ?_
      intro e w1 h
      obtain ⟨xA, xc, rfl, _, hx, hb1⟩ := h
      have HC2 := Lib.hid (Lines_calls w1 _ cl hx (by omega))
      have HB1 := Lib.hid (HB0.out.trans (hb1.mono (by simp)))
      clear hx hb1 HC1 HB0
      generalize Qp.lines cl = ls at *
      go_wp2_with fail
      refine HC2.out.mono ?_
      intro e w3 h
      obtain ⟨yA, yc, rfl, _, hy, hb2⟩ := h
      have HP := Lib.hid hy
      have HB3 := Lib.hid (bel_old HB1.out hb2)
      have HST := Lib.hid (URel.start w3 ls)
      clear hy hb2 HC2 HB1
      go_wp2_with fail
      go_loopw [6, 26] (fun v i wr => ∃ k : Nat, k ≤ ls.length ∧ i = .int .i64 k ∧ URel w3 ls k v wr) (fun _ i _ => ls.length - (intOf i).toNat)
      case atStart => exact ⟨0, Nat.zero_le _, rfl, HST.out⟩
      case round =>
        obtain ⟨k, hk, rfl, ⟨ds, v1, v2, v3⟩, hbel⟩ := hrel
        clear HST
        have hsz := hbel.size
        by_cases hkl : k < ls.length
        · have hkl2 : k < ls.length := by exact hkl
          obtain ⟨ab, ao, rfl, _, hcell⟩ := (HP.out.keep hbel).get hkl2
          obtain ⟨p, hp⟩ : ∃ p, ls[k]? = some p := ⟨ls[k], List.getElem?_eq_getElem hkl2⟩
          obtain ⟨dA, dc, c1, hd⟩ := hcell k p hp
          skip
          have hpl := HLK.out k p hp
          have htl := tokens_len p
          have hnl : ((ls.take k).map Qp.tokens).length ≤ k := by simp; omega
          have hnk : ((ls.take k).map Qp.tokens).length = k := by simp; omega
          have HNK := Lib.hid hnk
          have HD := Lib.hid hd
          have HRR := Lib.hid (And.intro hp (And.intro v1 (And.intro v2 (And.intro v3 hbel))))
          have HG0 := Lib.hid (GRel.start wr (Qp.tokens p))
          clear hcell hd hp v1 v2 v3 hbel hnk hkl2
          obtain ⟨wo, hwo⟩ : ∃ x, x = wr := ⟨_, rfl⟩
          subst hwo
          go_wp2_with fail
          go_loopw [9, 33] (fun v i wx => ∃ j : Nat, j ≤ p.length ∧ i = .int .i64 j ∧ GRel wo (Qp.tokens p) (Qp.tokens (p.drop j)) v wx) (fun _ i _ => p.length - (intOf i).toNat)
          case atStart => exact ⟨0, Nat.zero_le _, rfl, HG0.out⟩
          case round =>
            obtain ⟨j, hjp, rfl, hgr⟩ := hrel
            clear HG0
            have hbx : Below wo.heap.size wo wr := by obtain ⟨_, _, h, _⟩ := hgr; exact h
            by_cases hjl : j < p.length
            · obtain ⟨pb, po, rfl, _, hpc⟩ := (HD.out.keep hbx).byte hjl
              have c2 := hpc j hjl
              have hla : ((j : Int) == (p.length : Int) - 1) = (j + 1 == p.length) := by
                rw [Bool.eq_iff_iff]; simp; omega
              have hat := tokens_at p j hjl
              have htk := Qp.token_len p[j] (j + 1 == p.length)
              have HC := Lib.hid (Token_calls wr p[j] (j + 1 == p.length))
              generalize p[j] = x at *
              generalize (j + 1 == p.length) = la at *
              generalize Qp.token x la = t at *
              have HGR := Lib.hid hgr
              have HAT := Lib.hid hat
              clear hpc hbx hgr hat
              go_wp2_with fail
              refine HC.out.mono ?_
              rintro e w1 ⟨rfl, hb1⟩
              obtain ⟨out2, r1, r2, r3⟩ := HGR.out.keep hb1
              rw [HAT.out] at r3
              have ho2 : out2.length + t.length ≤ 8388608 := by
                have e := congrArg List.length r3
                simp only [List.length_append] at e
                omega
              have hsz2 := r2.size
              have R1 := Lib.hid r1
              have R2 := Lib.hid r2
              have R3 := Lib.hid r3
              clear r1 r2 r3 hb1 HGR HAT HC hla
              go_wp2_with (at_builtin; refine wpList_appStr _ rfl (.tmp 38) (.tmp 45) 24 9 rfl wo.heap.size 5 j0 Try.underlying24 Try.underlying9 hj hy0 hy1 hy2 u9 out2.length (out2.map bv) rfl R1.out t rfl (by unfold maxLen; omega) (by omega) (by omega) ?_)
              intro v2 w2 q1 q2
              have HN2 := Lib.hid (GRel.app t R1.out R2.out R3.out q1 q2)
              clear q1 q2 R1 R2 R3
              go_wp2
              go_roundw
              case rel => exact ⟨j + 1, by omega, by go_num, HN2.out⟩
              case measure => simp [intOf]; omega
            · have hje : j = p.length := by omega
              rw [hje, List.drop_length] at hgr
              obtain ⟨d, ed, g1, g2⟩ := GRel.row hgr
              injection ed with ed
              subst ed
              have hsz2 := g2.size
              have HO := Lib.hid (own_keep HRR.out.2.2.1 g2)
              obtain ⟨fA, fc, rfl⟩ := own_shape g1
              have HG := Lib.hid (And.intro g1 g2)
              have hone : ∀ u ∈ [Value.slice fA (Qp.tokens p).length fc], u.oneCell' = true := by simp [Value.oneCell']
              have H1 := Lib.hid hone
              clear g1 g2 hone hgr hbx hje
              go_wp2_with (at_builtin; refine wpList_app _ rfl (.tmp 48) (.tmp 50) 22 rfl w3.heap.size 24 i0 (.slice none 0 0) 1 24 Try.underlying22 hi hz0 hz1 hz2 rfl (by decide) u6 ((ls.take k).map Qp.tokens).length ds rfl (own_keep HO.out ((Below.refl _ _).alloc (Nat.le_refl _) _)) (.slice (some ⟨wr.heap.size, 0, none⟩) 1 1) 1 [.slice fA (Qp.tokens p).length fc] rfl (rd_one wr _ _) H1.out (by unfold maxLen; omega) (by omega) (by simp; omega) ?_)
              intro v' w4 q1 q2 _
              have HN := Lib.hid (URel.next HRR.out.1 HRR.out.2.1 HRR.out.2.2.1 HRR.out.2.2.2.1 HRR.out.2.2.2.2 HG.out.1 HG.out.2 (by first | (rw [HNK.out]; exact q1) | simpa using q1) q2)
              clear q1 q2 HRR HO HG H1
              go_wp2
              go_roundw
              case rel => exact ⟨k + 1, by omega, by go_num, HN.out⟩
              case measure => simp [intOf]; omega
        · have hke : k = ls.length := by omega
          rw [hke, List.take_length] at v1 v2 v3
          have hO : ORow w3.heap.size wr u6 (ls.map Qp.tokens) := ⟨ds, v1, v2, v3⟩
          have hbw : Below w.heap.size w wr := bel_old HB3.out hbel
          have HC1 := Lib.hid (Encode_bytes wr false _ l (HR.out.keep hbw) (by omega))
          have HJ := Lib.hid (fun w' (h : Below wr.heap.size wr w') => Joined_calls w' u6 _ (hO.keep h).parts hjl (by simp; omega))
          have HBW := Lib.hid hbw
          clear v1 v2 v3 hbel hO hbw hke
          generalize Qp.enc false l = x at *
          go_wp2_with fail
          refine HC1.out.mono ?_
          intro e w4 h
          obtain ⟨eA, ec, rfl, _, hx, hb4⟩ := h
          have HU := Lib.hid (Unfolded_calls w4 _ x hx (by omega))
          have HB4 := Lib.hid hb4
          clear hx hb4
          go_wp2_with fail
          refine HU.out.mono ?_
          intro e w5 h
          obtain ⟨fA, fc, rfl, _, hy, hb5⟩ := h
          have HY := Lib.hid hy
          have HB5 := Lib.hid (bel_old HB4.out hb5)
          clear hy hb5
          go_wp2_with fail
          refine (HJ.out w5 HB5.out).mono ?_
          intro e w6 h
          obtain ⟨gA, gc, rfl, _, hz, hb6⟩ := h
          have HS := Lib.hid (Same_yes w6 _ _ _ _ (HY.out.keep hb6) hz HUE.out)
          have HB6 := Lib.hid (bel_old (bel_old HBW.out HB5.out) hb6)
          clear hz hb6
          go_wp2_with fail
          refine HS.out.mono ?_
          rintro e w' ⟨rfl, rfl⟩
          go_wp2
          go_ret
          exact ⟨rfl, HB6.out⟩

theorem contract (H : Type) (enc : TypeId × Value → H) (W : World) (base : Nat) (args : Array Value) (ds gs : List (DataW H)) (before : List MemPlace)
    (hval : ∀ (j : Nat) t v, Try.f27.params[j]? = some t → args[j]? = some v → Value.okWide Try.prog W .any base t v)
    (hW : DataW.Whole enc Try.prog Try.f27.params.toList Rows.fnUnfoldedSpec.vars false W args.toList ds gs before) (hk : Rows.uptoSmall H (ds ++ gs) = true) :
    Calls Try.prog 27 args W fun e W' => ∃ v, e = .returned v ∧ Rows.fnUnfoldedSpec.post enc Try.prog Try.f27 false true false false W args v W' := by
  have hW' := hW
  have hlt := hW.lt
  obtain ⟨p, q, hA0, hV, rfl, _, _⟩ := hW
  have hA : DataW.TrodAll enc Try.prog W 0 (fun _ => true) true Try.f27.params.toList args.toList ds p := hA0
  rw [Try.params27] at hA hval
  obtain ⟨v0, vs0, d0, ds0, p0, q0, hargs, rfl, rfl, h0, r0⟩ := trodAll_cons hA
  obtain ⟨v1, vs1, d1, ds1, p1, q1, rfl, rfl, rfl, h1, r1⟩ := trodAll_cons r0
  obtain ⟨rfl, rfl, rfl⟩ := trodAll_nil r1
  obtain rfl : args = #[v0, v1] := by cases args; simp_all
  obtain ⟨rfl, rfl⟩ := trodVars_none hV
  have hbulk := bulk_of hk
  obtain ⟨a0, rfl, _, _⟩ := open_bool Try.underlying4 (hval 0 4 v0 rfl rfl) h0
  obtain ⟨l1, g1, b1⟩ := open_bytes (hval 1 24 v1 rfl rfl) h1 (fun y hy => hlt y (by simp [hy]))
  simp only [List.append_nil, Rows.uptoBulkAll] at hbulk
  refine (walk W a0 v1 l1 g1 (by omega)).mono fun e W' ⟨he, hg⟩ => ?_
  subst he
  exact ⟨_, rfl, law_post hW' rfl rfl rfl rfl rfl (by rw [Try.params27]; intro t ht; simp at ht; rcases ht with rfl | rfl <;> exact ⟨by kernel_rfl, of_decide_eq_true (by kernel_rfl)⟩) hg⟩

set_option maxRecDepth 100000 in
theorem lifted (os : Os) (started : os.Started) (H : Type) (enc : TypeId × Value → H) (F : Stop.Interp) :
    ReturnsInHanded {} Try.checked os 27 .any ((Rows.OpenSpec.upto Rows.fnUnfoldedSpec).pre6 enc Try.prog Try.f27 Rows.fnUnfoldedUptoRow.domain false) (((Rows.OpenSpec.upto Rows.fnUnfoldedSpec).at F).post enc Try.prog Try.f27 false true false false) := by
  refine returnsInHanded_of_cond (C := Try.checked) (s := Rows.OpenSpec.upto Rows.fnUnfoldedSpec) (k := Rows.uptoSmall) rfl Try.ownk started (by kernel_rfl) Try.func27
    (OpenSpec.witness (enc := enc) (C := Try.checked) (s := Rows.OpenSpec.upto Rows.fnUnfoldedSpec) (k := Rows.uptoSmall) rfl false ⟨#[], #[.bool false, .slice none 0 0], []⟩ 8 (by kernel_rfl) (by kernel_rfl) (by kernel_rfl)
      (x := ([.lit (.bool false), .nil], [], [])) (by kernel_rfl) rfl (by kernel_rfl)) ?_
  intro W base args ds gs before hval hW _ hk _
  exact contract H enc W base args ds gs before hval hW hk

theorem closed : joinedFacts Try.prog 27 Try.f27 (Rows.OpenSpec.upto Rows.fnUnfoldedSpec).bare Rows.fnUnfoldedUptoRow = true := by
  unfold joinedFacts
  rw [enters, lifts_no, make_cut]
  kernel_rfl

theorem proved : Rows.FnUnfoldedUptoSaid :=
  OpenClaim.holds_of_cond 27 Try.f27 rfl rfl rfl rfl rfl rfl rfl ⟨rfl, rfl, rfl, rfl, rfl⟩ rfl rfl rfl rfl rfl (by kernel_rfl) Try.func27 closed
    (of_decide_eq_true (by kernel_rfl)) (by unfold Func.isWrapper; rw [if_neg (of_decide_eq_false (by kernel_rfl))]; exact ⟨rfl, rfl⟩)
    (fun os started H enc _ F => lifted os started H enc F)
end Go.Proofs.Ytgdfbnedmifjlaa.fnUnfolded
