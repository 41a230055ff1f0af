/- Token, Filled, Encoded of the reference. -/
import Derived.Test.YtgdfbnedmifjlaaGrow
import Derived.Lib.AppendStr
import Derived.Deep.QuietTactic
import Derived.BigQuiet
import Derived.StillTailTactics
namespace Go.Proofs.Ytgdfbnedmifjlaa
open Go.RowKit

/-- What Token leaves. -/
def NewStr (w : World) (l : List UInt8) (e : Ending) (w' : World) : Prop := e = .returned (.string ⟨l.toArray⟩) ∧ Below w.heap.size w w'
theorem token_self (b : UInt8) (last : Bool) (h : (Qp.lit b || (Qp.blank b && !last)) = true) : Qp.token b last = [b] := by simp [Qp.token, h]
theorem token_hex (b : UInt8) (last : Bool) (h : (Qp.lit b || (Qp.blank b && !last)) = false) : Qp.token b last = Qp.enc3 b := by simp [Qp.token, h]

theorem conv_one (w : World) (b : UInt8) : (convert 24 9 (.slice (some ⟨w.heap.size, 0, none⟩) 1 1)).run Try.prog (w.alloc (.cells #[.int .u8 (b.toNat : Int)] 5)) = .ok (.string ⟨#[b]⟩) (w.alloc (.cells #[.int .u8 (b.toNat : Int)] 5)) :=
  conv_bytes (rd_row w [b] #[.int .u8 (b.toNat : Int)] rfl)
theorem Token_self (w : World) (b : UInt8) (last : Bool) (h : (Qp.lit b || (Qp.blank b && !last)) = true) : Calls Try.prog 48 #[.int .u8 (b.toNat : Int), .bool last] w (NewStr w [b]) := by
  have hlt := b.toNat_lt
  have k1 := conv_one w b
  have HB := Lib.hid ((Below.refl w.heap.size w).alloc (Nat.le_refl _) (.cells #[.int .u8 (b.toNat : Int)] 5))
  cases hl : Qp.lit b with
  | true =>
    have HL := Lib.hid (Lit_yes b w hl)
    clear h hl
    go_enter Try.func48, Try.ntmps48
    go_wp2_with fail
    refine HL.out.mono ?_
    rintro e w' ⟨rfl, rfl⟩
    go_wp2
    go_ret
    exact ⟨rfl, HB.out⟩
  | false =>
    rw [hl] at h
    have h' : Qp.blank b = true ∧ last = false := by simpa using h
    obtain ⟨hbl, rfl⟩ := h'
    have HL := Lib.hid (Lit_no b w hl)
    have HBl := Lib.hid (Blank_yes b w hbl)
    clear h hl hbl
    go_enter Try.func48, Try.ntmps48
    go_wp2_with fail
    refine HL.out.mono ?_
    rintro e w' ⟨rfl, rfl⟩
    go_wp2_with fail
    refine HBl.out.mono ?_
    rintro e w' ⟨rfl, rfl⟩
    go_wp2
    go_ret
    exact ⟨rfl, HB.out⟩
theorem conv_hex (w : World) (b c : UInt8) : (convert 24 9 (.slice (some ⟨w.heap.size, 0, none⟩) 3 3)).run Try.prog (w.alloc (.cells #[.int .u8 61, .int .u8 (b.toNat : Int), .int .u8 (c.toNat : Int)] 5)) = .ok (.string ⟨#[61, b, c]⟩) (w.alloc (.cells #[.int .u8 61, .int .u8 (b.toNat : Int), .int .u8 (c.toNat : Int)] 5)) :=
  conv_bytes (rd_row w [61, b, c] #[.int .u8 61, .int .u8 (b.toNat : Int), .int .u8 (c.toNat : Int)] rfl)
theorem u8_wrap (n : Int) (h0 : 0 ≤ n) (h1 : n ≤ 255) : IntKind.u8.wrap n = n := by
  simp [IntKind.wrap, IntKind.signed, IntKind.bits]
  omega
theorem tok_quo (b : UInt8) : (b.toNat : Int).tdiv 16 = (b.toNat : Int) / 16 := Int.tdiv_eq_ediv_of_nonneg (by omega)
theorem tok_rem (b : UInt8) : (b.toNat : Int).tmod 16 = (b.toNat : Int) % 16 := Int.tmod_eq_emod_of_nonneg (by omega)

set_option maxHeartbeats 2000000 in
theorem Token_hex (w : World) (b : UInt8) (last : Bool) (h : (Qp.lit b || (Qp.blank b && !last)) = false) : Calls Try.prog 48 #[.int .u8 (b.toNat : Int), .bool last] w (NewStr w (Qp.enc3 b)) := by
  have hlt := b.toNat_lt
  have hl : Qp.lit b = false := by
    cases hl : Qp.lit b with
    | false => rfl
    | true => rw [hl] at h; simp at h
  rw [hl, Bool.false_or] at h
  have HL := Lib.hid (Lit_no b w hl)
  have k1 := hex_hi b
  have k2 := hex_lo b
  have q1 := tok_quo b
  have q2 := tok_rem b
  have q3 : IntKind.u8.wrap ((b.toNat : Int) / 16) = (b.toNat : Int) / 16 := u8_wrap _ (by omega) (by omega)
  have q4 : IntKind.u8.wrap ((b.toNat : Int) % 16) = (b.toNat : Int) % 16 := u8_wrap _ (by omega) (by omega)
  clear hl
  cases hbl : Qp.blank b with
  | false =>
    have HBl := Lib.hid (Blank_no b w hbl)
    clear h hbl
    go_enter Try.func48, Try.ntmps48
    go_wp2_with fail
    refine HL.out.mono ?_
    rintro e w' ⟨rfl, rfl⟩
    go_wp2_with fail
    refine HBl.out.mono ?_
    rintro e w' ⟨rfl, rfl⟩
    go_wp2_with fail
    go_still_tail 8, (by kernel_rfl)
    change wpList _ _ _ _ _ w.drew
    have HB : Hid (Below w.heap.size w (w.drew.alloc (.cells #[.int .u8 61, .int .u8 ((Qp.hexd (b.toNat / 16)).toNat : Int), .int .u8 ((Qp.hexd (b.toNat % 16)).toNat : Int)] 5))) := Lib.hid ((Below.refl _ w).drew.alloc (Nat.le_refl _) _)
    generalize w.drew = x at *
    have k3 := conv_hex x (Qp.hexd (b.toNat / 16)) (Qp.hexd (b.toNat % 16))
    go_wp2
    go_ret
    exact ⟨rfl, HB.out⟩
  | true =>
    have hla : last = true := by rw [hbl] at h; simpa using h
    subst hla
    have HBl := Lib.hid (Blank_yes b w hbl)
    clear h hbl
    go_enter Try.func48, Try.ntmps48
    go_wp2_with fail
    refine HL.out.mono ?_
    rintro e w' ⟨rfl, rfl⟩
    go_wp2_with fail
    refine HBl.out.mono ?_
    rintro e w' ⟨rfl, rfl⟩
    go_wp2_with fail
    go_still_tail 8, (by kernel_rfl)
    change wpList _ _ _ _ _ w.drew
    have HB : Hid (Below w.heap.size w (w.drew.alloc (.cells #[.int .u8 61, .int .u8 ((Qp.hexd (b.toNat / 16)).toNat : Int), .int .u8 ((Qp.hexd (b.toNat % 16)).toNat : Int)] 5))) := Lib.hid ((Below.refl _ w).drew.alloc (Nat.le_refl _) _)
    generalize w.drew = x at *
    have k3 := conv_hex x (Qp.hexd (b.toNat / 16)) (Qp.hexd (b.toNat % 16))
    go_wp2
    go_ret
    exact ⟨rfl, HB.out⟩

theorem Token_calls (w : World) (b : UInt8) (last : Bool) : Calls Try.prog 48 #[.int .u8 (b.toNat : Int), .bool last] w (NewStr w (Qp.token b last)) := by
  cases h : (Qp.lit b || (Qp.blank b && !last)) with
  | true => rw [token_self b last h]; exact Token_self w b last h
  | false => rw [token_hex b last h]; exact Token_hex w b last h

/-! Filled. -/
theorem fill_len (l : List UInt8) : (Qp.filled l).length ≤ 4 * l.length := by
  obtain ⟨T, S, h1, h2, h3, h4⟩ := Qp.fillGo_len l 0
  unfold Qp.filled
  omega
theorem fill_at (l : List UInt8) (k u : Nat) (hk : k < l.length) : Qp.fillGo u (l.drop k) =
    if 75 < u + (Qp.token l[k] (k + 1 == l.length)).length then [61, 13, 10] ++ (Qp.token l[k] (k + 1 == l.length) ++ Qp.fillGo (Qp.token l[k] (k + 1 == l.length)).length (l.drop (k + 1)))
    else Qp.token l[k] (k + 1 == l.length) ++ Qp.fillGo (u + (Qp.token l[k] (k + 1 == l.length)).length) (l.drop (k + 1)) := by
  have e : (l.drop (k + 1)).isEmpty = (k + 1 == l.length) := by
    by_cases h : k + 1 = l.length
    · rw [List.drop_eq_nil_of_le (by omega)]; simp [h]
    · cases hd : l.drop (k + 1) with
      | nil => have := congrArg List.length hd; simp at this; omega
      | cons a r => simp [h]
  rw [List.drop_eq_getElem_cons hk, Qp.fillGo, e]
  rfl
theorem strCells_bytes (l : List UInt8) : Lib.strCells ⟨l.toArray⟩ = l.map bv := by simp [Lib.strCells]; intro a _; rfl
theorem GRel.row {w wr : World} {goal : List UInt8} {v : Value} (h : GRel w goal [] v wr) : NewRow w 5 1 goal.length (goal.map bv) (.returned v) wr := by
  obtain ⟨out, h1, h2, h3⟩ := h
  rw [List.append_nil] at h3
  subst h3
  exact ⟨v, rfl, h1, h2⟩
theorem GRel.keep {w wr w2 : World} {goal tail : List UInt8} {v : Value} (h : GRel w goal tail v wr) (hb : Below wr.heap.size wr w2) : GRel w goal tail v w2 := by
  obtain ⟨out, h1, h2, h3⟩ := h
  exact ⟨out, own_keep h1 hb, bel_old h2 hb, h3⟩
theorem str_size (l : List UInt8) : (ByteArray.mk l.toArray).size = l.length := by simp [ByteArray.size]

/-- append of a string onto a row of the call's own. -/
theorem wpList_appStr {P : Program} (w : World) {ops : Array Oper} {rest : List Oper} {o : Oper} {a : Act} {Q : Exit → Act → World → Prop} (hgd : o.guard = none) (sl x : Operand) (t u : TypeId)
    (ho : o.op = .call { callee := .builtin .append, args := #[sl, x], argTypes := #[t, u] })
    (base : Nat) (e : TypeId) (i : TypeInfo) (ht : P.underlying t = some (.slice e)) (hu : P.underlying u = some .string) (hi : P.info? e = some i) (hz : i.zero = some (.int .u8 0))
    (hsize : i.size = 1) (hby : i.bytes = 1)
    (v : Value) (n : Nat) (xs : List Value) (hs : a.eval sl = v) (hown : w.ownsRow base e 1 v n xs) (l : List UInt8) (hx : a.eval x = .string ⟨l.toArray⟩)
    (h63 : n + l.length ≤ maxLen) (hbytes : n + l.length ≤ 140737488355328) (hbase : base ≤ w.heap.size)
    (h : ∀ v' w', w'.ownsRow base e 1 v' (n + l.length) (xs ++ l.map bv) → w.grownBy w' v.ownBlock → wpList P ops Q rest (a.put o.dst v') w') : wpList P ops Q (o :: rest) a w := by
  refine Lib.wpList_append_own_string w hgd sl x t u ho base e i ht hu hi hz hsize hby v n xs hs hown ⟨l.toArray⟩ hx (by rw [str_size]; exact h63) (by rw [str_size]; exact hbytes) hbase (fun v' w' h1 h2 _ => h v' w' ?_ h2)
  rw [str_size, strCells_bytes] at h1
  exact h1

set_option maxHeartbeats 4000000 in
theorem Filled_calls (w : World) (v : Value) (l : List UInt8) (hr : Rd w 1 v l.length (l.map bv)) (hl : l.length ≤ 1073741824) :
    Calls Try.prog 53 #[v] w (NewRow w 5 1 (Qp.filled l).length ((Qp.filled l).map bv)) := by
  obtain ⟨i0, hi, hz0, hz1, hz2⟩ := info_parts info5
  obtain ⟨A, c, rfl, _⟩ := hr.shape
  have hfl := fill_len l
  have HR := Lib.hid hr
  have HST := Lib.hid (GRel.start w (Qp.filled l))
  clear hr
  go_enter Try.func53, Try.ntmps53
  go_wp2_with fail
  go_loopw [3, 4, 11] (fun v u i wr => ∃ k us : Nat, k ≤ l.length ∧ us ≤ 75 ∧ i = .int .i64 k ∧ u = .int .i64 us ∧ GRel w (Qp.filled l) (Qp.fillGo us (l.drop k)) v wr) (fun _ _ i _ => l.length - (intOf i).toNat)
  case atStart => exact ⟨0, 0, Nat.zero_le _, by omega, rfl, rfl, HST.out⟩
  case round =>
    obtain ⟨k, us, hk, hus, rfl, rfl, hgr⟩ := hrel
    clear HST
    by_cases hkl : k < l.length
    · have hbel : Below w.heap.size w wr := by obtain ⟨_, _, h, _⟩ := hgr; exact h
      obtain ⟨ab, ao, rfl, _, hcell⟩ := (HR.out.keep hbel).byte hkl
      have c1 := hcell k hkl
      have hla : ((k : Int) == (l.length : Int) - 1) = (k + 1 == l.length) := by
        rw [Bool.eq_iff_iff]; simp; omega
      have hat := fill_at l k us hkl
      have htl := Qp.token_len l[k] (k + 1 == l.length)
      have HC := Lib.hid (Token_calls wr l[k] (k + 1 == l.length))
      generalize l[k] = x at *
      generalize (k + 1 == l.length) = la at *
      generalize Qp.token x la = t at *
      have hts := str_size t
      have HTS := Lib.hid hts
      have HGR := Lib.hid hgr
      have HAT := Lib.hid hat
      clear hcell hbel hgr hat hts
      go_wp2_with fail
      refine HC.out.mono ?_
      rintro e w1 ⟨rfl, hb1⟩
      have HG1 := Lib.hid (HGR.out.keep hb1)
      clear hb1 HGR HC
      by_cases h75 : 75 < us + t.length
      · have h75' : (75 : Int) < (us : Int) + (t.length : Int) := by omega
        rw [if_pos h75] at HAT
        obtain ⟨out, o1, o2, o3⟩ := HG1.out
        rw [HAT.out] at o3
        have hol : out.length + (3 + t.length) ≤ 4294967296 := by
          have := congrArg List.length o3
          simp only [List.length_append, List.length_cons, List.length_nil] at this
          omega
        have hsz := o2.size
        have O1 := Lib.hid o1
        have O2 := Lib.hid o2
        have O3 := Lib.hid o3
        clear o1 o2 o3 HG1 HAT hla
        go_wp2_with (at_builtin; refine wpList_app _ rfl (.tmp 28) (.tmp 29) 24 rfl w.heap.size 5 i0 (.int .u8 0) 1 1 Try.underlying24 hi hz0 hz1 hz2 rfl (by decide) u3 out.length (out.map bv) rfl (own_keep O1.out ((Below.refl _ _).alloc (Nat.le_refl _) _)) (.slice (some ⟨w1.heap.size, 0, none⟩) 3 3) 3 [bv 61, bv 13, bv 10] rfl (rd_row w1 [61, 13, 10] _ rfl) (bvs_one [61, 13, 10]) (by unfold maxLen; omega) (by omega) (by simp; omega) ?_)
        intro v' w2 q1 q2 _
        have HN := Lib.hid (GRel.more (tail := t ++ Qp.fillGo t.length (l.drop (k + 1))) [61, 13, 10] O1.out O2.out O3.out q1 q2)
        clear q1 q2 O1 O2 O3
        obtain ⟨out2, r1, r2, r3⟩ := HN.out
        have ho2 : out2.length + t.length ≤ 4294967296 := by
          have e := congrArg List.length r3
          simp only [List.length_append] at e
          omega
        have hsz2 := r2.size
        have R1 := Lib.hid r1
        have R2 := Lib.hid r2
        have R3 := Lib.hid r3
        clear r1 r2 r3 HN
        go_wp2_with (at_builtin; refine wpList_appStr _ rfl (.tmp 31) (.tmp 32) 24 9 rfl w.heap.size 5 i0 Try.underlying24 Try.underlying9 hi hz0 hz1 hz2 v' out2.length (out2.map bv) rfl R1.out t rfl (by unfold maxLen; omega) (by omega) (by omega) ?_)
        intro v2 w3 q1 q2
        have HN2 := Lib.hid (GRel.app t R1.out R2.out R3.out q1 q2)
        clear q1 q2 R1 R2 R3
        go_wp2
        go_roundw
        case rel => exact ⟨k + 1, t.length, by omega, by omega, by go_num, by go_num, HN2.out⟩
        case measure => simp [intOf]; omega
      · have h75' : ¬ (75 : Int) < (us : Int) + (t.length : Int) := by omega
        rw [if_neg h75] at HAT
        obtain ⟨out2, r1, r2, r3⟩ := HG1.out
        rw [HAT.out] at r3
        have ho2 : out2.length + t.length ≤ 4294967296 := by
          have e := congrArg List.length r3
          simp only [List.length_append] at e
          omega
        have hsz2 := r2.size
        have R1 := Lib.hid r1
        have R2 := Lib.hid r2
        have R3 := Lib.hid r3
        clear r1 r2 r3 HG1 HAT hla
        go_wp2_with (at_builtin; refine wpList_appStr _ rfl (.tmp 31) (.tmp 32) 24 9 rfl w.heap.size 5 i0 Try.underlying24 Try.underlying9 hi hz0 hz1 hz2 u3 out2.length (out2.map bv) rfl R1.out t rfl (by unfold maxLen; omega) (by omega) (by omega) ?_)
        intro v2 w3 q1 q2
        have HN2 := Lib.hid (GRel.app t R1.out R2.out R3.out q1 q2)
        clear q1 q2 R1 R2 R3
        go_wp2
        go_roundw
        case rel => exact ⟨k + 1, us + t.length, by omega, by omega, by go_num, by go_num, HN2.out⟩
        case measure => simp [intOf]; omega
    · have hke : k = l.length := by omega
      have hN : NewRow w 5 1 (Qp.filled l).length ((Qp.filled l).map bv) (.returned u3) wr := by
        rw [hke, List.drop_length] at hgr
        exact GRel.row hgr
      have HN := Lib.hid hN
      clear hgr hN hke
      go_wp2
      go_ret
      exact HN.out
end Go.Proofs.Ytgdfbnedmifjlaa
