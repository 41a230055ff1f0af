/- Write and Close of the writer. -/
import Derived.Test.YtgdfbnedmifjlaaWrite
namespace Go.Proofs.Ytgdfbnedmifjlaa
open Go.RowKit

theorem close_calls (w : World) (B b g : Nat) (bin : Bool) (L : Option Nat) (s : Qp.St) (v : Value) (hi : Inv w B b g bin L s v) (hb : s.bad = false) (hl : s.buf.length ≤ 75)
    (hL : L.getD 0 ≤ 9223372036854775807) (hg : Qp.size s ≤ 1099511000000) :
    Calls Try.prog 55 #[.pointer (some ⟨b, 0, none⟩)] w (WPost w B b g bin L v (Qp.close L s)) := by
  have hz := Qp.size_checkLast L s
  have HC := Lib.hid (last_calls w B b g bin L s v hi hb hl hL (by simp only [Qp.size] at hg; omega))
  have HD : ∀ w1 v1, Inv w1 B b g bin L (Qp.checkLast L s) v1 → (Qp.checkLast L s).bad = false → Calls Try.prog 59 #[.pointer (some ⟨b, 0, none⟩)] w1 (WPost w1 B b g bin L v1 (Qp.flush L (Qp.checkLast L s))) := fun w1 v1 h1 h2 =>
    flush_calls w1 B b g bin L _ v1 h1 h2 (by have := Qp.buf_checkLast L s hb hl h2; omega) hL (by simp only [Qp.size] at hz hg; omega)
  have HE := Lib.hid HD
  clear hi hb hl hg hz HD
  go_enter Try.func55, Try.ntmps55
  go_wp2_with fail
  refine HC.out.mono ?_
  intro e w1 h
  cases hbb : (Qp.checkLast L s).bad with
  | true =>
    obtain ⟨v1, rfl, h2, h3⟩ := h.fell hbb
    have e : Qp.close L s = Qp.checkLast L s := Qp.good_flush.stuck L _ hbb
    have H1 := Lib.hid e
    have H2 := Lib.hid h2
    have H3 := Lib.hid h3
    have HB := Lib.hid hbb
    clear h h2 h3 hbb e
    go_wp2
    go_ret
    rw [H1.out]
    exact WPost.mk_fell HB.out H2.out H3.out
  | false =>
    obtain ⟨v1, rfl, h2, h3⟩ := h.good hbb
    have H2 := Lib.hid (HE.out w1 v1 h2 hbb)
    have H3 := Lib.hid h3
    clear h h2 h3 hbb
    go_wp2_with fail
    refine H2.out.mono ?_
    intro e w2 h
    obtain ⟨v2, rfl, h4⟩ := h
    have H4 := Lib.hid h4
    clear h4
    go_wp2
    go_ret
    exact ⟨v2, rfl, H4.out.1, H3.out.trans H4.out.2⟩

/-- What Write tells: so many bytes, and no error; or an error. -/
def WrPost (w : World) (B b g : Nat) (bin : Bool) (L : Option Nat) (v : Value) (m : Nat) (s' : Qp.St) (e : Ending) (w' : World) : Prop :=
  ∃ v' n, e = .returned (.tuple #[.int .i64 n, errv s'.bad]) ∧ (s'.bad = false → n = (m : Int)) ∧ Inv w' B b g bin L s' v' ∧ Fr b g w v w' v'

/-- What holds at the head of each round of Write's loop. -/
def VRel (w0 : World) (B b g : Nat) (bin : Bool) (L : Option Nat) (s0 : Qp.St) (v0 : Value) (A : Option Addr) (p : List UInt8) (n k : Nat) (wr : World) : Prop :=
  ∃ s v, Inv wr B b g bin L s v ∧ Fr b g w0 v0 wr v ∧ Src wr b g v A p ∧ s.bad = false ∧ s.buf.length ≤ 75 ∧ Qp.size s ≤ Qp.size s0 + 8 * n ∧ Qp.write L bin s0 p = Qp.write L bin s (p.drop n) ∧
    ∀ y ∈ (p.drop n).take (k - n), Qp.simple bin y = true

theorem Src.sub {w : World} {b g : Nat} {v : Value} {pb po : Nat} {l : List UInt8} (h : Src w b g v (some ⟨pb, po, none⟩) l) (n m : Nat) : Src w b g v (some ⟨pb, po + n, none⟩) ((l.drop n).take m) := by
  intro hl
  obtain ⟨pb', po', e, h1, h2, h3, h4, h5⟩ := h (by simp at hl; omega)
  injection e with e
  injection e with e1 e2
  subst e1 e2
  refine ⟨pb, po + n, rfl, h1, h2, h3, h4, fun j hj => ?_⟩
  have hj' : n + j < l.length := by simp at hj; omega
  have := h5 (n + j) hj'
  rw [Nat.add_assoc, this]
  simp
theorem write_simple (L : Option Nat) (bin : Bool) (q : List UInt8) : ∀ s, (∀ y ∈ q, Qp.simple bin y = true) → Qp.write L bin s q = Qp.writeAll L s q := by
  induction q with
  | nil => intro s _; rfl
  | cons y q ih =>
    intro s h
    have h1 : Qp.stepB L bin s y = Qp.putc L y s := by simp [Qp.stepB, h y (by simp)]
    show Qp.write L bin (Qp.stepB L bin s y) q = Qp.writeAll L (Qp.putc L y s) q
    rw [h1]
    exact ih _ (fun z hz => h z (by simp [hz]))
theorem drop_split (p : List UInt8) (n k : Nat) (hn : n ≤ k) (hk : k < p.length) : p.drop n = (p.drop n).take (k - n) ++ p[k] :: p.drop (k + 1) := by
  have h1 : (p.drop n).drop (k - n) = p[k] :: p.drop (k + 1) := by
    rw [List.drop_drop]
    have e : n + (k - n) = k := by omega
    rw [e]
    exact List.drop_eq_getElem_cons hk
  rw [← h1, List.take_append_drop]
section
variable {w0 wr w2 : World} {B b g : Nat} {bin : Bool} {L : Option Nat} {s0 s1 : Qp.St} {v0 v1 v2 : Value} {A : Option Addr} {p : List UInt8} {n k : Nat}
theorem VRel.next (h : VRel w0 B b g bin L s0 v0 A p n k wr) (hn : n ≤ k) (hk : k < p.length) (hx : Qp.simple bin p[k] = true) : VRel w0 B b g bin L s0 v0 A p n (k + 1) wr := by
  obtain ⟨s, v, h1, h2, h3, h4, h5, h6, h7, h8⟩ := h
  refine ⟨s, v, h1, h2, h3, h4, h5, h6, h7, fun y hy => ?_⟩
  have e : k + 1 - n = (k - n) + 1 := by omega
  rw [e, List.take_add_one] at hy
  rcases List.mem_append.1 hy with hy | hy
  · exact h8 y hy
  · rw [List.getElem?_drop] at hy
    have e2 : n + (k - n) = k := by omega
    rw [e2, List.getElem?_eq_getElem hk] at hy
    simp at hy
    rw [hy]; exact hx
/-- The batch of bytes that stand for themselves is written; then the next byte's digits. -/
theorem split_all (hall : Qp.write L bin s0 p = Qp.write L bin s1 (p.drop n)) (hsim : ∀ y ∈ (p.drop n).take (k - n), Qp.simple bin y = true) (hn : n ≤ k) (hk : k < p.length) (hx : Qp.simple bin p[k] = false) :
    Qp.write L bin s0 p = Qp.write L bin (Qp.encode L p[k] (Qp.writeAll L s1 ((p.drop n).take (k - n)))) (p.drop (k + 1)) := by
  rw [hall]
  conv => lhs; rw [drop_split p n k hn hk]
  rw [Qp.write_append, write_simple _ _ _ _ hsim]
  show Qp.write L bin (Qp.stepB L bin _ p[k]) _ = _
  have : ∀ t, Qp.stepB L bin t p[k] = Qp.encode L p[k] t := fun t => by simp [Qp.stepB, hx]
  rw [this]
end
theorem WrPost.fell {w w' : World} {B b g : Nat} {bin : Bool} {L : Option Nat} {v v' : Value} {m : Nat} {s' : Qp.St} (n : Int) (hb : s'.bad = true) (hi : Inv w' B b g bin L s' v') (hf : Fr b g w v w' v') :
    WrPost w B b g bin L v m s' (.returned (.tuple #[.int .i64 n, .iface 90 (.agg #[])])) w' :=
  ⟨v', n, by rw [hb]; rfl, (fun h => by rw [hb] at h; cases h), hi, hf⟩
theorem WrPost.good {w w' : World} {B b g : Nat} {bin : Bool} {L : Option Nat} {v v' : Value} {m : Nat} {s' : Qp.St} {n : Int} (hn : n = (m : Int)) (hb : s'.bad = false) (hi : Inv w' B b g bin L s' v') (hf : Fr b g w v w' v') :
    WrPost w B b g bin L v m s' (.returned (.tuple #[.int .i64 n, .nilIface])) w' :=
  ⟨v', n, by rw [hb]; rfl, fun _ => hn, hi, hf⟩
theorem buf_writeAll (L : Option Nat) (p : List UInt8) : ∀ s : Qp.St, s.bad = false → s.buf.length ≤ 75 → (Qp.writeAll L s p).bad = false → (Qp.writeAll L s p).buf.length ≤ 75 := by
  induction p with
  | nil => intro s _ hl _; exact hl
  | cons y p ih =>
    intro s hb hl h
    rw [Qp.writeAll_cons] at h ⊢
    have h1 : (Qp.putc L y s).bad = false := by
      cases hc : (Qp.putc L y s).bad with
      | false => rfl
      | true => rw [Qp.writeAll_stuck L p _ hc, hc] at h; cases h
    exact ih _ h1 (Qp.buf_putc L y s hb hl h1) h

/-- A byte, by what Write asks of it. -/
theorem byte_kinds (bin : Bool) (x : UInt8) :
    (Qp.simple bin x = true ∧ (33 : Int) ≤ (x.toNat : Int) ∧ (x.toNat : Int) ≤ 126 ∧ ((x.toNat : Int) != 61) = true) ∨
    (Qp.simple bin x = true ∧ (x.toNat : Int) < 33 ∧ Qp.blank x = true) ∨
    (Qp.simple bin x = true ∧ (x.toNat : Int) < 33 ∧ Qp.blank x = false ∧ bin = false ∧ ((x.toNat : Int) == 10) = true) ∨
    (Qp.simple bin x = true ∧ (x.toNat : Int) < 33 ∧ Qp.blank x = false ∧ bin = false ∧ ((x.toNat : Int) == 10) = false ∧ ((x.toNat : Int) == 13) = true) ∨
    (Qp.simple bin x = false ∧ Qp.blank x = false ∧ ((x.toNat : Int) < 33 ∨ (126 : Int) < (x.toNat : Int) ∨ ((33 : Int) ≤ (x.toNat : Int) ∧ (x.toNat : Int) ≤ 126 ∧ ((x.toNat : Int) != 61) = false)) ∧ (bin = true ∨ (bin = false ∧ ((x.toNat : Int) == 10) = false ∧ ((x.toNat : Int) == 13) = false))) := by
  obtain ⟨t10, t13⟩ := u8_tests x
  have t61 : ((x.toNat : Int) == 61) = (x == 61) := int_eq_u8 x 61 (by omega)
  have t61' : ((x.toNat : Int) != 61) = (x != 61) := by simp only [bne, t61]
  have tb : Qp.blank x = (x == 32 || x == 9) := rfl
  have b32 : (x == 32) = ((x.toNat : Int) == 32) := (int_eq_u8 x 32 (by omega)).symm
  have b9 : (x == 9) = ((x.toNat : Int) == 9) := (int_eq_u8 x 9 (by omega)).symm
  rw [t10, t13, t61']
  by_cases hlit : Qp.lit x = true
  · refine .inl ⟨by simp [Qp.simple, hlit], ?_⟩
    simp only [Qp.lit, Bool.and_eq_true, decide_eq_true_eq] at hlit
    obtain ⟨⟨h1, h2⟩, h3⟩ := hlit
    exact ⟨by omega, by omega, h3⟩
  · have hlit' : Qp.lit x = false := by simpa using hlit
    by_cases hbl : Qp.blank x = true
    · refine .inr (.inl ⟨by simp [Qp.simple, hbl], ?_, hbl⟩)
      rw [tb, b32, b9] at hbl
      simp only [Bool.or_eq_true, beq_iff_eq] at hbl
      omega
    · have hbl' : Qp.blank x = false := by simpa using hbl
      by_cases h10 : (x == 10) = true
      · have hlt : (x.toNat : Int) < 33 := by
          rw [← t10] at h10
          simp only [beq_iff_eq] at h10
          omega
        cases bin with
        | false => exact .inr (.inr (.inl ⟨by simp [Qp.simple, h10], hlt, hbl', rfl, h10⟩))
        | true => exact .inr (.inr (.inr (.inr ⟨by simp [Qp.simple, hlit', hbl'], hbl', .inl hlt, .inl rfl⟩)))
      · have h10' : (x == 10) = false := by simpa using h10
        by_cases h13 : (x == 13) = true
        · have hlt : (x.toNat : Int) < 33 := by
            rw [← t13] at h13
            simp only [beq_iff_eq] at h13
            omega
          cases bin with
          | false => exact .inr (.inr (.inr (.inl ⟨by simp [Qp.simple, h13], hlt, hbl', rfl, h10', h13⟩)))
          | true => exact .inr (.inr (.inr (.inr ⟨by simp [Qp.simple, hlit', hbl'], hbl', .inl hlt, .inl rfl⟩)))
        · have h13' : (x == 13) = false := by simpa using h13
          refine .inr (.inr (.inr (.inr ⟨by simp [Qp.simple, hlit', hbl', h10', h13'], hbl', ?_, ?_⟩)))
          · simp only [Qp.lit, Bool.and_eq_false_iff, decide_eq_false_iff_not] at hlit'
            rcases Int.lt_or_le (x.toNat : Int) 33 with h | h
            · exact .inl h
            · rcases Int.lt_or_le (126 : Int) (x.toNat : Int) with h2 | h2
              · exact .inr (.inl h2)
              · refine .inr (.inr ⟨h, h2, ?_⟩)
                rcases hlit' with (h3 | h3) | h3
                · omega
                · omega
                · exact h3
          · cases bin with
            | true => exact .inl rfl
            | false => exact .inr ⟨rfl, h10', h13'⟩

set_option maxHeartbeats 8000000 in
theorem Write_calls (w : World) (B b g : Nat) (bin : Bool) (L : Option Nat) (s : Qp.St) (v : Value) (A : Option Addr) (c : Nat) (p : List UInt8) (hi : Inv w B b g bin L s v) (hb : s.bad = false) (hl : s.buf.length ≤ 75)
    (hL : L.getD 0 ≤ 9223372036854775807) (hg : Qp.size s + 8 * p.length ≤ 1099510000000) (hs : Src w b g v A p) (hc : p.length ≤ c) :
    Calls Try.prog 56 #[.pointer (some ⟨b, 0, none⟩), .slice A p.length c] w (WrPost w B b g bin L v p.length (Qp.write L bin s p)) := by
  have hR : VRel w B b g bin L s v A p 0 0 w := ⟨s, v, hi, Fr.refl _ _ _ _, hs, hb, hl, by omega, rfl, by simp⟩
  have hpl : p.length ≤ 1099511000000 := by omega
  have HG := Lib.hid hg
  clear hi hb hl hs hg
  go_enter Try.func56, Try.ntmps56
  go_wp2_with fail
  go_loopw [4, 13] (fun n i wr => ∃ n' k : Nat, n' ≤ k ∧ k ≤ p.length ∧ n = .int .i64 n' ∧ i = .int .i64 k ∧ VRel w B b g bin L s v A p n' k wr) (fun _ i _ => p.length - (intOf i).toNat)
  case atStart => exact ⟨0, 0, Nat.le_refl _, Nat.zero_le _, rfl, rfl, hR⟩
  case round =>
    obtain ⟨n, k, hnk, hk, rfl, rfl, hV⟩ := hrel
    have HV := Lib.hid hV
    obtain ⟨s1, v1, hi, hfr, hsrc, hb, hl, hsz, hall, hsim⟩ := hV
    clear hR
    by_cases hkl : k < p.length
    · obtain ⟨pb, po, rfl, _, _, _, _, hcells⟩ := hsrc (by omega)
      have hx := hcells k hkl
      obtain ⟨x, hxe⟩ : ∃ x, p[k] = x := ⟨_, rfl⟩
      rw [hxe] at hx
      have hx' : wr.cell? ⟨pb, po + k, none⟩ = some (.int .u8 (x.toNat : Int)) := hx
      have hxlt := x.toNat_lt
      obtain ⟨rest, hlen, hr⟩ := hi.raw
      have c0 := hr.c0
      have HX := Lib.hid hxe
      rcases byte_kinds bin x with ⟨hsx, g1, g2, g3⟩ | ⟨hsx, g1, g2⟩ | ⟨hsx, g1, g2, g3, g4⟩ | ⟨hsx, g1, g2, g3, g4, g5⟩ | ⟨hsx, g1, g2, g3⟩
      · have HN := Lib.hid (HV.out.next hnk hkl (by rw [hxe]; exact hsx))
        clear hi hfr hsrc hb hl hsz hall hsim hcells hx hr hlen hxe hsx c0
        go_wp2_with fail
        go_roundw
        case rel => exact ⟨n, k + 1, by omega, by omega, rfl, by go_num, HN.out⟩
        case measure => simp [intOf]; omega
      · have HN := Lib.hid (HV.out.next hnk hkl (by rw [hxe]; exact hsx))
        have HB2 := Lib.hid g2
        clear hi hfr hsrc hb hl hsz hall hsim hcells hx hr hlen hxe hsx c0 g2
        go_wp2_with fail
        refine (ws_yes x HB2.out _).mono ?_
        rintro e w' ⟨rfl, rfl⟩
        go_wp2_with fail
        go_roundw
        case rel => exact ⟨n, k + 1, by omega, by omega, rfl, by go_num, HN.out⟩
        case measure => simp [intOf]; omega
      · have HN := Lib.hid (HV.out.next hnk hkl (by rw [hxe]; exact hsx))
        have HB2 := Lib.hid g2
        rw [g3] at c0
        clear hi hfr hsrc hb hl hsz hall hsim hcells hx hr hlen hxe hsx g2 g3
        go_wp2_with fail
        refine (ws_no x HB2.out _).mono ?_
        rintro e w' ⟨rfl, rfl⟩
        go_wp2_with fail
        go_roundw
        case rel => exact ⟨n, k + 1, by omega, by omega, rfl, by go_num, HN.out⟩
        case measure => simp [intOf]; omega
      · have HN := Lib.hid (HV.out.next hnk hkl (by rw [hxe]; exact hsx))
        have HB2 := Lib.hid g2
        rw [g3] at c0
        clear hi hfr hsrc hb hl hsz hall hsim hcells hx hr hlen hxe hsx g2 g3
        go_wp2_with fail
        refine (ws_no x HB2.out _).mono ?_
        rintro e w' ⟨rfl, rfl⟩
        go_wp2_with fail
        go_roundw
        case rel => exact ⟨n, k + 1, by omega, by omega, rfl, by go_num, HN.out⟩
        case measure => simp [intOf]; omega
      · -- the byte becomes an equals sign and two digits
        have hsp := split_all hall hsim hnk hkl (by rw [hxe]; exact hsx)
        rw [hxe] at hsp
        obtain ⟨q, hq⟩ : ∃ q, q = (p.drop n).take (k - n) := ⟨_, rfl⟩
        rw [← hq] at hsp
        have hql : q.length = k - n := by rw [hq]; simp; omega
        have hsub := hsrc.sub n (k - n)
        rw [← hq] at hsub
        have hsz2 : Qp.size s1 + 8 * (k - n) ≤ 1099511000000 := by have := HG.out; omega
        have hW : Calls Try.prog 61 #[.pointer (some ⟨b, 0, none⟩), .slice (some ⟨pb, po + n, none⟩) (k - n) (c - n)] wr (WPost wr B b g bin L v1 (Qp.writeAll L s1 q)) := by
          have := write_calls wr B b g bin L s1 v1 (some ⟨pb, po + n, none⟩) (c - n) q hi hb hl hL (by rw [hql]; exact hsz2) hsub
          rwa [hql] at this
        have hz := Qp.size_writeAll L q s1
        rw [hql] at hz
        have hEn : ∀ w1 v2, Inv w1 B b g bin L (Qp.writeAll L s1 q) v2 → (Qp.writeAll L s1 q).bad = false → Calls Try.prog 62 #[.pointer (some ⟨b, 0, none⟩), .int .u8 (x.toNat : Int)] w1 (WPost w1 B b g bin L v2 (Qp.encode L x (Qp.writeAll L s1 q))) := fun w1 v2 h1 h2 =>
          encode_calls w1 B b g bin L _ v2 x h1 h2 (buf_writeAll L q s1 hb hl h2) hL (by simp only [Qp.size] at hz hsz2; omega)
        have hze := Qp.size_encode L x (Qp.writeAll L s1 q)
        have hnext : ∀ w2 v3, Inv w2 B b g bin L (Qp.encode L x (Qp.writeAll L s1 q)) v3 → Fr b g wr v1 w2 v3 → (Qp.writeAll L s1 q).bad = false → (Qp.encode L x (Qp.writeAll L s1 q)).bad = false → VRel w B b g bin L s v (some ⟨pb, po, none⟩) p (k + 1) (k + 1) w2 := fun w2 v3 h1 h2 h3 h4 =>
          ⟨_, v3, h1, hfr.trans h2, hsrc.fr h2, h4, Qp.buf_encode L x _ h3 h4, by omega, hsp, by simp⟩
        have hstop1 : (Qp.writeAll L s1 q).bad = true → Qp.write L bin s p = Qp.writeAll L s1 q := fun h => by
          have h1 : Qp.encode L x (Qp.writeAll L s1 q) = Qp.writeAll L s1 q := (Qp.good_encode x).stuck L _ h
          rw [hsp, h1]
          exact (Qp.good_write bin _).stuck L _ h
        have hstop2 : (Qp.encode L x (Qp.writeAll L s1 q)).bad = true → Qp.write L bin s p = Qp.encode L x (Qp.writeAll L s1 q) := fun h => by
          rw [hsp]; exact (Qp.good_write bin _).stuck L _ h
        have HW := Lib.hid hW
        have HEn := Lib.hid hEn
        have HNx := Lib.hid hnext
        have HS1 := Lib.hid hstop1
        have HS2 := Lib.hid hstop2
        have HFR := Lib.hid hfr
        have HI := Lib.hid hi
        have HB := Lib.hid hb
        have HQ := Lib.hid hq
        have HB2 := Lib.hid g1
        have hcn : ¬ c = n := by omega
        clear hi hfr hsrc hb hl hsz hall hsim hcells hx hr hlen hxe hsx g1 hsp hq hql hsub hsz2 hW hz hEn hze hnext hstop1 hstop2
        rcases Nat.lt_or_ge n k with hlt | hge
        · rcases g2 with g2 | g2 | ⟨g2, g4, g5⟩ <;> rcases g3 with rfl | ⟨rfl, g6, g7⟩
          all_goals
            go_wp2_with fail
            refine (ws_no x HB2.out _).mono ?_
            rintro e w' ⟨rfl, rfl⟩
            go_wp2_with fail
            refine HW.out.mono ?_
            intro e w1 h
            cases hbb : (Qp.writeAll L s1 q).bad with
            | true =>
              obtain ⟨v2, rfl, h2, h3⟩ := h.fell hbb
              have H2 := Lib.hid h2
              have H3 := Lib.hid h3
              have HBB := Lib.hid hbb
              clear h h2 h3 hbb
              go_wp2
              go_ret2
              rw [HS1.out HBB.out]
              exact WrPost.fell _ HBB.out H2.out (HFR.out.trans H3.out)
            | false =>
              obtain ⟨v2, rfl, h2, h3⟩ := h.good hbb
              have HE1 := Lib.hid (HEn.out w1 v2 h2 hbb)
              have H3 := Lib.hid h3
              have HBB := Lib.hid hbb
              clear h h2 h3 hbb
              go_wp2_with fail
              refine HE1.out.mono ?_
              intro e w3 h
              cases hbc : (Qp.encode L x (Qp.writeAll L s1 q)).bad with
              | true =>
                obtain ⟨v3, rfl, h4, h5⟩ := h.fell hbc
                have H4 := Lib.hid h4
                have H5 := Lib.hid h5
                have HBC := Lib.hid hbc
                clear h h4 h5 hbc
                go_wp2
                go_ret2
                rw [HS2.out HBC.out]
                exact WrPost.fell _ HBC.out H4.out (HFR.out.trans (H3.out.trans H5.out))
              | false =>
                obtain ⟨v3, rfl, h4, h5⟩ := h.good hbc
                have HX1 := Lib.hid (HNx.out w3 v3 h4 (H3.out.trans h5) HBB.out hbc)
                clear h h4 h5 hbc
                go_wp2
                go_roundw
                case rel => exact ⟨k + 1, k + 1, by omega, by omega, by go_num, by go_num, HX1.out⟩
                case measure => simp [intOf]; omega
        · have hkn : k = n := by omega
          have e0 : Qp.writeAll L s1 q = s1 := by
            rw [HQ.out, hkn]; simp [Qp.writeAll]
          rw [e0] at HEn HNx HS2
          have HE1 := Lib.hid (HEn.out wr v1 HI.out HB.out)
          subst hkn
          clear HS1 HW HQ HEn e0
          rcases g2 with g2 | g2 | ⟨g2, g4, g5⟩ <;> rcases g3 with rfl | ⟨rfl, g6, g7⟩
          all_goals
            go_wp2_with fail
            refine (ws_no x HB2.out _).mono ?_
            rintro e w' ⟨rfl, rfl⟩
            go_wp2_with fail
            refine HE1.out.mono ?_
            intro e w3 h
            cases hbc : (Qp.encode L x s1).bad with
            | true =>
              obtain ⟨v3, rfl, h4, h5⟩ := h.fell hbc
              have H4 := Lib.hid h4
              have H5 := Lib.hid h5
              have HBC := Lib.hid hbc
              clear h h4 h5 hbc
              go_wp2
              go_ret2
              rw [HS2.out HBC.out]
              exact WrPost.fell _ HBC.out H4.out (HFR.out.trans H5.out)
            | false =>
              obtain ⟨v3, rfl, h4, h5⟩ := h.good hbc
              have HX1 := Lib.hid (HNx.out w3 v3 h4 h5 HB.out hbc)
              clear h h4 h5 hbc
              go_wp2
              go_roundw
              case rel => exact ⟨k + 1, k + 1, by omega, by omega, by go_num, by go_num, HX1.out⟩
              case measure => simp [intOf]; omega
    · -- the end
      have hke : k = p.length := by omega
      subst hke
      rcases Nat.lt_or_ge n p.length with hlt | hge
      · obtain ⟨pb, po, rfl, _⟩ := hsrc (by omega)
        have hq : (p.drop n).take (p.length - n) = p.drop n := List.take_of_length_le (by simp)
        rw [hq] at hsim
        have hfin : Qp.write L bin s p = Qp.writeAll L s1 (p.drop n) := by rw [hall]; exact write_simple L bin _ _ hsim
        have hsub := hsrc.sub n (p.length - n)
        rw [hq] at hsub
        have hql : (p.drop n).length = p.length - n := by simp
        have hW : Calls Try.prog 61 #[.pointer (some ⟨b, 0, none⟩), .slice (some ⟨pb, po + n, none⟩) (p.length - n) (c - n)] wr (WPost wr B b g bin L v1 (Qp.writeAll L s1 (p.drop n))) := by
          have := write_calls wr B b g bin L s1 v1 (some ⟨pb, po + n, none⟩) (c - n) (p.drop n) hi hb hl hL (by rw [hql]; have := HG.out; omega) hsub
          rwa [hql] at this
        have HW := Lib.hid hW
        have HF := Lib.hid hfin
        have HFR := Lib.hid hfr
        have hcn : ¬ c = n := by omega
        have hne : ((n : Int) == (p.length : Int)) = false := by simp; omega
        clear hi hfr hsrc hb hl hsz hall hsim hq hfin hsub hql hW
        go_wp2_with fail
        refine HW.out.mono ?_
        intro e w1 h
        cases hbb : (Qp.writeAll L s1 (p.drop n)).bad with
        | true =>
          obtain ⟨v2, rfl, h2, h3⟩ := h.fell hbb
          have H2 := Lib.hid h2
          have H3 := Lib.hid h3
          have HBB := Lib.hid hbb
          clear h h2 h3 hbb
          go_wp2
          go_ret2
          rw [HF.out]
          exact WrPost.fell _ HBB.out H2.out (HFR.out.trans H3.out)
        | false =>
          obtain ⟨v2, rfl, h2, h3⟩ := h.good hbb
          have H2 := Lib.hid h2
          have H3 := Lib.hid h3
          have HBB := Lib.hid hbb
          clear h h2 h3 hbb
          go_wp2
          go_ret2
          rw [HF.out]
          exact WrPost.good rfl HBB.out H2.out (HFR.out.trans H3.out)
      · have hn : n = p.length := by omega
        have hfin : Qp.write L bin s p = s1 := by rw [hall, hn, List.drop_length]; rfl
        have HF := Lib.hid hfin
        have HFR := Lib.hid hfr
        have HI := Lib.hid hi
        have HB := Lib.hid hb
        have hne : ((n : Int) == (p.length : Int)) = true := by simp; omega
        have HN := Lib.hid hn
        clear hi hfr hsrc hb hl hsz hall hsim hfin hn
        go_wp2
        go_ret2
        rw [HF.out]
        exact WrPost.good (by rw [HN.out]) HB.out HI.out HFR.out
end Go.Proofs.Ytgdfbnedmifjlaa
