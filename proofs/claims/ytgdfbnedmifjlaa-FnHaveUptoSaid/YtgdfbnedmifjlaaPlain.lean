/- The plain law of the quoted-printable writer: what its calls make of lists of bytes, and what the reference says of them. No program is in sight here. -/

namespace Qp

/-- A byte that may stand for itself anywhere. -/
def lit (b : UInt8) : Bool := decide (33 ≤ b.toNat) && decide (b.toNat ≤ 126) && (b != 61)
/-- A space or a tab. -/
def blank (b : UInt8) : Bool := b == 32 || b == 9
/-- A capital hexadecimal digit. -/
def hexd (n : Nat) : UInt8 := UInt8.ofNat (if n < 10 then 48 + n else 55 + n)
/-- An equals sign and two digits. -/
def enc3 (b : UInt8) : List UInt8 := [61, hexd (b.toNat / 16), hexd (b.toNat % 16)]
def token (b : UInt8) (last : Bool) : List UInt8 := if lit b || (blank b && !last) then [b] else enc3 b
def soft : List UInt8 := [61, 13, 10]
def crlf : List UInt8 := [13, 10]

/-- A line's tokens, with soft line breaks. -/
def fillGo (used : Nat) : List UInt8 → List UInt8
  | [] => []
  | b :: bs =>
    if used + (token b bs.isEmpty).length > 75 then soft ++ (token b bs.isEmpty ++ fillGo (token b bs.isEmpty).length bs)
    else token b bs.isEmpty ++ fillGo (used + (token b bs.isEmpty).length) bs
def filled (l : List UInt8) : List UInt8 := fillGo 0 l

def joinGo : List (List UInt8) → List UInt8
  | [] => []
  | l :: ls => crlf ++ (l ++ joinGo ls)
/-- Lines with a line break between any two. -/
def joined : List (List UInt8) → List UInt8
  | [] => []
  | l :: ls => l ++ joinGo ls

/-- Is CR LF at the head? -/
def brk : List UInt8 → Bool
  | a :: b :: _ => a == 13 && b == 10
  | _ => false

def linesGo (cur : List UInt8) : List UInt8 → List (List UInt8)
  | [] => [cur]
  | a :: rest =>
    match rest with
    | [] => linesGo (cur ++ [a]) []
    | b :: rest' => if a == 13 && b == 10 then cur :: linesGo [] rest' else linesGo (cur ++ [a]) (b :: rest')
def lines (s : List UInt8) : List (List UInt8) := linesGo [] s

def canonGo (pcr : Bool) : List UInt8 → List UInt8
  | [] => []
  | b :: bs => if b == 10 && !pcr then 13 :: b :: canonGo (b == 13) bs else b :: canonGo (b == 13) bs
def canonical (s : List UInt8) : List UInt8 := canonGo false s

def paired : List UInt8 → Bool
  | [] => true
  | b :: bs => !(b == 13 && !brk (b :: bs)) && paired bs
def fedGo (pcr : Bool) : List UInt8 → Bool
  | [] => true
  | b :: bs => !(b == 10 && !pcr) && fedGo (b == 13) bs
def fed (s : List UInt8) : Bool := fedGo false s
def unbroken : List UInt8 → Bool
  | [] => true
  | b :: bs => !(b == 13 || b == 10) && unbroken bs

def digit (b : UInt8) : Int := if 48 ≤ b.toNat ∧ b.toNat ≤ 57 then (b.toNat : Int) - 48 else if 65 ≤ b.toNat ∧ b.toNat ≤ 70 then (b.toNat : Int) - 65 + 10 else -1

def encoded (bin : Bool) (s : List UInt8) : List UInt8 := if bin then filled s else joined ((lines (canonical s)).map filled)

/-! The writer: what is not yet handed on, whether a CR was the last line break, what the underlying writer has got, whether a call has failed. -/
structure St where
  buf : List UInt8
  cr : Bool
  got : List UInt8
  bad : Bool

def over (L : Option Nat) (n : Nat) : Bool := match L with | none => false | some m => decide (m < n)
def flush (L : Option Nat) (s : St) : St :=
  if s.bad then s else if over L (s.got.length + s.buf.length) then { s with bad := true } else { s with buf := [], got := s.got ++ s.buf }
def insCRLF (L : Option Nat) (s : St) : St := if s.bad then s else flush L { s with buf := s.buf ++ crlf }
def insSoft (L : Option Nat) (s : St) : St := if s.bad then s else insCRLF L { s with buf := s.buf ++ [61] }
def app (l : List UInt8) (s : St) : St := if s.bad then s else { s with buf := s.buf ++ l }
def encode (L : Option Nat) (b : UInt8) (s : St) : St :=
  if s.bad then s else if 72 < s.buf.length then app (enc3 b) (insSoft L s) else app (enc3 b) s
def checkLast (L : Option Nat) (s : St) : St :=
  if s.bad then s else match s.buf.getLast? with
    | none => s
    | some b => if blank b then encode L b { s with buf := s.buf.dropLast } else s
def putc (L : Option Nat) (b : UInt8) (s : St) : St :=
  if s.bad then s else
  if b == 10 || b == 13 then
    if s.cr && b == 10 then { s with cr := false }
    else insCRLF L (checkLast L (if b == 13 then { s with cr := true } else s))
  else
    let s1 := if s.buf.length = 75 then insSoft L s else s
    if s1.bad then s1 else { s1 with buf := s1.buf ++ [b], cr := false }
def simple (bin : Bool) (b : UInt8) : Bool := lit b || blank b || (!bin && (b == 10 || b == 13))
def stepB (L : Option Nat) (bin : Bool) (s : St) (b : UInt8) : St := if simple bin b then putc L b s else encode L b s
def writeAll (L : Option Nat) (s : St) (p : List UInt8) : St := p.foldl (fun s b => putc L b s) s
def write (L : Option Nat) (bin : Bool) (s : St) (p : List UInt8) : St := p.foldl (stepB L bin) s
def close (L : Option Nat) (s : St) : St := flush L (checkLast L s)
def st0 : St := { buf := [], cr := false, got := [], bad := false }
def enc (bin : Bool) (data : List UInt8) : List UInt8 := (close none (write none bin st0 data)).got

/-- The lines of the data, as the writer takes them. -/
def segGo (bin cr : Bool) (cur : List UInt8) : List UInt8 → List (List UInt8)
  | [] => [cur]
  | b :: bs =>
    if bin then segGo bin cr (cur ++ [b]) bs
    else if b == 10 && cr then segGo bin false cur bs
    else if b == 13 then cur :: segGo bin true [] bs
    else if b == 10 then cur :: segGo bin cr [] bs
    else if lit b || blank b then segGo bin false (cur ++ [b]) bs
    else segGo bin cr (cur ++ [b]) bs
def segs (bin : Bool) (data : List UInt8) : List (List UInt8) := segGo bin false [] data

theorem token_len (b : UInt8) (l : Bool) : 1 ≤ (token b l).length ∧ (token b l).length ≤ 3 := by
  unfold token enc3; split <;> simp
def put (t : List UInt8) (x : List UInt8 × Nat) : List UInt8 × Nat :=
  if 75 < x.2 + t.length then (x.1 ++ (soft ++ t), t.length) else (x.1 ++ t, x.2 + t.length)
theorem put_pos (t : List UInt8) (x : List UInt8 × Nat) (h : 75 < x.2 + t.length) : put t x = (x.1 ++ (soft ++ t), t.length) := if_pos h
theorem put_neg (t : List UInt8) (x : List UInt8 × Nat) (h : ¬ 75 < x.2 + t.length) : put t x = (x.1 ++ t, x.2 + t.length) := if_neg h
def fillF (c : List UInt8) (x : List UInt8 × Nat) : List UInt8 × Nat := c.foldl (fun x b => put (token b false) x) x
theorem fillF_snoc (c : List UInt8) (b : UInt8) (x : List UInt8 × Nat) : fillF (c ++ [b]) x = put (token b false) (fillF c x) := by
  simp [fillF]
theorem fillGo_snoc (c : List UInt8) (b : UInt8) : ∀ (o : List UInt8) (u : Nat), o ++ fillGo u (c ++ [b]) = (put (token b true) (fillF c (o, u))).1 := by
  induction c with
  | nil =>
    intro o u
    simp only [List.nil_append, fillGo, List.isEmpty_nil, fillF, List.foldl_nil, gt_iff_lt]
    by_cases h : 75 < u + (token b true).length
    · rw [if_pos h, put_pos _ _ h]; simp
    · rw [if_neg h, put_neg _ _ h]; simp
  | cons a c ih =>
    intro o u
    have he : (c ++ [b]).isEmpty = false := by cases c <;> rfl
    simp only [List.cons_append, fillGo, he, fillF, List.foldl_cons, gt_iff_lt]
    have := fun o u => ih o u
    simp only [fillF] at this
    by_cases h : 75 < u + (token a false).length
    · have hp : put (token a false) (o, u) = (o ++ (soft ++ token a false), (token a false).length) := if_pos h
      rw [if_pos h, hp, ← this]; simp [List.append_assoc]
    · have hp : put (token a false) (o, u) = (o ++ token a false, u + (token a false).length) := if_neg h
      rw [if_neg h, hp, ← this]; simp [List.append_assoc]
theorem put_le (t : List UInt8) (x : List UInt8 × Nat) (ht : t.length ≤ 3) (_hx : x.2 ≤ 75) : (put t x).2 ≤ 75 := by
  unfold put; split
  · show t.length ≤ 75; omega
  · show x.2 + t.length ≤ 75; omega
theorem fillF_le (c : List UInt8) : ∀ (x : List UInt8 × Nat), x.2 ≤ 75 → (fillF c x).2 ≤ 75 := by
  induction c with
  | nil => intro x h; exact h
  | cons a c ih => intro x h; exact ih _ (put_le _ _ (token_len a false).2 h)

def view (s : St) : List UInt8 × Nat := (s.got ++ s.buf, s.buf.length)

theorem insSoft_none (s : St) (h : s.bad = false) : insSoft none s = { s with got := s.got ++ (s.buf ++ soft), buf := [] } := by
  simp [insSoft, insCRLF, flush, over, h, soft, crlf]
theorem insCRLF_none (s : St) (h : s.bad = false) : insCRLF none s = { s with got := s.got ++ (s.buf ++ crlf), buf := [] } := by
  simp [insCRLF, flush, over, h]
theorem enc3_len (b : UInt8) : (enc3 b).length = 3 := rfl
theorem encode_none (b : UInt8) (s : St) (h : s.bad = false) : (encode none b s).bad = false ∧ (encode none b s).cr = s.cr ∧ view (encode none b s) = put (enc3 b) (view s) := by
  obtain ⟨buf, cr, got, bad⟩ := s
  cases h
  unfold encode
  by_cases hl : 72 < buf.length
  · rw [if_neg (by simp), if_pos hl, insSoft_none _ rfl, put_pos _ _ (by rw [enc3_len]; show 75 < buf.length + 3; omega)]
    refine ⟨rfl, rfl, ?_⟩
    simp [view, app]
  · rw [if_neg (by simp), if_neg hl, put_neg _ _ (by rw [enc3_len]; show ¬ 75 < buf.length + 3; omega)]
    refine ⟨rfl, rfl, ?_⟩
    simp [view, app]
theorem putc_none (b : UInt8) (s : St) (h : s.bad = false) (hb : (b == 10 || b == 13) = false) (hl : s.buf.length ≤ 75) :
    (putc none b s).bad = false ∧ (putc none b s).cr = false ∧ view (putc none b s) = put [b] (view s) := by
  obtain ⟨buf, cr, got, bad⟩ := s
  cases h
  have hl' : buf.length ≤ 75 := hl
  unfold putc
  rw [if_neg (by simp), if_neg (by simp [hb])]
  by_cases h75 : buf.length = 75
  · simp only [if_pos h75]
    rw [insSoft_none _ rfl, put_pos _ _ (by show 75 < buf.length + 1; omega)]
    refine ⟨rfl, rfl, ?_⟩
    simp [view]
  · simp only [if_neg h75]
    rw [put_neg _ _ (by show ¬ 75 < buf.length + 1; omega)]
    refine ⟨rfl, rfl, ?_⟩
    simp [view]
theorem u8_all {p : UInt8 → Bool} (h : ∀ n, n < 256 → p (UInt8.ofNat n) = true) (b : UInt8) : p b = true := by
  have := h b.toNat b.toNat_lt
  rwa [UInt8.ofNat_toNat] at this
theorem not_brk_of (b : UInt8) (h : (lit b || blank b) = true) : (b == 10 || b == 13) = false := by
  have := u8_all (p := fun b => !(lit b || blank b) || !(b == 10 || b == 13)) (by decide +kernel) b
  simp only [h, Bool.not_true, Bool.false_or, Bool.not_eq_true'] at this
  exact this
theorem token_false (b : UInt8) : token b false = if (lit b || blank b) then [b] else enc3 b := by simp [token]
theorem stepB_none (bin : Bool) (b : UInt8) (s : St) (h : s.bad = false) (hb : bin = true ∨ (b == 10 || b == 13) = false) (hl : s.buf.length ≤ 75) :
    (stepB none bin s b).bad = false ∧ (stepB none bin s b).cr = (if (lit b || blank b) then false else s.cr) ∧ view (stepB none bin s b) = put (token b false) (view s) := by
  have hs : simple bin b = (lit b || blank b) := by
    unfold simple
    rcases hb with rfl | hb
    · simp
    · simp [hb]
  rw [token_false]
  unfold stepB
  rw [hs]
  by_cases h1 : (lit b || blank b) = true
  · simp only [h1, if_true]
    exact putc_none b s h (not_brk_of b h1) hl
  · simp only [h1, if_false, Bool.false_eq_true]
    exact encode_none b s h

theorem last_token (b : UInt8) (h : blank b = false) : token b true = token b false ∧ ∃ l x, token b false = l ++ [x] ∧ blank x = false := by
  unfold token
  have hh : ∀ n, n < 16 → blank (hexd n) = false := by decide +kernel
  simp only [h, Bool.false_and, Bool.or_false, true_and]
  split
  · exact ⟨[], b, rfl, h⟩
  · exact ⟨[61, hexd (b.toNat / 16)], hexd (b.toNat % 16), rfl, hh _ (Nat.mod_lt _ (by omega))⟩
theorem blank_not_lit (b : UInt8) (h : blank b = true) : lit b = false := by
  have := u8_all (p := fun b => !(blank b) || !(lit b)) (by decide +kernel) b
  simpa [h] using this

theorem checkLast_none (s : St) (h : s.bad = false) (b : UInt8) (x : List UInt8 × Nat) (hx : x.2 ≤ 75) (hv : view s = put (token b false) x) :
    (checkLast none s).bad = false ∧ (checkLast none s).cr = s.cr ∧ view (checkLast none s) = put (token b true) x := by
  obtain ⟨buf, cr, got, bad⟩ := s
  cases h
  generalize hs : (⟨buf, cr, got, false⟩ : St) = s at *
  have h : s.bad = false := by rw [← hs]
  have hlen : s.buf.length = (put (token b false) x).2 := by rw [← hv]; rfl
  have hall : s.got ++ s.buf = (put (token b false) x).1 := by rw [← hv]; rfl
  have hpos : 1 ≤ s.buf.length := by
    rw [hlen]; unfold put; have := token_len b false; split <;> simp <;> omega
  have hne : s.buf ≠ [] := by intro he; rw [he] at hpos; simp at hpos
  have hgl : ∀ l y, (put (token b false) x).1 = l ++ [y] → s.buf.getLast? = some y ∧ s.got ++ s.buf.dropLast = l := by
    intro l y he
    have h1 : s.got ++ (s.buf.dropLast ++ [s.buf.getLast hne]) = l ++ [y] := by rw [List.dropLast_concat_getLast]; rw [hall, he]
    rw [← List.append_assoc] at h1
    have := List.append_inj' h1 rfl
    refine ⟨?_, this.1⟩
    rw [List.getLast?_eq_some_getLast hne]
    simpa using this.2
  unfold checkLast
  rw [if_neg (by simp [h])]
  by_cases hb : blank b = true
  · have ht : token b false = [b] := by simp [token, hb]
    have ht3 : token b true = enc3 b := by simp [token, hb, blank_not_lit b hb]
    rw [ht] at hlen hall hgl
    have hp : (put [b] x).1 = (if 75 < x.2 + 1 then x.1 ++ soft else x.1) ++ [b] := by
      unfold put; simp only [List.length_singleton]; split <;> simp
    obtain ⟨h1, h2⟩ := hgl _ _ hp
    rw [h1]
    simp only [hb, if_true]
    obtain ⟨e1, e2, e3⟩ := encode_none b { s with buf := s.buf.dropLast } h
    refine ⟨e1, e2, ?_⟩
    rw [e3, ht3]
    have hl2 : s.buf.dropLast.length = (put [b] x).2 - 1 := by rw [List.length_dropLast, hlen]
    simp only [view, h2, hl2]
    by_cases h75 : 75 < x.2 + 1
    · rw [if_pos h75, put_pos [b] x h75]
      rw [put_neg _ _ (by rw [enc3_len]; simp), put_pos _ x (by rw [enc3_len]; omega)]
      simp
    · rw [if_neg h75, put_neg [b] x h75]
      have : x.2 + [b].length - 1 = x.2 := by simp
      simp only [this]
  · have hb' : blank b = false := by simpa using hb
    obtain ⟨h1, l, y, h2, h3⟩ := last_token b hb'
    have hp : (put (token b false) x).1 = (if 75 < x.2 + (token b false).length then x.1 ++ (soft ++ l) else x.1 ++ l) ++ [y] := by
      unfold put; split <;> simp [h2]
    obtain ⟨h4, _⟩ := hgl _ _ hp
    rw [h4]
    simp only [h3, Bool.false_eq_true, if_false]
    exact ⟨h, trivial, by rw [h1]; exact hv⟩

theorem filled_nil : filled [] = [] := rfl
theorem endLine_none (s : St) (h : s.bad = false) (c o : List UInt8) (hv : view s = fillF c (o, 0)) :
    (checkLast none s).bad = false ∧ (checkLast none s).cr = s.cr ∧ (view (checkLast none s)).1 = o ++ filled c := by
  rcases List.eq_nil_or_concat c with rfl | ⟨c0, b, rfl⟩
  · have hb : s.buf = [] := by
      have : s.buf.length = 0 := by have := congrArg Prod.snd hv; simpa [view, fillF] using this
      exact List.eq_nil_of_length_eq_zero this
    have : checkLast none s = s := by simp [checkLast, hb]
    rw [this]
    exact ⟨h, rfl, by rw [hv]; simp [fillF, filled, fillGo]⟩
  · rw [List.concat_eq_append] at hv ⊢
    rw [fillF_snoc] at hv
    obtain ⟨h1, h2, h3⟩ := checkLast_none s h b _ (fillF_le c0 _ (by simp)) hv
    exact ⟨h1, h2, by rw [h3]; exact (fillGo_snoc c0 b o 0).symm⟩

theorem segGo_ne (bin : Bool) (data : List UInt8) : ∀ (cr : Bool) (c : List UInt8), segGo bin cr c data ≠ [] := by
  induction data with
  | nil => intro cr c; simp [segGo]
  | cons b bs ih =>
    intro cr c
    unfold segGo
    repeat (first | (split) | exact ih _ _ | simp)
theorem joined_cons (l : List UInt8) (ls : List (List UInt8)) (h : ls ≠ []) : joined (l :: ls) = l ++ (crlf ++ joined ls) := by
  cases ls with
  | nil => exact absurd rfl h
  | cons a as => rfl

theorem run_none (bin : Bool) (data : List UInt8) : ∀ (s : St) (c o : List UInt8), s.bad = false → view s = fillF c (o, 0) →
    (close none (write none bin s data)).bad = false ∧ (close none (write none bin s data)).buf = [] ∧
    (close none (write none bin s data)).got = o ++ joined ((segGo bin s.cr c data).map filled) := by
  induction data with
  | nil =>
    intro s c o h hv
    obtain ⟨h1, _, h3⟩ := endLine_none s h c o hv
    simp only [write, List.foldl_nil, close, flush, h1, over, Bool.false_eq_true, if_false, segGo, List.map_cons, List.map_nil, joined, joinGo, List.append_nil]
    exact ⟨trivial, trivial, h3⟩
  | cons b bs ih =>
    intro s c o h hv
    have hle : s.buf.length ≤ 75 := by
      have := congrArg Prod.snd hv
      have h2 := fillF_le c (o, 0) (by simp)
      simp only [view] at this
      omega
    have hw : write none bin s (b :: bs) = write none bin (stepB none bin s b) bs := rfl
    rw [hw]
    have hnew : (bin = true ∨ (b == 10 || b == 13) = false) → view (stepB none bin s b) = fillF (c ++ [b]) (o, 0) := by
      intro hb
      rw [(stepB_none bin b s h hb hle).2.2, fillF_snoc, hv]
    by_cases hbin : bin = true
    · have hs := stepB_none bin b s h (.inl hbin) hle
      have := ih _ (c ++ [b]) o hs.1 (hnew (.inl hbin))
      refine ⟨this.1, this.2.1, this.2.2.trans ?_⟩
      have hcr : ∀ (d : List UInt8) (x y : Bool) (cc : List UInt8), bin = true → segGo bin x cc d = segGo bin y cc d := by
        intro d
        induction d with
        | nil => intro x y cc _; rfl
        | cons a d ihd => intro x y cc hh; simp only [segGo, hh, if_true]; have := ihd x y (cc ++ [a]) hh; rw [hh] at this; exact this
      conv => rhs; rw [segGo]
      rw [if_pos hbin, hcr bs (stepB none bin s b).cr s.cr _ hbin]
    · have hbin' : bin = false := by simpa using hbin
      subst hbin'
      by_cases hbr : (b == 10 || b == 13) = true
      · have hsim : simple false b = true := by simp [simple, hbr]
        have hstep : stepB none false s b = putc none b s := by simp [stepB, hsim]
        rw [hstep]
        by_cases hcr : (s.cr && b == 10) = true
        · have hp : putc none b s = { s with cr := false } := by simp only [putc, h, hbr, hcr, if_true, Bool.false_eq_true, if_false]
          rw [hp]
          have hc2 : (b == 10 && s.cr) = true := by rw [Bool.and_comm]; exact hcr
          have := ih { s with cr := false } c o h hv
          refine ⟨this.1, this.2.1, this.2.2.trans ?_⟩
          conv => rhs; rw [segGo]
          simp only [hc2, if_true, Bool.false_eq_true, if_false]
        · have hc2 : (b == 10 && s.cr) = false := by rw [Bool.and_comm]; simpa using hcr
          have hp : putc none b s = insCRLF none (checkLast none (if b == 13 then { s with cr := true } else s)) := by
            simp only [putc, h, hbr, hcr, if_true, Bool.false_eq_true, if_false]
          have key : ∀ s1 : St, s1.bad = false → s1.buf = s.buf → s1.got = s.got → 
              (insCRLF none (checkLast none s1)).bad = false ∧ (insCRLF none (checkLast none s1)).cr = s1.cr ∧ view (insCRLF none (checkLast none s1)) = fillF [] (o ++ filled c ++ crlf, 0) := by
            intro s1 g1 g2 g3
            have hv1 : view s1 = fillF c (o, 0) := by rw [← hv]; simp [view, g2, g3]
            obtain ⟨e1, e2, e3⟩ := endLine_none s1 g1 c o hv1
            rw [insCRLF_none _ e1]
            refine ⟨e1, e2, ?_⟩
            simp only [view] at e3
            simp only [view, fillF, List.foldl_nil, List.append_nil, List.length_nil]
            rw [← List.append_assoc, e3]
          rw [hp]
          by_cases h13 : (b == 13) = true
          · simp only [h13, if_true]
            obtain ⟨k1, k2, k3⟩ := key { s with cr := true } h rfl rfl
            have := ih _ [] (o ++ filled c ++ crlf) k1 k3
            refine ⟨this.1, this.2.1, this.2.2.trans ?_⟩
            conv => rhs; rw [segGo]
            simp only [hc2, h13, if_true, Bool.false_eq_true, if_false, List.map_cons]
            rw [joined_cons _ _ (by simpa using segGo_ne false bs true [])]
            rw [k2]
            simp [List.append_assoc]
          · have h13' : (b == 13) = false := by simpa using h13
            have h10 : (b == 10) = true := by simpa [h13'] using hbr
            simp only [h13', Bool.false_eq_true, if_false]
            obtain ⟨k1, k2, k3⟩ := key s h rfl rfl
            have := ih _ [] (o ++ filled c ++ crlf) k1 k3
            refine ⟨this.1, this.2.1, this.2.2.trans ?_⟩
            conv => rhs; rw [segGo]
            rw [h10] at hc2
            simp only [hc2, h13', h10, if_true, Bool.false_eq_true, if_false, List.map_cons]
            rw [joined_cons _ _ (by simpa using segGo_ne false bs s.cr [])]
            rw [k2]
            simp [List.append_assoc]
      · have hbr' : (b == 10 || b == 13) = false := by simpa using hbr
        obtain ⟨h10, h13⟩ := Bool.or_eq_false_iff.1 hbr'
        have hs := stepB_none false b s h (.inr hbr') hle
        have := ih _ (c ++ [b]) o hs.1 (hnew (.inr hbr'))
        refine ⟨this.1, this.2.1, this.2.2.trans ?_⟩
        conv => rhs; rw [segGo]
        simp only [h10, h13, Bool.false_and, Bool.false_eq_true, if_false]
        rw [hs.2.1]
        by_cases hl : (lit b || blank b) = true
        · simp only [hl, if_true]
        · simp only [hl, if_false, Bool.false_eq_true]

theorem enc_eq (bin : Bool) (data : List UInt8) : enc bin data = joined ((segs bin data).map filled) := by
  have := (run_none bin data st0 [] [] rfl rfl).2.2
  rw [enc, segs, this]; rfl
/-! The reference's own functions on encoded text. -/
def u8int (n : Int) : UInt8 := UInt8.ofNat n.toNat
def decode : List UInt8 → Option (List UInt8)
  | [] => some []
  | a :: r =>
    if lit a then (decode r).map (a :: ·)
    else if blank a then (if r.isEmpty || brk r then none else (decode r).map (a :: ·))
    else match r with
      | [] => none
      | b :: r1 =>
        if a == 13 && b == 10 then (decode r1).map (fun x => 13 :: 10 :: x)
        else match r1 with
          | [] => none
          | c :: r2 =>
            if a == 61 && (b == 13 && c == 10) then decode r2
            else if a == 61 && (decide (0 ≤ digit b) && decide (0 ≤ digit c)) then (decode r2).map (u8int (16 * digit b + digit c) :: ·)
            else none
def unfolded : List UInt8 → List UInt8
  | [] => []
  | a :: r =>
    match r with
    | [] => a :: unfolded []
    | b :: r1 =>
      match r1 with
      | [] => a :: unfolded [b]
      | c :: r2 => if a == 61 && (b == 13 && c == 10) then unfolded r2 else a :: unfolded (b :: c :: r2)
def tokens : List UInt8 → List UInt8
  | [] => []
  | b :: bs => token b bs.isEmpty ++ tokens bs

theorem decode_nil : decode [] = some [] := by rw [decode]
theorem decode_lit (a : UInt8) (r : List UInt8) (h : lit a = true) : decode (a :: r) = (decode r).map (a :: ·) := by
  rw [decode.eq_def]; simp [h]
theorem decode_blank (a : UInt8) (r : List UInt8) (h : blank a = true) (hr : (r.isEmpty || brk r) = false) : decode (a :: r) = (decode r).map (a :: ·) := by
  rw [decode.eq_def]; simp only [h, hr, blank_not_lit a h, Bool.false_eq_true, if_false, if_true]
theorem decode_eq (a b c : UInt8) (r : List UInt8) (h1 : lit a = false) (h2 : blank a = false) (h3 : (a == 13 && b == 10) = false) : decode (a :: b :: c :: r) =
    if a == 61 && (b == 13 && c == 10) then decode r
    else if a == 61 && (decide (0 ≤ digit b) && decide (0 ≤ digit c)) then (decode r).map (u8int (16 * digit b + digit c) :: ·) else none := by
  rw [decode.eq_def]; simp only [h1, h2, h3, Bool.false_eq_true, if_false]
theorem decode_soft (r : List UInt8) : decode (soft ++ r) = decode r := by
  show decode (61 :: 13 :: 10 :: r) = decode r
  rw [decode_eq _ _ _ _ (by decide) (by decide) (by decide)]
  rfl
theorem decode_crlf (r : List UInt8) : decode (crlf ++ r) = (decode r).map (crlf ++ ·) := by
  have h1 : lit 13 = false := by decide
  have h2 : blank 13 = false := by decide
  show decode (13 :: 10 :: r) = (decode r).map (crlf ++ ·)
  rw [decode.eq_def]; simp only [h1, h2, Bool.false_eq_true, if_false]
  rfl
theorem hexd_facts : ∀ n, n < 16 → (hexd n != 13 && hexd n != 61 && decide (digit (hexd n) = n) && !blank (hexd n) && lit (hexd n)) = true := by decide +kernel
theorem hexd_ne13 (n : Nat) (h : n < 16) : hexd n ≠ 13 := by have := hexd_facts n h; simp at this; exact this.1.1.1.1
theorem hexd_ne61 (n : Nat) (h : n < 16) : hexd n ≠ 61 := by have := hexd_facts n h; simp at this; exact this.1.1.1.2
theorem digit_hexd (n : Nat) (h : n < 16) : digit (hexd n) = n := by have := hexd_facts n h; simp at this; exact this.1.1.2
theorem u8int_of (b : UInt8) : u8int (16 * ((b.toNat / 16 : Nat) : Int) + ((b.toNat % 16 : Nat) : Int)) = b := by
  have : (16 * ((b.toNat / 16 : Nat) : Int) + ((b.toNat % 16 : Nat) : Int)).toNat = b.toNat := by omega
  rw [u8int, this, UInt8.ofNat_toNat]
theorem decode_enc3 (b : UInt8) (r : List UInt8) : decode (enc3 b ++ r) = (decode r).map (b :: ·) := by
  have hlt := b.toNat_lt
  have g1 : b.toNat / 16 < 16 := by omega
  have g2 : b.toNat % 16 < 16 := by omega
  have h3 := hexd_ne13 _ g1
  show decode (61 :: hexd (b.toNat / 16) :: hexd (b.toNat % 16) :: r) = _
  rw [decode_eq _ _ _ _ (by decide) (by decide) (by simp), digit_hexd _ g1, digit_hexd _ g2, u8int_of]
  have h5 : (hexd (b.toNat / 16) == 13) = false := by simpa using h3
  rw [h5, if_neg (by simp), if_pos (by simp; omega)]

theorem head_token (b : UInt8) (l : Bool) : ∃ x t, token b l = x :: t ∧ x ≠ 13 := by
  unfold token
  split
  · rename_i h
    refine ⟨b, [], rfl, ?_⟩
    rintro rfl
    revert h; cases l <;> decide
  · exact ⟨61, _, rfl, by decide⟩
theorem fillGo_head (u : Nat) (b : UInt8) (bs r : List UInt8) : ((fillGo u (b :: bs) ++ r).isEmpty || brk (fillGo u (b :: bs) ++ r)) = false := by
  obtain ⟨x, t, h1, h2⟩ := head_token b bs.isEmpty
  have hx : (x == 13) = false := by simpa using h2
  have key : ∀ (x : UInt8) (y : List UInt8), (x == 13) = false → ((x :: y).isEmpty || brk (x :: y)) = false := by
    intro x y h
    cases y <;> simp [brk]
    intro hh; simp [hh] at h
  rw [fillGo]
  split
  · exact key 61 _ (by decide)
  · rw [h1]; exact key x _ hx
theorem decode_fill (l : List UInt8) : ∀ (u : Nat) (r : List UInt8), (r.isEmpty || brk r) = true → decode (fillGo u l ++ r) = (decode r).map (l ++ ·) := by
  induction l with
  | nil => intro u r _; simp [fillGo]
  | cons b bs ih =>
    intro u r hr
    have key : ∀ u', decode (token b bs.isEmpty ++ (fillGo u' bs ++ r)) = (decode r).map ((b :: bs) ++ ·) := by
      intro u'
      have hm : ((decode (fillGo u' bs ++ r)).map (b :: ·)) = (decode r).map ((b :: bs) ++ ·) := by
        rw [ih u' r hr]; simp [Option.map_map, Function.comp_def]
      unfold token
      by_cases h1 : lit b = true
      · simp only [h1, Bool.true_or, if_true, List.cons_append, List.nil_append]
        rw [decode_lit _ _ h1]; exact hm
      · by_cases h2 : (blank b && !bs.isEmpty) = true
        · simp only [h2, Bool.or_true, if_true, List.cons_append, List.nil_append]
          obtain ⟨hb, hne⟩ := Bool.and_eq_true_iff.1 h2
          have hx : (((fillGo u' bs ++ r).isEmpty || brk (fillGo u' bs ++ r))) = false := by
            cases bs with
            | nil => simp at hne
            | cons c cs => exact fillGo_head u' c cs r
          rw [decode_blank _ _ hb hx]; exact hm
        · have h1' : lit b = false := by simpa using h1
          have h2' : (blank b && !bs.isEmpty) = false := by simpa using h2
          simp only [h1', h2', Bool.or_false, Bool.false_eq_true, if_false]
          rw [decode_enc3]; exact hm
    rw [fillGo]
    split
    · rw [List.append_assoc, decode_soft, List.append_assoc]; exact key _
    · rw [List.append_assoc]; exact key _
theorem decode_joinGo (ss : List (List UInt8)) : decode (joinGo (ss.map filled)) = some (joinGo ss) := by
  induction ss with
  | nil => exact decode_nil
  | cons s ss ih =>
    simp only [List.map_cons, joinGo]
    rw [decode_crlf, filled, decode_fill _ _ _ (by cases ss <;> rfl), ih]
    simp
theorem decode_joined (ss : List (List UInt8)) : decode (joined (ss.map filled)) = some (joined ss) := by
  cases ss with
  | nil => exact decode_nil
  | cons s ss =>
    simp only [List.map_cons, joined]
    rw [filled, decode_fill _ _ _ (by cases ss <;> rfl), decode_joinGo]
    simp
theorem decode_enc (bin : Bool) (data : List UInt8) : decode (enc bin data) = some (joined (segs bin data)) := by
  rw [enc_eq]; exact decode_joined _

/-! What the lines of the data are. -/
theorem segGo_bin (data : List UInt8) : ∀ (cr : Bool) (c : List UInt8), segGo true cr c data = [c ++ data] := by
  induction data with
  | nil => intro cr c; simp [segGo]
  | cons b bs ih => intro cr c; simp [segGo, ih]
theorem segs_bin (data : List UInt8) : segs true data = [data] := by rw [segs, segGo_bin]; rfl
theorem segs_unbroken (data : List UInt8) (h : unbroken data = true) : segs false data = [data] := by
  have : ∀ (data : List UInt8), unbroken data = true → ∀ cr c, segGo false cr c data = [c ++ data] := by
    intro data
    induction data with
    | nil => intro _ cr c; simp [segGo]
    | cons b bs ih =>
      intro hu cr c
      simp only [unbroken, Bool.and_eq_true, Bool.not_eq_true', Bool.or_eq_false_iff] at hu
      obtain ⟨⟨h13, h10⟩, hb⟩ := hu
      simp only [segGo, h13, h10, Bool.false_and, Bool.false_eq_true, if_false]
      split <;> rw [ih hb] <;> simp
  rw [segs, this data h]; rfl
theorem linesGo_nb (c : List UInt8) (b : UInt8) (x : List UInt8) (h : (b == 13) = false) : linesGo c (b :: x) = linesGo (c ++ [b]) x := by
  cases x with
  | nil => conv => lhs; rw [linesGo.eq_def]
  | cons y ys => rw [linesGo]; simp [h]
theorem linesGo_brk (c x : List UInt8) : linesGo c (13 :: 10 :: x) = c :: linesGo [] x := by
  rw [linesGo]; simp
theorem segGo_lines (n : Nat) : ∀ (data : List UInt8), data.length ≤ n → paired data = true → ∀ c, segGo false false c data = linesGo c (canonGo false data) := by
  induction n with
  | zero =>
    intro data hl _ c
    obtain rfl : data = [] := List.eq_nil_of_length_eq_zero (by omega)
    simp [segGo, canonGo, linesGo]
  | succ n ih =>
    intro data hl hp c
    cases data with
    | nil => simp [segGo, canonGo, linesGo]
    | cons b bs =>
      simp only [paired, Bool.and_eq_true, Bool.not_eq_true', Bool.and_eq_false_iff] at hp
      obtain ⟨h1, h2⟩ := hp
      by_cases h13 : (b == 13) = true
      · have hbk : brk (b :: bs) = true := by simpa [h13] using h1
        have hb : b = 13 := by simpa using h13
        subst hb
        cases bs with
        | nil => simp [brk] at hbk
        | cons d ds =>
          have hd : d = 10 := by simpa [brk] using hbk
          subst hd
          have h3 : paired ds = true := by simp [paired] at h2; exact h2
          have e1 : segGo false false c (13 :: 10 :: ds) = c :: segGo false false [] ds := by simp [segGo]
          have e2 : canonGo false (13 :: 10 :: ds) = 13 :: 10 :: canonGo false ds := by simp [canonGo]
          rw [e1, e2, linesGo_brk, ih ds (by simp at hl; omega) h3]
      · have h13' : (b == 13) = false := by simpa using h13
        have hl' : bs.length ≤ n := by simpa using hl
        by_cases h10 : (b == 10) = true
        · have hb : b = 10 := by simpa using h10
          subst hb
          have e1 : segGo false false c (10 :: bs) = c :: segGo false false [] bs := by simp [segGo]
          have e2 : canonGo false (10 :: bs) = 13 :: 10 :: canonGo false bs := by simp [canonGo]
          rw [e1, e2, linesGo_brk, ih bs hl' h2]
        · have h10' : (b == 10) = false := by simpa using h10
          have e2 : canonGo false (b :: bs) = b :: canonGo false bs := by simp [canonGo, h10', h13']
          rw [e2, linesGo_nb _ _ _ h13', ← ih bs hl' h2]
          simp [segGo, h10', h13']
theorem segs_lines (data : List UInt8) (h : paired data = true) : segs false data = lines (canonical data) :=
  segGo_lines _ data (Nat.le_refl _) h []
theorem encoded_eq (bin : Bool) (data : List UInt8) (h : bin = true ∨ paired data = true) : encoded bin data = enc bin data := by
  rw [enc_eq, encoded]
  cases bin with
  | true => simp [segs_bin, joined, joinGo]
  | false =>
    have h' : paired data = true := by simpa using h
    simp [segs_lines data h']
theorem joined_linesGo (s : List UInt8) : ∀ c, joined (linesGo c s) = c ++ s := by
  have key : ∀ n, ∀ (s : List UInt8), s.length ≤ n → ∀ c, joined (linesGo c s) = c ++ s ∧ linesGo c s ≠ [] := by
    intro n
    induction n with
    | zero =>
      intro s hs c
      obtain rfl : s = [] := List.eq_nil_of_length_eq_zero (by omega)
      simp [linesGo, joined, joinGo]
    | succ n ih =>
      intro s hs c
      cases s with
      | nil => simp [linesGo, joined, joinGo]
      | cons a r =>
        cases r with
        | nil => rw [linesGo]; simp [linesGo, joined, joinGo]
        | cons b r =>
          rw [linesGo]
          split
          · rename_i hb
            obtain ⟨ha, hb⟩ := Bool.and_eq_true_iff.1 hb
            obtain ⟨i1, i2⟩ := ih r (by simp at hs; omega) []
            refine ⟨?_, by simp⟩
            rw [joined_cons _ _ i2, i1]
            simp at ha hb
            simp [ha, hb, crlf]
          · obtain ⟨i1, i2⟩ := ih (b :: r) (by simp at hs ⊢; omega) (c ++ [a])
            exact ⟨by rw [i1]; simp, i2⟩
  intro c; exact (key _ s (Nat.le_refl _) c).1
theorem joined_segs (data : List UInt8) (h : paired data = true) : joined (segs false data) = canonical data := by
  rw [segs_lines data h, lines, joined_linesGo]; rfl
theorem canonGo_fed (data : List UInt8) : ∀ p, fedGo p data = true → canonGo p data = data := by
  induction data with
  | nil => intro p _; rfl
  | cons b bs ih =>
    intro p h
    simp only [fedGo, Bool.and_eq_true, Bool.not_eq_true'] at h
    simp only [canonGo, h.1, Bool.false_eq_true, if_false, ih _ h.2]
theorem canonical_fed (data : List UInt8) (h : fed data = true) : canonical data = data := canonGo_fed data _ h
/-! The encoded lines. -/
def phGo (cur : List UInt8) : List UInt8 → List (List UInt8)
  | [] => [cur]
  | b :: bs =>
    if 75 < cur.length + (token b bs.isEmpty).length then (cur ++ [61]) :: phGo (token b bs.isEmpty) bs
    else phGo (cur ++ token b bs.isEmpty) bs
theorem phGo_ne (l : List UInt8) : ∀ cur, phGo cur l ≠ [] := by
  induction l with
  | nil => intro cur; simp [phGo]
  | cons b bs ih => intro cur; rw [phGo]; split <;> simp [ih]
theorem joined_phGo (l : List UInt8) : ∀ cur, joined (phGo cur l) = cur ++ fillGo cur.length l := by
  induction l with
  | nil => intro cur; simp [phGo, joined, joinGo, fillGo]
  | cons b bs ih =>
    intro cur
    rw [phGo, fillGo]
    split
    · rw [joined_cons _ _ (phGo_ne _ _), ih]
      simp [soft, crlf]
    · rw [ih]
      simp
def noCR (l : List UInt8) : Prop := ∀ b ∈ l, b ≠ 13
theorem token_noCR (b : UInt8) (l : Bool) : noCR (token b l) := by
  unfold token
  have hlt := b.toNat_lt
  split
  · rename_i h
    intro x hx
    simp only [List.mem_singleton] at hx
    subst hx
    rintro rfl
    revert h; cases l <;> decide
  · intro x hx
    simp only [enc3, List.mem_cons, List.not_mem_nil, or_false] at hx
    rcases hx with rfl | rfl | rfl
    · decide
    · exact hexd_ne13 _ (by omega)
    · exact hexd_ne13 _ (by omega)
theorem token_last (b : UInt8) (l : Bool) : (token b l).getLast? ≠ some 61 := by
  unfold token
  have hlt := b.toNat_lt
  split
  · rename_i h
    simp only [List.getLast?_singleton, ne_eq, Option.some.injEq]
    rintro rfl
    revert h; cases l <;> decide
  · simp only [enc3, List.getLast?_cons_cons, List.getLast?_singleton, ne_eq, Option.some.injEq]
    exact hexd_ne61 _ (by omega)
theorem token_ne (b : UInt8) (l : Bool) : token b l ≠ [] := by
  intro h; have := (token_len b l).1; rw [h] at this; simp at this
/-- A line that ends with a soft line break has 74 characters at least, and something stands on the line behind it. -/
def SoftOK : List (List UInt8) → Prop
  | [] => True
  | l :: ls => (l.getLast? = some 61 → 74 ≤ l.length ∧ ∃ m ms, ls = m :: ms ∧ m ≠ []) ∧ SoftOK ls
theorem phGo_facts (l : List UInt8) : ∀ cur, cur.length ≤ 75 → noCR cur → cur.getLast? ≠ some 61 →
    (∀ x ∈ phGo cur l, x.length ≤ 76 ∧ noCR x) ∧ (∀ r, SoftOK r → SoftOK (phGo cur l ++ r)) ∧ (cur ≠ [] → ∃ m ms, phGo cur l = m :: ms ∧ m ≠ []) := by
  induction l with
  | nil =>
    intro cur h1 h2 h3
    refine ⟨?_, ?_, ?_⟩
    · intro x hx; simp [phGo] at hx; subst hx; exact ⟨by omega, h2⟩
    · intro r hr; exact ⟨fun h => absurd h h3, hr⟩
    · intro h; exact ⟨cur, [], rfl, h⟩
  | cons b bs ih =>
    intro cur h1 h2 h3
    have ht := token_len b bs.isEmpty
    rw [phGo]
    by_cases hc : 75 < cur.length + (token b bs.isEmpty).length
    · simp only [hc, if_true]
      obtain ⟨i1, i2, i3⟩ := ih (token b bs.isEmpty) (by omega) (token_noCR _ _) (token_last _ _)
      refine ⟨?_, ?_, ?_⟩
      · intro x hx
        simp only [List.mem_cons] at hx
        rcases hx with rfl | hx
        · refine ⟨by simp; omega, ?_⟩
          intro y hy
          simp only [List.mem_append, List.mem_singleton] at hy
          rcases hy with hy | rfl
          · exact h2 y hy
          · decide
        · exact i1 x hx
      · intro r hr
        refine ⟨fun _ => ⟨by simp; omega, ?_⟩, i2 r hr⟩
        obtain ⟨m, ms, e, hm⟩ := i3 (token_ne _ _)
        exact ⟨m, ms ++ r, by rw [e]; rfl, hm⟩
      · intro _; exact ⟨_, _, rfl, by simp⟩
    · simp only [hc, if_false]
      have hl : (cur ++ token b bs.isEmpty).getLast? ≠ some 61 := by
        rw [List.getLast?_append]
        have := token_last b bs.isEmpty
        cases h : (token b bs.isEmpty).getLast? with
        | none => exact absurd (List.getLast?_eq_none_iff.1 h) (token_ne _ _)
        | some y => rw [h] at this; simpa using this
      obtain ⟨i1, i2, i3⟩ := ih (cur ++ token b bs.isEmpty) (by simp; omega) (by
        intro y hy
        rcases List.mem_append.1 hy with hy | hy
        · exact h2 y hy
        · exact token_noCR _ _ y hy) hl
      exact ⟨i1, i2, fun _ => i3 (by simp [token_ne])⟩
def phys (ss : List (List UInt8)) : List (List UInt8) := ss.flatMap (phGo [])
theorem phys_facts (ss : List (List UInt8)) : (∀ x ∈ phys ss, x.length ≤ 76 ∧ noCR x) ∧ SoftOK (phys ss) := by
  induction ss with
  | nil => exact ⟨by simp [phys], trivial⟩
  | cons s ss ih =>
    obtain ⟨i1, i2, _⟩ := phGo_facts s [] (by simp) (by simp [noCR]) (by simp)
    refine ⟨?_, ?_⟩
    · intro x hx
      simp only [phys, List.flatMap_cons, List.mem_append] at hx
      rcases hx with hx | hx
      · exact i1 x hx
      · exact ih.1 x hx
    · exact i2 _ ih.2
theorem joinGo_append (a b : List (List UInt8)) : joinGo (a ++ b) = joinGo a ++ joinGo b := by
  induction a with
  | nil => rfl
  | cons x xs ih => simp [joinGo, ih]
theorem joinGo_phys (ss : List (List UInt8)) : joinGo (phys ss) = joinGo (ss.map filled) := by
  induction ss with
  | nil => rfl
  | cons s ss ih =>
    have h1 := joined_phGo s []
    simp only [phys, List.flatMap_cons, List.map_cons, joinGo]
    rw [joinGo_append]
    have h2 : joinGo (phGo [] s) = crlf ++ filled s := by
      have hne := phGo_ne s []
      cases hp : phGo [] s with
      | nil => exact absurd hp hne
      | cons m ms => rw [hp] at h1; simp only [joined] at h1; simp only [joinGo, h1]; simp [filled]
    have ih' : joinGo (List.flatMap (phGo []) ss) = joinGo (ss.map filled) := ih
    rw [h2, ih']; simp
theorem joined_phys (ss : List (List UInt8)) : joined (phys ss) = joined (ss.map filled) := by
  cases ss with
  | nil => rfl
  | cons s ss =>
    have h1 := joined_phGo s []
    have hne := phGo_ne s []
    have ih' : joinGo (List.flatMap (phGo []) ss) = joinGo (ss.map filled) := joinGo_phys ss
    simp only [phys, List.flatMap_cons, List.map_cons, joined]
    cases hp : phGo [] s with
    | nil => exact absurd hp hne
    | cons m ms =>
      rw [hp] at h1
      simp only [joined] at h1
      show m ++ joinGo (ms ++ List.flatMap (phGo []) ss) = _
      rw [joinGo_append, ih', ← List.append_assoc, h1]
      simp [filled]
theorem linesGo_clean (l : List UInt8) (h : noCR l) : ∀ c r, linesGo c (l ++ r) = linesGo (c ++ l) r := by
  induction l with
  | nil => intro c r; simp
  | cons b bs ih =>
    intro c r
    have hb : (b == 13) = false := by simpa using h b (by simp)
    rw [List.cons_append, linesGo_nb _ _ _ hb, ih (fun x hx => h x (by simp [hx]))]
    simp
theorem linesGo_joinGo (ls : List (List UInt8)) (h : ∀ x ∈ ls, noCR x) : ∀ c, linesGo c (joinGo ls) = c :: ls := by
  induction ls with
  | nil => intro c; simp [joinGo, linesGo]
  | cons l ls ih =>
    intro c
    simp only [joinGo, crlf, List.cons_append, List.nil_append]
    rw [linesGo_brk, linesGo_clean l (h l (by simp)), ih (fun x hx => h x (by simp [hx]))]
    simp
theorem lines_joined (ls : List (List UInt8)) (hne : ls ≠ []) (h : ∀ x ∈ ls, noCR x) : lines (joined ls) = ls := by
  cases ls with
  | nil => exact absurd rfl hne
  | cons l ls =>
    simp only [joined, lines]
    rw [linesGo_clean l (h l (by simp)), linesGo_joinGo ls (fun x hx => h x (by simp [hx]))]
    simp
theorem segs_ne (bin : Bool) (data : List UInt8) : segs bin data ≠ [] := segGo_ne bin data _ _
theorem phys_ne (ss : List (List UInt8)) (h : ss ≠ []) : phys ss ≠ [] := by
  cases ss with
  | nil => exact absurd rfl h
  | cons s ss => simp [phys, phGo_ne]
theorem lines_enc (bin : Bool) (data : List UInt8) : lines (enc bin data) = phys (segs bin data) := by
  rw [enc_eq, ← joined_phys, lines_joined _ (phys_ne _ (segs_ne bin data)) (fun x hx => ((phys_facts _).1 x hx).2)]
theorem lines_short (bin : Bool) (data : List UInt8) : ∀ x ∈ lines (enc bin data), x.length ≤ 76 := by
  rw [lines_enc]; exact fun x hx => ((phys_facts _).1 x hx).1
theorem lines_soft (bin : Bool) (data : List UInt8) : SoftOK (lines (enc bin data)) := by
  rw [lines_enc]; exact (phys_facts _).2

/-! One byte, many times. -/
def reps (n : Nat) (t : List UInt8) : List UInt8 := (List.replicate n t).flatten
theorem reps_len (n : Nat) (t : List UInt8) : (reps n t).length = n * t.length := by
  simp [reps, List.length_flatten]
theorem reps_succ (n : Nat) (t : List UInt8) : reps (n + 1) t = reps n t ++ t := by
  simp [reps, List.replicate_succ']
theorem phGo_rep (b : UInt8) (m : Nat) (hm : (token b false).length = m) (n : Nat) : ∀ k, k * m ≤ 75 →
    ∃ c xs, phGo (reps k (token b false)) (List.replicate n b) = List.replicate c (reps (75 / m) (token b false) ++ [61]) ++ xs ∧ 1 ≤ xs.length ∧ xs.length ≤ 2 := by
  induction n with
  | zero => intro k hk; exact ⟨0, [reps k (token b false)], by simp [phGo], by simp, by simp⟩
  | succ n ih =>
    intro k hk
    have hlen : (reps k (token b false)).length = k * m := by rw [reps_len, hm]
    cases n with
    | zero =>
      simp only [List.replicate_succ, List.replicate_zero, phGo]
      split
      · exact ⟨0, _, rfl, by simp, by simp⟩
      · exact ⟨0, _, rfl, by simp, by simp⟩
    | succ n =>
      have he : (List.replicate (n + 1) b).isEmpty = false := by simp [List.replicate_succ]
      have hm13 : m = 1 ∨ m = 3 := by
        rw [← hm, token_false]; split
        · left; rfl
        · right; rfl
      rw [List.replicate_succ, phGo, he, hm, hlen]
      split
      · rename_i h75
        have hk' : 75 / m = k := by rcases hm13 with rfl | rfl <;> omega
        obtain ⟨c, xs, e, h1, h2⟩ := ih 1 (by rcases hm13 with rfl | rfl <;> omega)
        have h1t : reps 1 (token b false) = token b false := by simp [reps]
        rw [h1t] at e
        refine ⟨c + 1, xs, ?_, h1, h2⟩
        rw [e, List.replicate_succ, hk']; simp
      · rename_i h75
        obtain ⟨c, xs, e, h1, h2⟩ := ih (k + 1) (by rw [Nat.add_mul]; omega)
        rw [reps_succ] at e
        exact ⟨c, xs, e, h1, h2⟩
theorem lines_rep (b : UInt8) (n : Nat) : ∃ c F xs, lines (enc true (List.replicate n b)) = List.replicate c F ++ xs ∧ 1 ≤ xs.length ∧ xs.length ≤ 2 := by
  obtain ⟨c, xs, e, h1, h2⟩ := phGo_rep b _ rfl n 0 (by simp)
  refine ⟨c, reps (75 / (token b false).length) (token b false) ++ [61], xs, ?_, h1, h2⟩
  rw [lines_enc, segs_bin, phys]
  simp only [List.flatMap_cons, List.flatMap_nil, List.append_nil]
  exact e

/-! Lengths. -/
def total (ss : List (List UInt8)) : Nat := (ss.map List.length).sum
theorem joinGo_len (ss : List (List UInt8)) : (joinGo ss).length = total ss + 2 * ss.length := by
  induction ss with
  | nil => rfl
  | cons s ss ih => simp only [joinGo, crlf, List.length_append, List.length_cons, List.length_nil, ih, total, List.map_cons, List.sum_cons]; omega
theorem joined_len (ss : List (List UInt8)) (h : ss ≠ []) : (joined ss).length + 2 = total ss + 2 * ss.length := by
  cases ss with
  | nil => exact absurd rfl h
  | cons s ss => simp only [joined, List.length_append, joinGo_len, total, List.map_cons, List.sum_cons, List.length_cons]; omega
theorem fillGo_len (l : List UInt8) : ∀ u, ∃ T S, (fillGo u l).length = T + 3 * S ∧ l.length ≤ T ∧ T ≤ 3 * l.length ∧ 73 * S ≤ T + u := by
  induction l with
  | nil => intro u; exact ⟨0, 0, by simp [fillGo], by simp, by simp, by omega⟩
  | cons b bs ih =>
    intro u
    have ht := token_len b bs.isEmpty
    rw [fillGo]
    split
    · obtain ⟨T, S, e, h1, h2, h3⟩ := ih (token b bs.isEmpty).length
      refine ⟨T + (token b bs.isEmpty).length, S + 1, ?_, ?_, ?_, ?_⟩
      · simp only [List.length_append, e, soft, List.length_cons, List.length_nil]; omega
      · simp; omega
      · simp; omega
      · omega
    · obtain ⟨T, S, e, h1, h2, h3⟩ := ih (u + (token b bs.isEmpty).length)
      refine ⟨T + (token b bs.isEmpty).length, S, ?_, ?_, ?_, ?_⟩
      · simp only [List.length_append, e]; omega
      · simp; omega
      · simp; omega
      · omega
theorem total_filled (ss : List (List UInt8)) : ∃ T S, total (ss.map filled) = T + 3 * S ∧ total ss ≤ T ∧ T ≤ 3 * total ss ∧ 73 * S ≤ T := by
  induction ss with
  | nil => exact ⟨0, 0, rfl, by simp [total], by simp, by omega⟩
  | cons s ss ih =>
    obtain ⟨T, S, e, h1, h2, h3⟩ := ih
    obtain ⟨T', S', e', h1', h2', h3'⟩ := fillGo_len s 0
    refine ⟨T' + T, S' + S, ?_, ?_, ?_, ?_⟩
    · simp only [total, List.map_cons, List.sum_cons] at e ⊢
      rw [e]; simp only [filled, e']; omega
    all_goals (simp only [total, List.map_cons, List.sum_cons] at h1 h2 ⊢; omega)
theorem segGo_len (bin : Bool) (data : List UInt8) : ∀ cr c, 
    data.length + c.length + 2 ≤ total (segGo bin cr c data) + 2 * (segGo bin cr c data).length + (if cr then 1 else 0) ∧
    total (segGo bin cr c data) + (segGo bin cr c data).length ≤ data.length + c.length + 1 := by
  induction data with
  | nil => intro cr c; simp [segGo, total]
  | cons b bs ih =>
    intro cr c
    have key : ∀ cr', (cr' = false ∨ cr' = cr) → (b :: bs).length + c.length + 2 ≤ total (segGo bin cr' (c ++ [b]) bs) + 2 * (segGo bin cr' (c ++ [b]) bs).length + (if cr then 1 else 0) ∧
        total (segGo bin cr' (c ++ [b]) bs) + (segGo bin cr' (c ++ [b]) bs).length ≤ (b :: bs).length + c.length + 1 := by
      intro cr' hcr
      have := ih cr' (c ++ [b])
      simp only [List.length_append, List.length_cons, List.length_nil] at this ⊢
      rcases hcr with rfl | rfl
      · simp at this; refine ⟨by split <;> omega, by omega⟩
      · refine ⟨by omega, by omega⟩
    rw [segGo]
    split
    · exact key _ (.inr rfl)
    · split
      · rename_i h
        have hcr : cr = true := (Bool.and_eq_true_iff.1 h).2
        have := ih false c
        simp only [hcr, List.length_cons, if_true]
        simp at this
        omega
      · rename_i hn
        split
        · have := ih true []
          simp only [total, List.map_cons, List.sum_cons, List.length_cons, List.length_nil] at this ⊢
          simp at this
          refine ⟨by split <;> omega, by omega⟩
        · split
          · have := ih cr []
            simp only [total, List.map_cons, List.sum_cons, List.length_cons, List.length_nil] at this ⊢
            refine ⟨by omega, by omega⟩
          · split
            · exact key _ (.inl rfl)
            · exact key _ (.inr rfl)
theorem enc_len (bin : Bool) (data : List UInt8) : data.length ≤ (enc bin data).length ∧ (enc bin data).length ≤ 3 * data.length + 3 * (3 * data.length / 73) := by
  rw [enc_eq]
  have hne : (segs bin data).map filled ≠ [] := by simpa using segs_ne bin data
  have h1 := joined_len _ hne
  have h2 := segGo_len bin data false []
  obtain ⟨T, S, e, h3, h4, h5⟩ := total_filled (segs bin data)
  simp only [segs] at h1 e h3 h4 h5 ⊢
  simp only [List.length_map, List.length_nil, Bool.false_eq_true, if_false] at h1 h2
  have hS : S ≤ 3 * data.length / 73 := by
    rw [Nat.le_div_iff_mul_le (by omega)]; omega
  omega
theorem enc_pos (bin : Bool) (data : List UInt8) : 0 < (enc bin data).length ∨ data.length = 0 := by
  have := (enc_len bin data).1; omega

/-! Without soft line breaks. -/
theorem unfolded_soft (r : List UInt8) : unfolded (soft ++ r) = unfolded r := by
  show unfolded (61 :: 13 :: 10 :: r) = unfolded r
  rw [unfolded.eq_def]; simp
theorem unfolded_cons (a : UInt8) (r : List UInt8) (h : (a == 61 && brk r) = false) : unfolded (a :: r) = a :: unfolded r := by
  match r with
  | [] => conv => lhs; rw [unfolded.eq_def]
  | [b] => conv => lhs; rw [unfolded.eq_def]
  | b :: c :: r =>
    have h' : (a == 61 && (b == 13 && c == 10)) = false := h
    conv => lhs; rw [unfolded.eq_def]
    simp only [h', Bool.false_eq_true, if_false]
theorem unfolded_ne (a : UInt8) (r : List UInt8) (h : a ≠ 61) : unfolded (a :: r) = a :: unfolded r :=
  unfolded_cons a r (by have : (a == 61) = false := by simpa using h
                        simp [this])
theorem unfolded_token (b : UInt8) (l : Bool) (r : List UInt8) : unfolded (token b l ++ r) = token b l ++ unfolded r := by
  have hlt := b.toNat_lt
  unfold token
  split
  · rename_i h
    refine unfolded_ne b r ?_
    rintro rfl
    revert h; cases l <;> decide
  · show unfolded (61 :: hexd (b.toNat / 16) :: hexd (b.toNat % 16) :: r) = _
    have h3 := hexd_ne13 (b.toNat / 16) (by omega)
    rw [unfolded_cons _ _ (by simp [brk, h3]), unfolded_ne _ _ (hexd_ne61 _ (by omega)), unfolded_ne _ _ (hexd_ne61 _ (by omega))]
    rfl
theorem unfolded_fill (l : List UInt8) : ∀ u r, unfolded (fillGo u l ++ r) = tokens l ++ unfolded r := by
  induction l with
  | nil => intro u r; simp [fillGo, tokens]
  | cons b bs ih =>
    intro u r
    rw [fillGo, tokens]
    split
    · rw [List.append_assoc, unfolded_soft, List.append_assoc, unfolded_token, ih]; simp
    · rw [List.append_assoc, unfolded_token, ih]; simp
theorem unfolded_joinGo (ss : List (List UInt8)) : unfolded (joinGo (ss.map filled)) = joinGo (ss.map tokens) := by
  induction ss with
  | nil => rfl
  | cons s ss ih =>
    simp only [List.map_cons, joinGo]
    show unfolded (13 :: 10 :: (filled s ++ joinGo (ss.map filled))) = _
    rw [unfolded_ne _ _ (by decide), unfolded_ne _ _ (by decide), filled, unfolded_fill, ih]; rfl
theorem unfolded_joined (ss : List (List UInt8)) : unfolded (joined (ss.map filled)) = joined (ss.map tokens) := by
  cases ss with
  | nil => rfl
  | cons s ss => simp only [List.map_cons, joined]; rw [filled, unfolded_fill, unfolded_joinGo]

/-! Short lines; a single byte; a line break in between. -/
theorem fillGo_short (l : List UInt8) : ∀ u, u + l.length ≤ 75 → (∀ l1 b l2, l = l1 ++ b :: l2 → lit b = true ∨ (blank b = true ∧ l2 ≠ [])) → fillGo u l = l := by
  induction l with
  | nil => intro u _ _; rfl
  | cons b bs ih =>
    intro u hu h
    have ht : token b bs.isEmpty = [b] := by
      unfold token
      rcases h [] b bs rfl with h1 | ⟨h1, h2⟩
      · simp [h1]
      · have : bs.isEmpty = false := by simpa using h2
        simp [h1, this]
    simp only [List.length_cons] at hu
    rw [fillGo, ht, if_neg (by simp; omega), ih _ (by simp; omega) (fun l1 c l2 e => h (b :: l1) c l2 (by rw [e]; rfl))]
    rfl
theorem enc_short (bin : Bool) (l : List UInt8) (hl : l.length ≤ 75) (h : ∀ l1 b l2, l = l1 ++ b :: l2 → lit b = true ∨ (blank b = true ∧ l2 ≠ [])) : enc bin l = l := by
  have hs : segs bin l = [l] := by
    cases bin with
    | true => exact segs_bin l
    | false =>
      refine segs_unbroken l ?_
      have : ∀ (l : List UInt8), (∀ b ∈ l, (lit b || blank b) = true) → unbroken l = true := by
        intro l
        induction l with
        | nil => intro _; rfl
        | cons b bs ih =>
          intro hb
          have h1 := not_brk_of b (hb b (by simp))
          simp only [unbroken, ih (fun x hx => hb x (by simp [hx])), Bool.and_true, Bool.not_eq_true']
          rw [Bool.or_comm]; exact h1
      refine this l (fun b hb => ?_)
      obtain ⟨l1, l2, e⟩ := List.append_of_mem hb
      rcases h l1 b l2 e with h1 | ⟨h1, _⟩ <;> simp [h1]
  rw [enc_eq, hs]
  simp only [List.map_cons, List.map_nil, joined, joinGo, List.append_nil]
  exact fillGo_short l 0 (by omega) h
theorem enc_modes (l : List UInt8) (h : unbroken l = true) : enc true l = enc false l := by
  rw [enc_eq, enc_eq, segs_bin, segs_unbroken l h]
theorem enc_apart (a b : List UInt8) (h : enc true a = enc true b) : a = b := by
  have h1 := decode_enc true a
  have h2 := decode_enc true b
  rw [h, h2, segs_bin, segs_bin] at h1
  simpa [joined, joinGo] using h1.symm

theorem write_append (L : Option Nat) (bin : Bool) (s : St) (a b : List UInt8) : write L bin s (a ++ b) = write L bin (write L bin s a) b := by
  simp [write]
theorem write_nil (L : Option Nat) (bin : Bool) (s : St) : write L bin s [] = s := rfl
/-! A limited underlying writer. -/
def leL (m : Nat) (L : Option Nat) : Prop := match L with | none => True | some M => m ≤ M
def Rel (m : Nat) (s t : St) : Prop := s = t ∨ (s.bad = true ∧ s.got <+: t.got ∧ (t.bad = false → m < t.got.length))
structure Good (f : Option Nat → St → St) : Prop where
  mono : ∀ L t, t.got <+: (f L t).got
  stuck : ∀ L t, t.bad = true → f L t = t
  rel : ∀ m L, leL m L → ∀ t, Rel m (f (some m) t) (f L t)
  low : ∀ m t, t.got.length ≤ m → (f (some m) t).got.length ≤ m
  fine : ∀ t, t.bad = false → (f none t).bad = false
theorem Good.comp {f g : Option Nat → St → St} (hf : Good f) (hg : Good g) : Good (fun L t => g L (f L t)) where
  mono := fun L t => (hf.mono L t).trans (hg.mono L _)
  stuck := fun L t h => by simp only [hf.stuck L t h]; exact hg.stuck L t h
  rel := fun m L hL t => by
    rcases hf.rel m L hL t with h | ⟨h1, h2, h3⟩
    · show Rel m (g (some m) (f (some m) t)) (g L (f L t))
      rw [h]; exact hg.rel m L hL _
    · right
      show (g (some m) (f (some m) t)).bad = true ∧ (g (some m) (f (some m) t)).got <+: _ ∧ _
      rw [hg.stuck _ _ h1]
      refine ⟨h1, h2.trans (hg.mono L _), fun hb => ?_⟩
      have hb' : (f L t).bad = false := by
        cases hc : (f L t).bad with
        | false => rfl
        | true => rw [hg.stuck L _ hc, hc] at hb; cases hb
      exact Nat.lt_of_lt_of_le (h3 hb') (hg.mono L _).length_le
  low := fun m t h => hg.low m _ (hf.low m t h)
  fine := fun t h => hg.fine _ (hf.fine t h)
theorem Good.cond {c : St → Bool} {f g : Option Nat → St → St} (hf : Good f) (hg : Good g) : Good (fun L t => if c t then f L t else g L t) where
  mono := fun L t => by show t.got <+: (if c t then f L t else g L t).got; split; exact hf.mono L t; exact hg.mono L t
  stuck := fun L t h => by show (if c t then f L t else g L t) = t; split; exact hf.stuck L t h; exact hg.stuck L t h
  rel := fun m L hL t => by show Rel m (if c t then f (some m) t else g (some m) t) (if c t then f L t else g L t); split; exact hf.rel m L hL t; exact hg.rel m L hL t
  low := fun m t h => by show (if c t then f (some m) t else g (some m) t).got.length ≤ m; split; exact hf.low m t h; exact hg.low m t h
  fine := fun t h => by show (if c t then f none t else g none t).bad = false; split; exact hf.fine t h; exact hg.fine t h
theorem Good.pure {h : St → St} (hb : ∀ t, t.bad = true → h t = t) (hg : ∀ t, (h t).got = t.got) (hf : ∀ t, t.bad = false → (h t).bad = false) : Good (fun _ t => h t) where
  mono := fun _ t => by rw [hg]; exact List.prefix_refl _
  stuck := fun _ t => hb t
  rel := fun _ _ _ _ => .inl rfl
  low := fun _ t h => by rw [hg]; exact h
  fine := hf
theorem Good.id : Good (fun _ t => t) := Good.pure (fun _ _ => rfl) (fun _ => rfl) (fun _ h => h)
theorem Good.congr {f g : Option Nat → St → St} (hf : Good f) (h : ∀ L t, g L t = f L t) : Good g := by
  have : g = f := by funext L t; exact h L t
  rw [this]; exact hf
theorem good_flush : Good flush where
  mono := fun L t => by
    unfold flush; split
    · exact List.prefix_refl _
    · split
      · exact List.prefix_refl _
      · exact List.prefix_append _ _
  stuck := fun L t h => by simp [flush, h]
  rel := fun m L hL t => by
    unfold flush
    by_cases hb : t.bad = true
    · left; simp [hb]
    · have hb' : t.bad = false := by simpa using hb
      simp only [hb', Bool.false_eq_true, if_false]
      by_cases ho : m < t.got.length + t.buf.length
      · right
        have h1 : over (some m) (t.got.length + t.buf.length) = true := by simp [over, ho]
        simp only [h1, if_true]
        refine ⟨trivial, ?_, ?_⟩
        · split
          · exact List.prefix_refl _
          · exact List.prefix_append _ _
        · split
          · intro h; cases h
          · intro _; simp [ho]
      · left
        have h1 : over (some m) (t.got.length + t.buf.length) = false := by simp [over]; omega
        have h2 : over L (t.got.length + t.buf.length) = false := by
          cases L with
          | none => rfl
          | some M => simp only [leL] at hL; simp [over]; omega
        simp [h1, h2]
  low := fun m t h => by
    unfold flush; split
    · exact h
    · split
      · exact h
      · rename_i h1 h2
        simp only [over, decide_eq_true_eq] at h2
        simp; omega
  fine := fun t h => by simp [flush, over, h]
theorem good_app (l : List UInt8) : Good (fun _ t => app l t) :=
  Good.pure (fun t h => by simp [app, h]) (fun t => by unfold app; split <;> rfl) (fun t h => by simp [app, h])
theorem insCRLF_eq (L : Option Nat) (t : St) : insCRLF L t = flush L (app crlf t) := by
  unfold insCRLF app flush; split <;> rename_i h <;> simp [h]
theorem good_insCRLF : Good insCRLF := ((good_app crlf).comp good_flush).congr insCRLF_eq
theorem insSoft_eq (L : Option Nat) (t : St) : insSoft L t = insCRLF L (app [61] t) := by
  unfold insSoft app; split <;> rename_i h
  · exact (good_insCRLF.stuck L t h).symm
  · rfl
theorem good_insSoft : Good insSoft := ((good_app [61]).comp good_insCRLF).congr insSoft_eq
theorem good_encode (b : UInt8) : Good (fun L t => encode L b t) := by
  refine (Good.cond (c := fun t => decide (72 < t.buf.length)) (good_insSoft.comp (good_app (enc3 b))) (good_app (enc3 b))).congr (fun L t => ?_)
  unfold encode
  by_cases hb : t.bad = true
  · simp [hb, good_insSoft.stuck L t hb, app]
  · simp only [hb, Bool.false_eq_true, if_false, decide_eq_true_eq]
def dropL (t : St) : St := if t.bad then t else { t with buf := t.buf.dropLast }
theorem good_dropL : Good (fun _ t => dropL t) :=
  Good.pure (fun t h => by simp [dropL, h]) (fun t => by unfold dropL; split <;> rfl) (fun t h => by simp [dropL, h])
theorem Good.each {α : Type} (g : St → α) {f : α → Option Nat → St → St} (hf : ∀ a, Good (f a)) : Good (fun L t => f (g t) L t) where
  mono := fun L t => (hf _).mono L t
  stuck := fun L t h => (hf _).stuck L t h
  rel := fun m L hL t => (hf _).rel m L hL t
  low := fun m t h => (hf _).low m t h
  fine := fun t h => (hf _).fine t h
theorem good_checkLast : Good checkLast := by
  have h1 : ∀ b : UInt8, Good (fun L t => if blank b then encode L b (dropL t) else t) := fun b =>
    Good.cond (c := fun _ => blank b) (good_dropL.comp (good_encode b)) Good.id
  have h2 : ∀ o : Option UInt8, Good (fun L t => match o with | none => t | some b => if blank b then encode L b (dropL t) else t) := by
    intro o
    cases o with
    | none => exact Good.id
    | some b => exact h1 b
  refine (Good.each (fun t => t.buf.getLast?) h2).congr (fun L t => ?_)
  unfold checkLast
  by_cases hb : t.bad = true
  · simp only [hb, if_true]
    cases t.buf.getLast? with
    | none => rfl
    | some b =>
      simp only [dropL, hb, if_true]
      split
      · rw [(good_encode b).stuck L t hb]
      · rfl
  · simp only [hb, Bool.false_eq_true, if_false, dropL]
    all_goals rfl
theorem good_setcr (c : Bool) : Good (fun _ t => if t.bad then t else { t with cr := c }) :=
  Good.pure (fun t h => by simp [h]) (fun t => by split <;> rfl) (fun t h => by simp [h])
theorem good_tail (b : UInt8) : Good (fun _ t => if t.bad then t else { t with buf := t.buf ++ [b], cr := false }) :=
  Good.pure (fun t h => by simp [h]) (fun t => by split <;> rfl) (fun t h => by simp [h])
theorem good_putc (b : UInt8) : Good (fun L t => putc L b t) := by
  have g1 : Good (fun L t => insCRLF L (checkLast L t)) := good_checkLast.comp good_insCRLF
  have g2 : Good (fun L t => if (b == 13) then insCRLF L (checkLast L (if t.bad then t else { t with cr := true })) else insCRLF L (checkLast L t)) :=
    Good.cond (c := fun _ => b == 13) ((good_setcr true).comp g1) g1
  have g3 := Good.cond (c := fun t => t.cr && b == 10) (good_setcr false) g2
  have g4 : Good (fun L t => if decide (t.buf.length = 75) then insSoft L t else t) := Good.cond good_insSoft Good.id
  have g5 := g4.comp (good_tail b)
  refine (Good.cond (c := fun _ => b == 10 || b == 13) g3 g5).congr (fun L t => ?_)
  unfold putc
  by_cases hb : t.bad = true
  · simp only [hb, if_true]
    split
    · split
      · rfl
      · split
        · rw [good_checkLast.stuck L t hb, good_insCRLF.stuck L t hb]
        · rw [good_checkLast.stuck L t hb, good_insCRLF.stuck L t hb]
    · split
      · rw [good_insSoft.stuck L t hb]; simp [hb]
      · simp
  · simp only [hb, Bool.false_eq_true, if_false, decide_eq_true_eq]
    split
    · split
      · rfl
      · split <;> rfl
    · rfl
theorem good_stepB (bin : Bool) (b : UInt8) : Good (fun L t => stepB L bin t b) :=
  Good.cond (c := fun _ => simple bin b) (good_putc b) (good_encode b)
theorem good_write (bin : Bool) (p : List UInt8) : Good (fun L t => write L bin t p) := by
  induction p with
  | nil => exact Good.id
  | cons b bs ih => exact (good_stepB bin b).comp ih
theorem good_close : Good close := good_checkLast.comp good_flush

/-! Scripts. -/
structure Stp where
  cl : Bool
  data : List UInt8
def callP (L : Option Nat) (bin : Bool) (s : St) (x : Stp) : St := if x.cl then close L s else write L bin s x.data
theorem good_call (bin : Bool) (x : Stp) : Good (fun L t => callP L bin t x) := Good.cond (c := fun _ => x.cl) good_close (good_write bin x.data)
/-- The states behind the calls of a script that is ended at the first call that fails. -/
def runP (L : Option Nat) (bin : Bool) (s : St) : List Stp → List St
  | [] => []
  | x :: xs => if (callP L bin s x).bad then [callP L bin s x] else callP L bin s x :: runP L bin (callP L bin s x) xs
def lastP (s : St) (l : List St) : St := l.getLastD s
def endP (L : Option Nat) (bin : Bool) (s : St) (xs : List Stp) : St := xs.foldl (callP L bin) s
theorem good_endP (bin : Bool) (xs : List Stp) : Good (fun L t => endP L bin t xs) := by
  induction xs with
  | nil => exact Good.id
  | cons x xs ih => exact (good_call bin x).comp ih
theorem lastP_runP (L : Option Nat) (bin : Bool) (xs : List Stp) : ∀ s, lastP s (runP L bin s xs) = endP L bin s xs := by
  induction xs with
  | nil => intro s; rfl
  | cons x xs ih =>
    intro s
    rw [runP]
    have he : endP L bin s (x :: xs) = endP L bin (callP L bin s x) xs := rfl
    rw [he]
    split
    · rename_i h
      rw [(good_endP bin xs).stuck L _ h]; rfl
    · rw [← ih]
      cases runP L bin (callP L bin s x) xs <;> rfl
end Qp
