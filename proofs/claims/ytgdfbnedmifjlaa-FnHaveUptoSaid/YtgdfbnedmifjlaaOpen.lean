/- From what an argument reads as to what its slices hold; from a walk to a row. -/
import Derived.Test.YtgdfbnedmifjlaaRows
import Derived.Test.YtgdfbnedmifjlaaScript
import Derived.ProofKit
import Derived.OpenShut
import Derived.JoinedCond
import Derived.SizedLaws
import Derived.Deep.CondSized
import Derived.Deep.Slices
import Derived.ChangeSame
namespace Go.Proofs.Ytgdfbnedmifjlaa
open Go.RowKit Go.ChangeShapes Go.WideShapes Go.ChangeAt Go.Deep

theorem Try.ownk : ownKnob Try.prog.godebug = none := by kernel_rfl
theorem Try.laidOut : laidOutB Try.prog = true := by kernel_rfl
theorem Try.cells5 : Try.prog.cellsOf 5 = 1 := by kernel_rfl
theorem Try.cells24 : Try.prog.cellsOf 24 = 1 := by kernel_rfl
theorem Try.cells26 : Try.prog.cellsOf 26 = 2 := by kernel_rfl
theorem Try.cells4 : Try.prog.cellsOf 4 = 1 := by kernel_rfl

section
variable {H : Type} {enc : TypeId × Value → H} {W : World}

theorem byte_of_wf {n : Int} (h : (Lit.int .u8 n).wf = true) : ∃ b : UInt8, n = (b.toNat : Int) := by
  have hx : 0 ≤ n ∧ n ≤ 255 := by simpa [Lit.wf, IntKind.min, IntKind.max, IntKind.signed, IntKind.bits] using h
  refine ⟨UInt8.ofNat n.toNat, ?_⟩
  simp
  omega
theorem bytes_of_wf (zs : List Int) : (∀ n ∈ zs, (Lit.int .u8 n).wf = true) → ∃ l : List UInt8, zs = l.map (fun b => (b.toNat : Int)) := by
  induction zs with
  | nil => intro _; exact ⟨[], rfl⟩
  | cons z zs ih =>
    intro h
    obtain ⟨b, rfl⟩ := byte_of_wf (h z (by simp))
    obtain ⟨l, rfl⟩ := ih (fun n hn => h n (by simp [hn]))
    exact ⟨b :: l, rfl⟩
theorem bulkAll_map {α : Type} (f : α → DataW H) (l : List α) : Rows.uptoBulkAll (l.map f) = (l.map (fun a => Rows.uptoBulk (f a))).sum := by
  induction l with
  | nil => rfl
  | cons a l ih => simp [Rows.uptoBulkAll, ih]
theorem one_le_bulk (d : DataW H) : 1 ≤ Rows.uptoBulk d := by
  cases d with
  | lit l => cases l <;> simp [Rows.uptoBulk]
  | nil => simp [Rows.uptoBulk]
  | ptr d => simp [Rows.uptoBulk]
  | slice elems spare => simp [Rows.uptoBulk]
  | agg parts => simp [Rows.uptoBulk]
  | iface t d => simp [Rows.uptoBulk]
  | map entries => simp [Rows.uptoBulk]
  | held h => simp [Rows.uptoBulk]
theorem len_le_bulk (l : List (DataW H)) : l.length ≤ Rows.uptoBulkAll l := by
  induction l with
  | nil => simp [Rows.uptoBulkAll]
  | cons d l ih => have := one_le_bulk d; simp only [List.length_cons, Rows.uptoBulkAll]; omega

/-- A []byte. -/
theorem bytes_of_trod {n : Nat} {cs : List Value} {x : DataW H × List MemPlace} (h : DataW.trod enc Try.prog W 0 (fun _ => true) true n 24 cs = some x) (hlt : ∀ y ∈ x.2, y.block < W.heap.size) :
    ∃ (u : Value) (l : List UInt8), cs = [u] ∧ Rd W 1 u l.length (l.map bv) ∧ l.length + 1 ≤ Rows.uptoBulk x.1 := by
  rcases open_ints Try.underlying24 Try.underlying5 Try.cells5 h with ⟨rfl, rfl⟩ | ⟨a, len, cap, zs, rfl, _, hl, hm, hz, rfl, hcell, hwz⟩
  · exact ⟨_, [], rfl, ⟨rfl, .inl ⟨rfl, rfl⟩⟩, by simp [Rows.uptoBulk]⟩
  · simp only [if_true] at hz
    obtain ⟨l, hl2⟩ := bytes_of_wf zs hwz
    have hlen : l.length = cap := by rw [← hz, hl2]; simp
    have htl : (l.take len).length = len := by simp; omega
    refine ⟨_, l.take len, rfl, ⟨by simp, .inr ⟨a, cap, by rw [htl], by omega, fun hn => ?_⟩⟩, ?_⟩
    · rw [htl] at hn
      have h0 := hcell 0 (by omega)
      have hsp : a.spot = none := by
        have e : a.add 0 = a := by simp [Addr.add]
        rw [e] at h0
        exact World.cell?_spot h0
      refine ⟨hsp, ?_, fun j u hu => ?_⟩
      · exact hlt (.cell a.block a.off) (MemPlace.mem_row.2 ⟨0, by omega, by simp⟩)
      · have hj : j < len := by
          have := (List.getElem?_eq_some_iff.1 hu).1
          simp at this; omega
        have := hcell j (by omega)
        rw [add_plain a hsp] at this
        rw [this, ← hu]
        have hjl : j < l.length := by omega
        simp [hl2, bv, hjl, hj]
    · have := len_le_bulk (lits (H := H) .u8 (zs.take len))
      simp only [Rows.uptoBulk]
      have e : (lits (H := H) .u8 (zs.take len)).length = len := by simp [lits]; omega
      rw [htl]
      omega

/-- A slice of slices of bytes. -/
def Parts (w : World) (v : Value) (ps : List (List UInt8)) : Prop :=
  ∃ ds : List Value, ds.length = ps.length ∧ Rd w 1 v ps.length ds ∧ ∀ (i : Nat) (d : Value) (p : List UInt8), ds[i]? = some d → ps[i]? = some p → Rd w 1 d p.length (p.map bv)
def ptot : List (List UInt8) → Nat
  | [] => 0
  | p :: ps => p.length + 1 + ptot ps
theorem ptot_range (f : Nat → List UInt8) (n : Nat) : ptot ((List.range n).map f) = ((List.range n).map (fun i => (f i).length + 1)).sum := by
  generalize List.range n = l
  induction l with
  | nil => rfl
  | cons a l ih => simp [ptot, ih]
theorem sum_le_sum (f g : Nat → Nat) (n : Nat) (h : ∀ i, i < n → f i ≤ g i) : ((List.range n).map f).sum ≤ ((List.range n).map g).sum := by
  have : ∀ l : List Nat, (∀ i ∈ l, f i ≤ g i) → (l.map f).sum ≤ (l.map g).sum := by
    intro l
    induction l with
    | nil => intro _; simp
    | cons a l ih =>
      intro hl
      have h1 := hl a (by simp)
      have h2 := ih (fun i hi => hl i (by simp [hi]))
      simp; omega
  exact this _ (fun i hi => h i (by simpa using hi))

theorem parts_of_trod {n : Nat} {cs : List Value} {x : DataW H × List MemPlace} (h : DataW.trod enc Try.prog W 0 (fun _ => true) true n 22 cs = some x) (hlt : ∀ y ∈ x.2, y.block < W.heap.size) :
    ∃ (u : Value) (ps : List (List UInt8)), cs = [u] ∧ Parts W u ps ∧ ptot ps + 1 ≤ Rows.uptoBulk x.1 := by
  rcases open_slice Try.underlying22 h with ⟨rfl, rfl⟩ | ⟨a, len, cap, m, fu, D, Pl, rfl, _, hl, hm, hmm, rfl, hel⟩
  · exact ⟨_, [], rfl, ⟨[], rfl, ⟨rfl, .inl ⟨rfl, rfl⟩⟩, by simp⟩, by simp [Rows.uptoBulk, ptot]⟩
  · simp only [if_true] at hmm
    subst hmm
    rw [Try.cells24] at hel
    have hrow : ∀ y ∈ MemPlace.row a (m * Try.prog.cellsOf 24), y.block < W.heap.size := fun y hy => hlt y (List.mem_append_left _ hy)
    have hPl : ∀ i, i < m → ∀ y ∈ Pl i, y.block < W.heap.size := fun i hi y hy => hlt y (List.mem_append_right _ (List.mem_flatMap.2 ⟨i, by simpa using hi, hy⟩))
    have hch : ∀ i, i < m → ∃ q : Value × List UInt8, W.cell? (a.add i) = some q.1 ∧ Rd W 1 q.1 q.2.length (q.2.map bv) ∧ q.2.length + 1 ≤ Rows.uptoBulk (D i) := by
      intro i hi
      obtain ⟨cs', hc, ht⟩ := hel i hi
      obtain ⟨u, l, rfl, h1, h2⟩ := bytes_of_trod ht (hPl i hi)
      obtain ⟨_, _, h3⟩ := World.cells?_some hc
      have := h3 0 (by omega)
      simp only [Nat.mul_one] at this
      have e : (a.add i).add 0 = a.add i := by simp [Addr.add]
      rw [e] at this
      exact ⟨(u, l), by simpa using this, h1, h2⟩
    obtain ⟨q, hq⟩ := choose_lt hch
    have e1 : ((List.range len).map (fun i => (q i).2)).length = len := by simp
    refine ⟨_, (List.range len).map (fun i => (q i).2), rfl, ⟨(List.range len).map (fun i => (q i).1), by simp, ⟨by simp, .inr ⟨a, m, by rw [e1], by omega, fun hn => ?_⟩⟩, ?_⟩, ?_⟩
    · rw [e1] at hn
      have h0 := (hq 0 (by omega)).1
      have hsp : a.spot = none := by
        have e : a.add 0 = a := by simp [Addr.add]
        rw [e] at h0
        exact World.cell?_spot h0
      refine ⟨hsp, ?_, fun j u hu => ?_⟩
      · exact hrow (.cell a.block a.off) (MemPlace.mem_row.2 ⟨0, by rw [Try.cells24]; omega, by simp⟩)
      · have hj : j < len := by
          have := (List.getElem?_eq_some_iff.1 hu).1
          simpa using this
        have := (hq j (by omega)).1
        rw [add_plain a hsp] at this
        rw [this, ← hu]
        simp [hj]
    · intro i d p h1 h2
      have hi : i < len := by
        have := (List.getElem?_eq_some_iff.1 h1).1
        simpa using this
      simp [hi] at h1 h2
      subst h1 h2
      exact (hq i (by omega)).2.1
    · simp only [Rows.uptoBulk]
      rw [ptot_range, bulkAll_map]
      have := sum_le_sum (fun i => (q i).2.length + 1) (fun i => Rows.uptoBulk (D i)) len (fun i hi => (hq i (by omega)).2.2)
      omega

theorem tot_range (f : Nat → Qp.Stp) (n : Nat) : tot ((List.range n).map f) = ((List.range n).map (fun i => (f i).data.length + 1)).sum := by
  generalize List.range n = l
  induction l with
  | nil => rfl
  | cons a l ih => simp [tot, ih]
theorem stepCells_range (f : Nat → Qp.Stp) (g : Nat → Value) (n j : Nat) (u : Value) (h : (stepCells ((List.range n).map f) ((List.range n).map g))[j]? = some u) :
    ∃ i, i < n ∧ ((j = i * 2 ∧ u = .bool (f i).cl) ∨ (j = i * 2 + 1 ∧ u = g i)) := by
  have hj : j < n * 2 := by
    have := (List.getElem?_eq_some_iff.1 h).1
    rw [stepCells_len _ _ (by simp)] at this
    simpa using this
  refine ⟨j / 2, by omega, ?_⟩
  have hi : j / 2 < n := by omega
  obtain ⟨g1, g2⟩ := stepCells_at ((List.range n).map f) ((List.range n).map g) (j / 2) (f (j / 2)) (g (j / 2)) (by simp [hi]) (by simp [hi])
  rcases Nat.mod_two_eq_zero_or_one j with hm | hm
  · left
    have e : j / 2 * 2 = j := by omega
    rw [e, h] at g1
    exact ⟨e.symm, by injection g1⟩
  · right
    have e : j / 2 * 2 + 1 = j := by omega
    rw [e, h] at g2
    exact ⟨e.symm, by injection g2⟩

/-- A slice of steps. -/
theorem steps_of_trod {n : Nat} {cs : List Value} {x : DataW H × List MemPlace} (h : DataW.trod enc Try.prog W 0 (fun _ => true) true n 23 cs = some x) (hlt : ∀ y ∈ x.2, y.block < W.heap.size) :
    ∃ (u : Value) (xs : List Qp.Stp), cs = [u] ∧ Steps W u xs ∧ tot xs + 1 ≤ Rows.uptoBulk x.1 := by
  rcases open_slice Try.underlying23 h with ⟨rfl, rfl⟩ | ⟨a, len, cap, m, fu, D, Pl, rfl, _, hl, hm, hmm, rfl, hel⟩
  · exact ⟨_, [], rfl, ⟨[], rfl, ⟨rfl, .inl ⟨rfl, rfl⟩⟩, by simp⟩, by simp [Rows.uptoBulk, tot]⟩
  · simp only [if_true] at hmm
    subst hmm
    have hrow : ∀ y ∈ MemPlace.row a (m * Try.prog.cellsOf 26), y.block < W.heap.size := fun y hy => hlt y (List.mem_append_left _ hy)
    have hPl : ∀ i, i < m → ∀ y ∈ Pl i, y.block < W.heap.size := fun i hi y hy => hlt y (List.mem_append_right _ (List.mem_flatMap.2 ⟨i, by simpa using hi, hy⟩))
    have hch : ∀ i, i < m → ∃ q : Value × Bool × List UInt8, W.cell? (a.add (i * 2)) = some (.bool q.2.1) ∧ W.cell? ((a.add (i * 2)).add 1) = some q.1 ∧ Rd W 1 q.1 q.2.2.length (q.2.2.map bv) ∧ q.2.2.length + 1 ≤ Rows.uptoBulk (D i) := by
      intro i hi
      obtain ⟨cs', hc, ht⟩ := hel i hi
      rw [Try.cells26] at hc
      obtain ⟨y0, y1, fu', hx, hcl, ht0, ht1⟩ := trod_struct2 Try.underlying26 ht
      obtain ⟨_, hc2, h3⟩ := World.cells?_some hc
      match cs', hc2 with
      | [c0, c1], _ =>
        have o0 : ([c0, c1].drop 0).take (Try.prog.cellsOf 4) = [c0] := by rw [Try.cells4]; rfl
        have o1 : ([c0, c1].drop 1).take (Try.prog.cellsOf 24) = [c1] := by rw [Try.cells24]; rfl
        obtain ⟨b, hb1, hb2⟩ := DataW.trod_bool Try.underlying4 ht0
        have hb1' : [c0] = [.bool b] := by rw [← hb1]; exact o0.symm
        have hpl : Pl i = y0.2 ++ y1.2 := by have := congrArg Prod.snd hx; exact this
        have hDi : D i = .agg [y0.1, y1.1] := by have := congrArg Prod.fst hx; exact this
        obtain ⟨u, l, hu, h1, h2⟩ := bytes_of_trod ht1 (fun y hy => hPl i hi y (by rw [hpl]; exact List.mem_append_right _ hy))
        have hu' : [c1] = [u] := by rw [← hu]; exact o1.symm
        injection hb1' with hb1' _
        injection hu' with hu' _
        subst hb1' hu'
        have k0 := h3 0 (by omega)
        have k1 := h3 1 (by omega)
        have e : (a.add (i * 2)).add 0 = a.add (i * 2) := by simp [Addr.add]
        rw [e] at k0
        refine ⟨(c1, b, l), by simpa using k0, by simpa using k1, h1, ?_⟩
        rw [hDi]
        simp only [Rows.uptoBulk, Rows.uptoBulkAll]
        have := one_le_bulk y0.1
        show l.length + 1 ≤ _
        omega
    obtain ⟨q, hq⟩ := choose_lt hch
    have e1 : ((List.range len).map (fun i => (⟨(q i).2.1, (q i).2.2⟩ : Qp.Stp))).length = len := by simp
    refine ⟨_, (List.range len).map (fun i => (⟨(q i).2.1, (q i).2.2⟩ : Qp.Stp)), rfl, ⟨(List.range len).map (fun i => (q i).1), by simp, ⟨stepCells_len _ _ (by simp), .inr ⟨a, m, by rw [e1], by omega, fun hn => ?_⟩⟩, ?_⟩, ?_⟩
    · rw [e1] at hn
      have h0 := (hq 0 (by omega)).1
      have hsp : a.spot = none := by
        have e : a.add (0 * 2) = a := by simp [Addr.add]
        rw [e] at h0
        exact World.cell?_spot h0
      refine ⟨hsp, ?_, fun j u hu => ?_⟩
      · exact hrow (.cell a.block a.off) (MemPlace.mem_row.2 ⟨0, by rw [Try.cells26]; omega, by simp⟩)
      · obtain ⟨i, hi, hc | hc⟩ := stepCells_range _ _ _ _ _ hu
        · have := (hq i (by omega)).1
          rw [add_plain a hsp] at this
          rw [hc.1, this, hc.2]
        · have := (hq i (by omega)).2.1
          rw [add_plain a hsp, add_plain _ rfl] at this
          rw [hc.1, ← Nat.add_assoc, this, hc.2]
    · intro i d p h1 h2
      have hi : i < len := by
        have := (List.getElem?_eq_some_iff.1 h1).1
        simpa using this
      simp [hi] at h1 h2
      subst h1 h2
      exact (hq i (by omega)).2.2.1
    · simp only [Rows.uptoBulk]
      rw [tot_range, bulkAll_map]
      have := sum_le_sum (fun i => (q i).2.2.length + 1) (fun i => Rows.uptoBulk (D i)) len (fun i hi => (hq i (by omega)).2.2.2)
      show ((List.range len).map (fun i => (q i).2.2.length + 1)).sum + 1 ≤ _
      omega

/-! The same of an argument. -/
theorem open_bytes {r : Reach} {b0 : Nat} {v : Value} {d : DataW H} {ps : List MemPlace} (hv : Value.okWide Try.prog W r b0 24 v) (h : DataW.Trod enc Try.prog W 0 (fun _ => true) true 24 v d ps) (hlt : ∀ y ∈ ps, y.block < W.heap.size) :
    ∃ l : List UInt8, Rd W 1 v l.length (l.map bv) ∧ l.length + 1 ≤ Rows.uptoBulk d := by
  obtain ⟨a, len, cap, rfl⟩ := okWide_slice Try.underlying24 hv
  obtain ⟨fuel, hf⟩ := h
  obtain ⟨u, l, h1, h2, h3⟩ := bytes_of_trod hf hlt
  simp [Value.cells] at h1
  subst h1
  exact ⟨l, h2, h3⟩
theorem open_parts {r : Reach} {b0 : Nat} {v : Value} {d : DataW H} {ps : List MemPlace} (hv : Value.okWide Try.prog W r b0 22 v) (h : DataW.Trod enc Try.prog W 0 (fun _ => true) true 22 v d ps) (hlt : ∀ y ∈ ps, y.block < W.heap.size) :
    ∃ l : List (List UInt8), Parts W v l ∧ ptot l + 1 ≤ Rows.uptoBulk d := by
  obtain ⟨a, len, cap, rfl⟩ := okWide_slice Try.underlying22 hv
  obtain ⟨fuel, hf⟩ := h
  obtain ⟨u, l, h1, h2, h3⟩ := parts_of_trod hf hlt
  simp [Value.cells] at h1
  subst h1
  exact ⟨l, h2, h3⟩
theorem open_steps {r : Reach} {b0 : Nat} {v : Value} {d : DataW H} {ps : List MemPlace} (hv : Value.okWide Try.prog W r b0 23 v) (h : DataW.Trod enc Try.prog W 0 (fun _ => true) true 23 v d ps) (hlt : ∀ y ∈ ps, y.block < W.heap.size) :
    ∃ l : List Qp.Stp, Steps W v l ∧ tot l + 1 ≤ Rows.uptoBulk d := by
  obtain ⟨a, len, cap, rfl⟩ := okWide_slice Try.underlying23 hv
  obtain ⟨fuel, hf⟩ := h
  obtain ⟨u, l, h1, h2, h3⟩ := steps_of_trod hf hlt
  simp [Value.cells] at h1
  subst h1
  exact ⟨l, h2, h3⟩

/-! From the walk to the row's last step. -/
theorem trodAll_below (ts : List TypeId) : ∀ (vs : List Value) (ds : List (DataW H)) (ps : List MemPlace) (W' : World), (∀ t ∈ ts, Try.prog.readableRec t = true ∧ t < Try.prog.types.size) → Below W.heap.size W W' → (∀ x ∈ ps, x.block < W.heap.size) →
    DataW.TrodAll enc Try.prog W 0 (fun _ => true) true ts vs ds ps → DataW.TrodAll enc Try.prog W' 0 (fun b => decide (b < W.heap.size)) true ts vs ds ps := by
  induction ts with
  | nil =>
    intro vs ds ps W' _ _ _ h
    obtain ⟨rfl, rfl, rfl⟩ := trodAll_nil h
    exact trodAll_mk0
  | cons t ts ih =>
    intro vs ds ps W' ht hb hlt h
    obtain ⟨v, vs', d, ds', p, q, rfl, rfl, rfl, h1, h2⟩ := trodAll_cons h
    exact trodAll_cons_mk (Below.trod Try.laidOut (ht t (by simp)).1 (ht t (by simp)).2 h1 hb (fun x hx => hlt x (List.mem_append_left _ hx)))
      (ih vs' ds' q W' (fun u hu => ht u (by simp [hu])) hb (fun x hx => hlt x (List.mem_append_right _ hx)) h2)

theorem law_post {f : Func} {s : ChangeSpec} {W' : World} {args : Array Value} {ds gs : List (DataW H)} {before : List MemPlace}
    (hW : DataW.Whole enc Try.prog f.params.toList s.vars false W args.toList ds gs before) (hv : s.vars = []) (hrt : f.resultTypes = #[4])
    (hr : (s.fn H (ds ++ gs)).results = [.lit (.bool true)]) (ha : (s.fn H (ds ++ gs)).args = ds) (hvs : (s.fn H (ds ++ gs)).vars = [])
    (hread : ∀ t ∈ f.params.toList, Try.prog.readableRec t = true ∧ t < Try.prog.types.size) (hb : Below W.heap.size W W') :
    s.post enc Try.prog f false true false false W args (.bool true) W' := by
  have hW' := hW
  obtain ⟨p, q, hA, hV, rfl, _, _⟩ := hW
  have hlt := hW'.lt
  refine ⟨ds, gs, p ++ q, [], p, [], hW', ?_, ?_, ?_, hb.frame _, fun h => by cases h⟩
  · rw [hr, hrt]
    exact trodAll_mk1 (shut_bool Try.underlying4 true)
  · rw [ha]
    exact trodAll_below _ _ _ _ _ hread hb (fun x hx => hlt x (List.mem_append_left _ hx)) hA
  · rw [hvs, hv]; rfl
end
/-- The bound, as the builder hands it over. -/
theorem bulk_of {H : Type} {l : List (DataW H)} (hk : Rows.uptoSmall H l = true) : Rows.uptoBulkAll l ≤ 1048576 := of_decide_eq_true hk
end Go.Proofs.Ytgdfbnedmifjlaa
