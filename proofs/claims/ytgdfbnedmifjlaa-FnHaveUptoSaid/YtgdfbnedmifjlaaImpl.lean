/- own, NewWriter of the thin package and the library. -/
import Derived.Test.YtgdfbnedmifjlaaWriteAll
import Derived.Laws.AppendOwnNone
namespace Go.Proofs.Ytgdfbnedmifjlaa
open Go.RowKit

/-- A slice value that reads as n elements, with the cells xs. -/
def Rd (w : World) (size : Nat) (v : Value) (n : Nat) (xs : List Value) : Prop :=
  xs.length = n * size ∧ ((v = .slice none 0 0 ∧ n = 0) ∨ ∃ ad c, v = .slice (some ad) n c ∧ n ≤ c ∧ (0 < n → ad.spot = none ∧ ad.block < w.heap.size ∧ ∀ j u, xs[j]? = some u → w.cell? ⟨ad.block, ad.off + j, none⟩ = some u))
theorem Rd.keep {w w' : World} {size n : Nat} {v : Value} {xs : List Value} (h : Rd w size v n xs) (hb : Below w.heap.size w w') : Rd w' size v n xs := by
  refine ⟨h.1, ?_⟩
  rcases h.2 with h2 | ⟨ad, c, h1, h2, h3⟩
  · exact .inl h2
  · refine .inr ⟨ad, c, h1, h2, fun hn => ?_⟩
    obtain ⟨h4, h5, h6⟩ := h3 hn
    exact ⟨h4, Nat.lt_of_lt_of_le h5 hb.size, fun j u hu => (hb.cell (p := ⟨ad.block, ad.off + j, none⟩) h5).trans (h6 j u hu)⟩
theorem Rd.of_own {w : World} {base size n : Nat} {e : TypeId} {v : Value} {xs : List Value} (h : w.ownsRow base e size v n xs) : Rd w size v n xs := by
  refine ⟨h.1, ?_⟩
  rcases h.2 with h2 | ⟨g, cap, cur, hv, hg, hh, hc, r⟩
  · exact .inl h2
  · refine .inr ⟨⟨g, 0, none⟩, cap, hv, hc, fun hn => ⟨rfl, (Array.getElem?_eq_some_iff.1 hh).1, fun j u hu => ?_⟩⟩
    have := h.cells (g := g) (by rw [hv]; rfl) j u hu
    have e : (⟨g, 0, none⟩ : Addr).add j = ⟨g, 0 + j, none⟩ := by
      unfold Addr.add; split
      · rename_i h0; subst h0; rfl
      · rfl
    rw [e] at this
    exact this
theorem add_plain (ad : Addr) (h : ad.spot = none) (j : Nat) : ad.add j = ⟨ad.block, ad.off + j, none⟩ := by
  obtain ⟨b, o, s⟩ := ad
  simp only at h; subst h
  unfold Addr.add; split
  · rename_i h0; subst h0; rfl
  · rfl

/-- append onto a row of the call's own, whatever the source. -/
theorem wpList_app {P : Program} (w : World) {ops : Array Oper} {rest : List Oper} {o : Oper} {a : Act} {Q : Exit → Act → World → Prop} (hgd : o.guard = none) (s x : Operand) (t : TypeId)
    (ho : o.op = .call { callee := .builtin .append, args := #[s, x], argTypes := #[t, t] })
    (base : Nat) (e : TypeId) (i : TypeInfo) (z : Value) (size bytes : Nat) (ht : P.underlying t = some (.slice e)) (hi : P.info? e = some i) (hz : i.zero = some z)
    (hsize : i.size = size) (hby : i.bytes = bytes) (hzs : z.cells.size = size) (hsz : 0 < size)
    (v : Value) (n : Nat) (xs : List Value) (hs : a.eval s = v) (hown : w.ownsRow base e size v n xs)
    (u : Value) (m : Nat) (news : List Value) (hx : a.eval x = u) (hr : Rd w size u m news) (h1 : ∀ u ∈ news, u.oneCell' = true)
    (h63 : n + m ≤ maxLen) (hbytes : (n + m) * bytes ≤ 140737488355328) (hbase : base ≤ w.heap.size)
    (h : ∀ v' w', w'.ownsRow base e size v' (n + m) (xs ++ news) → w.grownBy w' v.ownBlock → (v'.ownBlock = v.ownBlock ∨ v'.ownBlock = some w.heap.size) → wpList P ops Q rest (a.put o.dst v') w') :
    wpList P ops Q (o :: rest) a w := by
  rcases hr.2 with ⟨rfl, rfl⟩ | ⟨ad, c, rfl, hc, hcell⟩
  · have hn : news = [] := List.eq_nil_of_length_eq_zero (by simpa using hr.1)
    subst hn
    refine wpList_append_own_none hgd s x t ho base e i size ht hi v n xs hs hown hx ?_
    exact h v w (by simpa using hown) ⟨rfl, rfl, rfl, Nat.le_refl _, fun _ _ _ => rfl⟩ (.inl rfl)
  · refine wpList_append_own_at w hgd s x t ho base e i z size bytes ht hi hz hsize hby hzs hsz v n xs hs hown ad m c news hx hr.1 ?_ h1 h63 hbytes hbase (fun v' w' g1 g2 _ g3 => h v' w' g1 g2 g3)
    intro j u hu
    have hm : 0 < m := by
      rcases Nat.eq_zero_or_pos m with h0 | h0
      · subst h0
        have hn : news = [] := List.eq_nil_of_length_eq_zero (by simpa using hr.1)
        subst hn; simp at hu
      · exact h0
    obtain ⟨h4, _, h6⟩ := hcell hm
    rw [add_plain ad h4]
    exact h6 j u hu

theorem Rd.alloc {w : World} {size n : Nat} {v : Value} {xs : List Value} (h : Rd w size v n xs) (o : Obj) : Rd (w.alloc o) size v n xs := h.keep ((Below.refl _ _).alloc (Nat.le_refl _) o)
theorem own_empty (w : World) (e : TypeId) (size : Nat) : (w.alloc (.cells #[] e)).ownsRow w.heap.size e size (.slice (some ⟨w.heap.size, 0, none⟩) 0 0) 0 [] :=
  World.ownsRow_made w #[] 0 (Nat.le_refl _) (by unfold maxLen; omega) (by simp)

/-- What a call leaves that hands back a new row. -/
def NewRow (w : World) (e : TypeId) (size n : Nat) (xs : List Value) (en : Ending) (w' : World) : Prop :=
  ∃ v', en = .returned v' ∧ w'.ownsRow w.heap.size e size v' n xs ∧ Below w.heap.size w w'

theorem own_calls (w : World) (v : Value) (l : List UInt8) (hr : Rd w 1 v l.length (l.map bv)) (hl : l.length ≤ 1099511627776) :
    Calls Try.prog 57 #[v] w (NewRow w 5 1 l.length (l.map bv)) := by
  obtain ⟨i0, hi, hz0, hz1, hz2⟩ := info_parts info5
  have HR := Lib.hid hr
  clear hr
  go_enter Try.func57, Try.ntmps57
  go_wp2_with (at_builtin; refine wpList_app _ rfl _ _ 24 rfl w.heap.size 5 i0 (.int .u8 0) 1 1 Try.underlying24 hi hz0 hz1 hz2 rfl (by decide) _ 0 [] rfl (own_empty w 5 1) v l.length (l.map bv) rfl (HR.out.alloc _) (bvs_one l) (by unfold maxLen; omega) (by omega) (by simp) ?_)
  intro v' w1 h1 h2 h3
  have H1 := Lib.hid h1
  have H2 := Lib.hid h2
  clear h1 h2 h3
  go_wp2
  go_ret
  refine ⟨v', rfl, by simpa using H1.out, ((Below.refl _ w).alloc (Nat.le_refl _) _).grown H2.out (by simp) (fun k hk => ?_)⟩
  simp only [Value.ownBlock, Option.some.injEq] at hk
  omega

theorem new_calls (w : World) (g : Nat) :
    Calls Try.prog 51 #[.iface 53 (.pointer (some ⟨g, 0, none⟩))] w fun e w' => e = .returned (.pointer (some ⟨w.heap.size, 0, none⟩)) ∧ w' = w.alloc (.cells (wcells false g 0 (List.replicate 78 0) false) 62) := by
  go_enter Try.func51, Try.ntmps51
  go_wp2
  go_ret
  exact ⟨rfl, rfl⟩
end Go.Proofs.Ytgdfbnedmifjlaa
