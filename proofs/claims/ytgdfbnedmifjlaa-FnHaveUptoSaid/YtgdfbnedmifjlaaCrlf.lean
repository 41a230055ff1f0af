/- insertCRLF and insertSoftLineBreak of the writer. -/
import Derived.Test.YtgdfbnedmifjlaaFlush
namespace Go.Proofs.Ytgdfbnedmifjlaa
open Go.RowKit

theorem WPost.from {w w1 w' : World} {B b g : Nat} {bin : Bool} {L : Option Nat} {v v1 : Value} {s' : Qp.St} {e : Ending} (hf : Fr b g w v w1 v1) (h : WPost w1 B b g bin L v1 s' e w') : WPost w B b g bin L v s' e w' := by
  obtain ⟨v', h1, h2, h3⟩ := h
  exact ⟨v', h1, h2, hf.trans h3⟩

theorem insCRLF_calls (w : World) (B b g : Nat) (bin : Bool) (L : Option Nat) (s : Qp.St) (v : Value) (hi : Inv w B b g bin L s v)
    (hb : s.bad = false) (hl : s.buf.length ≤ 76) (hL : L.getD 0 ≤ 9223372036854775807) (hg : s.got.length + s.buf.length ≤ 1099511627000) :
    Calls Try.prog 63 #[.pointer (some ⟨b, 0, none⟩)] w (WPost w B b g bin L v (Qp.insCRLF L s)) := by
  obtain ⟨rest, hlen, hr⟩ := hi.raw
  have c2 := hr.c2
  obtain ⟨o1, ho1⟩ : ∃ o, w.cell? ⟨b, 3 + s.buf.length, none⟩ = some o := ⟨_, hr.cl s.buf.length (by omega)⟩
  have f1 := hr.fz (3 + s.buf.length)
  obtain ⟨o2, ho2⟩ : ∃ o, w.cell? ⟨b, 3 + (s.buf.length + 1), none⟩ = some o := ⟨_, hr.cl (s.buf.length + 1) (by omega)⟩
  have f2 := hr.fz (3 + (s.buf.length + 1))
  have f3 := hr.fz 2
  have r3 := ((hr.putLine s.buf.length 13 (by omega) (.int .u8 13) rfl).putLine (s.buf.length + 1) 10 (by omega) (.int .u8 10) rfl).putN (s.buf.length + 2) ((s.buf.length : Int) + 2) (by omega)
  rw [put_two _ _ _ _ (by omega)] at r3
  have i3 : Inv _ B b g bin L { s with buf := s.buf ++ Qp.crlf } v := Raw.inv r3.drew.drew (by simp [Qp.crlf]) rfl rfl rfl
  have hC := flush_calls _ B b g bin L _ v i3 hb (by simp [Qp.crlf]; omega) hL (by simp [Qp.crlf]; omega)
  have hF : Fr b g w v _ v := ((((Fr.refl b g w v).put ⟨b, 3 + s.buf.length, none⟩ rfl (.int .u8 13)).put ⟨b, 3 + (s.buf.length + 1), none⟩ rfl (.int .u8 10)).put ⟨b, 2, none⟩ rfl (.int .i64 ((s.buf.length : Int) + 2))).drew.drew
  have e : Qp.flush L { s with buf := s.buf ++ Qp.crlf } = Qp.insCRLF L s := by simp [Qp.insCRLF, hb]
  rw [e] at hC
  generalize s.buf.length = n at *
  have HC := Lib.hid hC
  have HF := Lib.hid hF
  clear hi hr r3 i3 hC hF e
  go_enter Try.func63, Try.ntmps63
  go_wp2_with fail
  go_region
  go_wp2_with fail
  go_region
  go_wp2_with fail
  refine HC.out.mono ?_
  intro e w1 h
  obtain ⟨v', rfl, h2⟩ := h.from HF.out
  have H2 := Lib.hid h2
  clear h h2
  go_wp2
  go_ret
  exact ⟨v', rfl, H2.out⟩

theorem insSoft_calls (w : World) (B b g : Nat) (bin : Bool) (L : Option Nat) (s : Qp.St) (v : Value) (hi : Inv w B b g bin L s v)
    (hb : s.bad = false) (hl : s.buf.length ≤ 75) (hL : L.getD 0 ≤ 9223372036854775807) (hg : s.got.length + s.buf.length ≤ 1099511626000) :
    Calls Try.prog 64 #[.pointer (some ⟨b, 0, none⟩)] w (WPost w B b g bin L v (Qp.insSoft L s)) := by
  obtain ⟨rest, hlen, hr⟩ := hi.raw
  have c2 := hr.c2
  obtain ⟨o1, ho1⟩ : ∃ o, w.cell? ⟨b, 3 + s.buf.length, none⟩ = some o := ⟨_, hr.cl s.buf.length (by omega)⟩
  have f1 := hr.fz (3 + s.buf.length)
  have f3 := hr.fz 2
  have r3 := (hr.putLine s.buf.length 61 (by omega) (.int .u8 61) rfl).putN (s.buf.length + 1) ((s.buf.length : Int) + 1) (by omega)
  rw [put_one _ _ _ (by omega)] at r3
  have i3 : Inv _ B b g bin L { s with buf := s.buf ++ [61] } v := Raw.inv r3.drew (by simp) rfl rfl rfl
  have hC := insCRLF_calls _ B b g bin L _ v i3 hb (by simp; omega) hL (by simp; omega)
  have hF : Fr b g w v _ v := (((Fr.refl b g w v).put ⟨b, 3 + s.buf.length, none⟩ rfl (.int .u8 61)).put ⟨b, 2, none⟩ rfl (.int .i64 ((s.buf.length : Int) + 1))).drew
  have e : Qp.insCRLF L { s with buf := s.buf ++ [61] } = Qp.insSoft L s := by simp [Qp.insSoft, hb]
  rw [e] at hC
  generalize s.buf.length = n at *
  have HC := Lib.hid hC
  have HF := Lib.hid hF
  clear hi hr r3 i3 hC hF e
  go_enter Try.func64, Try.ntmps64
  go_wp2_with fail
  go_region
  go_wp2_with fail
  refine HC.out.mono ?_
  intro e w1 h
  obtain ⟨v', rfl, h2⟩ := h.from HF.out
  have H2 := Lib.hid h2
  clear h h2
  go_wp2
  go_ret
  exact ⟨v', rfl, H2.out⟩
end Go.Proofs.Ytgdfbnedmifjlaa
