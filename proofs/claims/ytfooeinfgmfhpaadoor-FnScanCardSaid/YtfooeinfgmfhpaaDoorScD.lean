/- The scanner's rune and shift, over its memory: at a place inside the text, and at its end. -/
import Derived.Test.YtfooeinfgmfhpaaDoorScC
import Derived.Deep.RegionHeld3
namespace Go.Proofs.YtfooeinfgmfhpaaDoor
open Go.RowKit

theorem Sc.two {E : Env} {s : St} {w w2 : World} {x : Int} (HS : Sc E s w2) (HK : Kept E w w2) :
    Sc E { s with ch := x, chSize := 1 } ((w2.setCell ⟨E.S, 4, none⟩ (.int .i32 x)).setCell ⟨E.S, 2, none⟩ (.int .i64 1)).drew ∧
      Kept E w ((w2.setCell ⟨E.S, 4, none⟩ (.int .i32 x)).setCell ⟨E.S, 2, none⟩ (.int .i64 1)).drew :=
  ⟨((HS.set (s' := { s with ch := x }) 4 _ rfl).set (s' := { s with ch := x, chSize := 1 }) 2 _ rfl).drew, ((HK.setS 4 _).setS 2 _).drew⟩

set_option maxHeartbeats 1000000 in
set_option maxRecDepth 20000 in
theorem rune_live (E : Env) (hE : EnvOk E) (s : St) (w : World) (h : Sc E s w) (hcl : s.closed = false) (ho : s.off < E.text.length) :
    Calls Tryd.prog 54 #[.pointer (some ⟨E.S, 0, none⟩)] w (Moves E { s with ch := E.at s.off, chSize := 1 } (.int .i32 (E.at s.off)) w) := by
  have h0 : w.cell? ⟨E.S, 0, none⟩ = some (.pointer (some ⟨E.SS, 0, none⟩)) := h.cell 0
  have h2 : w.cell? ⟨E.S, 2, none⟩ = some (.int .i64 s.chSize) := h.cell 2
  have h4 : w.cell? ⟨E.S, 4, none⟩ = some (.int .i32 s.ch) := h.cell 4
  have h5 : w.cell? ⟨E.S, 5, none⟩ = some (.int .u32 s.off) := h.cell 5
  have h8 : w.cell? ⟨E.S, 8, none⟩ = some (.bool false) := by rw [h.cell 8]; simp [St.cells, hcl]
  have hf := h.frozen
  have g0 : w.cell? ⟨E.SS, 0, none⟩ = some (.slice (some ⟨E.B, 0, none⟩) E.text.length E.cap) := h.scell 0
  have g4 : w.cell? ⟨E.SS, 4, none⟩ = some (.int .u32 E.text.length) := h.scell 4
  have b := h.bcell s.off ho
  have hl := hE.len
  have hc := hE.cap
  have ha := hE.asc s.off ho
  have hn : ((E.at s.off : Int) == 92) = false := by have := hE.bsl s.off ho; simp; omega
  have ho1 : (s.off : Int) ≤ E.cap := by omega
  have ho2 : s.off ≤ E.text.length := by omega
  have ho3 : (0 : Int) ≤ s.off := by omega
  have hcs : ¬ E.cap = s.off := by omega
  have ho4 : 0 < E.text.length - s.off := by omega
  have ho5 : E.text.length - s.off ≤ 1000000 := by omega
  have hne1 : ¬ E.SS = E.S := h.neSS
  have hne2 : ¬ E.S = E.SS := fun e => h.neSS e.symm
  have H := Lib.hid h
  have HE := Lib.hid hE
  clear h hE hcl
  by_cases hch : s.ch < 0
  · have ho' : decide (E.text.length ≤ s.off) = false := by simpa using ho
    go_enter Tryd.func54, Tryd.ntmps54
    go_wp2_with fail
    go_quiet (fail)
    go_wp2_with (go_at_call 43; refine (peek_in E HE.out s _ (H.out.drewN _) 0 (by omega)).mono ?_; rintro e w' ⟨rfl, n1, rfl⟩)
    have k0 : (w.drewN (nq + n1)).cell? ⟨E.S, 0, none⟩ = some (.pointer (some ⟨E.SS, 0, none⟩)) := h0
    have k5 : (w.drewN (nq + n1)).cell? ⟨E.S, 5, none⟩ = some (.int .u32 s.off) := h5
    have k2 : (w.drewN (nq + n1)).cell? ⟨E.S, 2, none⟩ = some (.int .i64 s.chSize) := h2
    have k4 : (w.drewN (nq + n1)).cell? ⟨E.S, 4, none⟩ = some (.int .i32 s.ch) := h4
    have kf2 : (w.drewN (nq + n1)).frozen? ⟨E.S, 2, none⟩ = false := hf 2
    have kf4 : (w.drewN (nq + n1)).frozen? ⟨E.S, 4, none⟩ = false := hf 4
    have kg0 : (w.drewN (nq + n1)).cell? ⟨E.SS, 0, none⟩ = some (.slice (some ⟨E.B, 0, none⟩) E.text.length E.cap) := g0
    have kb : (w.drewN (nq + n1)).cell? ⟨E.B, s.off, none⟩ = some (.int .u8 (E.at s.off)) := b
    have HS : Hid (Sc E s (w.drewN (nq + n1))) := H.out.drewN _
    have HK : Hid (Kept E w (w.drewN (nq + n1))) := (Kept.refl E w).drewN _
    clear h0 h2 h4 h5 h8 hf g0 g4 b
    generalize w.drewN (nq + n1) = w2 at *
    clear hch ho ho' hl hn H HE
    go_region_held3 (fun w' => w'.cell? ⟨E.S, 0, none⟩ = some (.pointer (some ⟨E.SS, 0, none⟩)) ∧ w'.cell? ⟨E.S, 5, none⟩ = some (.int .u32 s.off) ∧ w'.cell? ⟨E.SS, 0, none⟩ = some (.slice (some ⟨E.B, 0, none⟩) E.text.length E.cap))
      (first | assumption | (refine ⟨?_, ?_, ?_⟩ <;> (go_simp; done))) ((go_at_call 69; refine (decode_ascii E.B s.off _ _ (E.at s.off) _ ?_ ha ?_ ?_).mono ?_; (first | assumption | omega); (first | assumption | omega); (first | assumption | omega); rintro e w' ⟨rfl, rfl⟩))
    go_wp2
    go_ret
    exact ⟨rfl, Sc.two HS.out HK.out⟩
  · go_enter Tryd.func54, Tryd.ntmps54
    go_wp2_with (go_at_call 43; refine (peek_in E HE.out s _ (H.out) 0 (by omega)).mono ?_; rintro e w' ⟨rfl, n1, rfl⟩)
    have k0 : (w.drewN n1).cell? ⟨E.S, 0, none⟩ = some (.pointer (some ⟨E.SS, 0, none⟩)) := h0
    have k5 : (w.drewN n1).cell? ⟨E.S, 5, none⟩ = some (.int .u32 s.off) := h5
    have k2 : (w.drewN n1).cell? ⟨E.S, 2, none⟩ = some (.int .i64 s.chSize) := h2
    have k4 : (w.drewN n1).cell? ⟨E.S, 4, none⟩ = some (.int .i32 s.ch) := h4
    have kf2 : (w.drewN n1).frozen? ⟨E.S, 2, none⟩ = false := hf 2
    have kf4 : (w.drewN n1).frozen? ⟨E.S, 4, none⟩ = false := hf 4
    have kg0 : (w.drewN n1).cell? ⟨E.SS, 0, none⟩ = some (.slice (some ⟨E.B, 0, none⟩) E.text.length E.cap) := g0
    have kb : (w.drewN n1).cell? ⟨E.B, s.off, none⟩ = some (.int .u8 (E.at s.off)) := b
    have HS : Hid (Sc E s (w.drewN n1)) := H.out.drewN _
    have HK : Hid (Kept E w (w.drewN n1)) := (Kept.refl E w).drewN _
    clear h0 h2 h4 h5 h8 hf g0 g4 b
    generalize w.drewN n1 = w2 at *
    clear hch ho hl hn H HE
    go_region_held3 (fun w' => w'.cell? ⟨E.S, 0, none⟩ = some (.pointer (some ⟨E.SS, 0, none⟩)) ∧ w'.cell? ⟨E.S, 5, none⟩ = some (.int .u32 s.off) ∧ w'.cell? ⟨E.SS, 0, none⟩ = some (.slice (some ⟨E.B, 0, none⟩) E.text.length E.cap))
      (first | assumption | (refine ⟨?_, ?_, ?_⟩ <;> (go_simp; done))) ((go_at_call 69; refine (decode_ascii E.B s.off _ _ (E.at s.off) _ ?_ ha ?_ ?_).mono ?_; (first | assumption | omega); (first | assumption | omega); (first | assumption | omega); rintro e w' ⟨rfl, rfl⟩))
    go_wp2
    go_ret
    exact ⟨rfl, Sc.two HS.out HK.out⟩
end Go.Proofs.YtfooeinfgmfhpaaDoor
