/- The scanner's rune at the end, and shift. -/
import Derived.Test.YtfooeinfgmfhpaaDoorScD
namespace Go.Proofs.YtfooeinfgmfhpaaDoor
open Go.RowKit

set_option maxHeartbeats 400000 in
set_option maxRecDepth 20000 in
theorem rune_end (E : Env) (s : St) (w : World) (h : Sc E s w) (hcl : s.closed = false) (hch : s.ch < 0) (ho : s.off = E.text.length) :
    Calls Tryd.prog 54 #[.pointer (some ⟨E.S, 0, none⟩)] w (Moves E { s with closed := true } (.int .i32 (-1)) w) := by
  have h0 : w.cell? ⟨E.S, 0, none⟩ = some (.pointer (some ⟨E.SS, 0, none⟩)) := h.cell 0
  have h4 : w.cell? ⟨E.S, 4, none⟩ = some (.int .i32 s.ch) := h.cell 4
  have h5 : w.cell? ⟨E.S, 5, none⟩ = some (.int .u32 s.off) := h.cell 5
  have h8 : w.cell? ⟨E.S, 8, none⟩ = some (.bool false) := by rw [h.cell 8]; simp [St.cells, hcl]
  have hf := h.frozen
  have g4 : w.cell? ⟨E.SS, 4, none⟩ = some (.int .u32 E.text.length) := h.scell 4
  have hle : E.text.length ≤ s.off := by omega
  have H := Lib.hid h
  clear h hcl ho
  go_enter Tryd.func54, Tryd.ntmps54
  go_wp2_with fail
  go_quiet (fail)
  go_wp2
  go_ret
  exact ⟨rfl, (H.out.drewN _).set 8 _ rfl, ((Kept.refl _ _).drewN _).setS 8 _⟩

set_option maxHeartbeats 400000 in
set_option maxRecDepth 20000 in
theorem rune_closed (E : Env) (s : St) (w : World) (h : Sc E s w) (hcl : s.closed = true) :
    Calls Tryd.prog 54 #[.pointer (some ⟨E.S, 0, none⟩)] w (Moves E s (.int .i32 (-1)) w) := by
  have h8 : w.cell? ⟨E.S, 8, none⟩ = some (.bool true) := by rw [h.cell 8]; simp [St.cells, hcl]
  have H := Lib.hid h
  clear h hcl
  go_enter Tryd.func54, Tryd.ntmps54
  go_wp2
  go_ret
  exact ⟨rfl, H.out, Kept.refl _ _⟩

set_option maxHeartbeats 2000000 in
set_option maxRecDepth 20000 in
theorem shift_in (E : Env) (hE : EnvOk E) (s : St) (w : World) (h : Sc E s w) (hcl : s.closed = false) (hch : s.ch = E.at s.off) (hz : s.chSize = 1) (ho : s.off + 1 < E.text.length) :
    Calls Tryd.prog 55 #[.pointer (some ⟨E.S, 0, none⟩)] w (Moves E { s with off := s.off + 1, ch := E.at (s.off + 1), chSize := 1 } (.int .i32 (E.at (s.off + 1))) w) := by
  have h2 : w.cell? ⟨E.S, 2, none⟩ = some (.int .i64 1) := by rw [h.cell 2]; simp [St.cells, hz]
  have h4 : w.cell? ⟨E.S, 4, none⟩ = some (.int .i32 (E.at s.off)) := by rw [h.cell 4]; simp [St.cells, hch]
  have h5 : w.cell? ⟨E.S, 5, none⟩ = some (.int .u32 s.off) := h.cell 5
  have h8 : w.cell? ⟨E.S, 8, none⟩ = some (.bool false) := by rw [h.cell 8]; simp [St.cells, hcl]
  have hf := h.frozen
  have hl := hE.len
  have w1 : IntKind.u32.wrap 1 = 1 := IntWalk.u32_in _ (by omega)
  have w2 : IntKind.u32.wrap ((s.off : Int) + 1) = (s.off : Int) + 1 := IntWalk.u32_in _ (by omega)
  have H := Lib.hid h
  have HE := Lib.hid hE
  have HC := Lib.hid hcl
  clear h hE hcl hz hch
  by_cases hnl : E.at s.off = 10
  · have hb : ((E.at s.off : Int) == 10) = true := by simp [hnl]
    clear hnl
    go_enter Tryd.func55, Tryd.ntmps55
    go_wp2_with fail
    refine still_tail_drew 12 (by kernel_rfl) (by kernel_rfl) ?_
    simp only [List.take_succ_cons, List.take_zero, List.drop_succ_cons, List.drop_zero]
    repeat still_step
    refine wpStill_nil ?_
    go_wp2_with fail
    refine (rune_live E HE.out { s with off := s.off + 1, ch := -1 } _ ((H.out.drew.set (s' := { s with off := s.off + 1 }) 5 _ rfl).set (s' := { s with off := s.off + 1, ch := -1 }) 4 _ rfl) HC.out ho).mono ?_
    rintro e w3 ⟨rfl, hsc, hk⟩
    have q0 : w3.cell? ⟨E.S, 0, none⟩ = some (.pointer (some ⟨E.SS, 0, none⟩)) := hsc.cell 0
    have q5 : w3.cell? ⟨E.S, 5, none⟩ = some (.int .u32 ((s.off : Int) + 1)) := hsc.cell 5
    have r1 : w3.cell? ⟨E.SS, 1, none⟩ = some (.pointer (some ⟨E.F, 0, none⟩)) := hsc.scell 1
    have HS := Lib.hid hsc
    have HK := Lib.hid hk
    clear hsc hk h2 h4 h5 h8 hf
    go_wp2_with fail
    refine still_tail_drew 12 (by kernel_rfl) (by kernel_rfl) ?_
    simp only [List.take_succ_cons, List.take_zero, List.drop_succ_cons, List.drop_zero]
    repeat still_step
    refine wpStill_nil ?_
    go_wp2_with fail
    refine (addLine_any E HE.out _ _ HS.out.drew (s.off + 1) (by omega)).mono ?_
    rintro e w4 ⟨rfl, hsc4, hk4⟩
    have HS4 := Lib.hid hsc4
    have HK4 := Lib.hid hk4
    clear hsc4 hk4 q0 q5 r1
    go_wp2
    go_ret
    exact ⟨rfl, HS4.out, ((((((Kept.refl _ _).drew).setS 5 _).setS 4 _).trans HK.out).drew).trans HK4.out⟩
  · have hb : ((E.at s.off : Int) == 10) = false := by simp; omega
    clear hnl
    go_enter Tryd.func55, Tryd.ntmps55
    go_wp2_with fail
    refine still_tail_drew 12 (by kernel_rfl) (by kernel_rfl) ?_
    simp only [List.take_succ_cons, List.take_zero, List.drop_succ_cons, List.drop_zero]
    repeat still_step
    refine wpStill_nil ?_
    go_wp2_with fail
    refine (rune_live E HE.out { s with off := s.off + 1, ch := -1 } _ ((H.out.drew.set (s' := { s with off := s.off + 1 }) 5 _ rfl).set (s' := { s with off := s.off + 1, ch := -1 }) 4 _ rfl) HC.out ho).mono ?_
    rintro e w3 ⟨rfl, hsc, hk⟩
    have HS := Lib.hid hsc
    have HK := Lib.hid hk
    clear hsc hk
    go_wp2
    go_ret
    exact ⟨rfl, HS.out, ((((Kept.refl _ _).drew).setS 5 _).setS 4 _).trans HK.out⟩

set_option maxHeartbeats 2000000 in
set_option maxRecDepth 20000 in
theorem shift_end (E : Env) (hE : EnvOk E) (s : St) (w : World) (h : Sc E s w) (hcl : s.closed = false) (hch : s.ch = E.at s.off) (hz : s.chSize = 1) (ho : s.off + 1 = E.text.length) :
    Calls Tryd.prog 55 #[.pointer (some ⟨E.S, 0, none⟩)] w (Moves E { s with off := s.off + 1, ch := -1, closed := true } (.int .i32 (-1)) w) := by
  have h2 : w.cell? ⟨E.S, 2, none⟩ = some (.int .i64 1) := by rw [h.cell 2]; simp [St.cells, hz]
  have h4 : w.cell? ⟨E.S, 4, none⟩ = some (.int .i32 (E.at s.off)) := by rw [h.cell 4]; simp [St.cells, hch]
  have h5 : w.cell? ⟨E.S, 5, none⟩ = some (.int .u32 s.off) := h.cell 5
  have h8 : w.cell? ⟨E.S, 8, none⟩ = some (.bool false) := by rw [h.cell 8]; simp [St.cells, hcl]
  have hf := h.frozen
  have hl := hE.len
  have w1 : IntKind.u32.wrap 1 = 1 := IntWalk.u32_in _ (by omega)
  have w2 : IntKind.u32.wrap ((s.off : Int) + 1) = (s.off : Int) + 1 := IntWalk.u32_in _ (by omega)
  have hnl : E.at s.off = 10 := by rw [show s.off = E.text.length - 1 by omega]; exact hE.last (by omega)
  have H := Lib.hid h
  have HE := Lib.hid hE
  have HC := Lib.hid hcl
  have HO := Lib.hid ho
  have hb : ((E.at s.off : Int) == 10) = true := by simp [hnl]
  have hob : s.off + 1 ≤ 1000000 := by omega
  clear h hE hcl hz hch hnl ho
  · go_enter Tryd.func55, Tryd.ntmps55
    go_wp2_with fail
    refine still_tail_drew 12 (by kernel_rfl) (by kernel_rfl) ?_
    simp only [List.take_succ_cons, List.take_zero, List.drop_succ_cons, List.drop_zero]
    repeat still_step
    refine wpStill_nil ?_
    go_wp2_with fail
    refine (rune_end E { s with off := s.off + 1, ch := -1 } _ ((H.out.drew.set (s' := { s with off := s.off + 1 }) 5 _ rfl).set (s' := { s with off := s.off + 1, ch := -1 }) 4 _ rfl) HC.out (by simp) HO.out).mono ?_
    rintro e w3 ⟨rfl, hsc, hk⟩
    have q0 : w3.cell? ⟨E.S, 0, none⟩ = some (.pointer (some ⟨E.SS, 0, none⟩)) := hsc.cell 0
    have q5 : w3.cell? ⟨E.S, 5, none⟩ = some (.int .u32 ((s.off : Int) + 1)) := hsc.cell 5
    have r1 : w3.cell? ⟨E.SS, 1, none⟩ = some (.pointer (some ⟨E.F, 0, none⟩)) := hsc.scell 1
    have HS := Lib.hid hsc
    have HK := Lib.hid hk
    clear hsc hk h2 h4 h5 h8 hf
    go_wp2_with fail
    refine still_tail_drew 12 (by kernel_rfl) (by kernel_rfl) ?_
    simp only [List.take_succ_cons, List.take_zero, List.drop_succ_cons, List.drop_zero]
    repeat still_step
    refine wpStill_nil ?_
    go_wp2_with fail
    refine (addLine_any E HE.out _ _ HS.out.drew (s.off + 1) (by omega)).mono ?_
    rintro e w4 ⟨rfl, hsc4, hk4⟩
    have HS4 := Lib.hid hsc4
    have HK4 := Lib.hid hk4
    clear hsc4 hk4 q0 q5 r1
    go_wp2
    go_ret
    exact ⟨rfl, HS4.out, ((((((Kept.refl _ _).drew).setS 5 _).setS 4 _).trans HK.out).drew).trans HK4.out⟩
end Go.Proofs.YtfooeinfgmfhpaaDoor
