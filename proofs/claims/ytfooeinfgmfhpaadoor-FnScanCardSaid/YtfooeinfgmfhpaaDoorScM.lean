/- The scanner's cppScan0 at the end of the text. -/
import Derived.Test.YtfooeinfgmfhpaaDoorScI
namespace Go.Proofs.YtfooeinfgmfhpaaDoor
open Go.RowKit

set_option maxHeartbeats 4000000 in
set_option maxRecDepth 100000 in
theorem c0_closed (E : Env) (hE : EnvOk E) (t : St) (w : World) (h : Sc E t w) (hcl : t.closed = true) (ho : t.off ≤ E.text.length) :
    Calls Tryd.prog 44 #[.pointer (some ⟨E.S, 0, none⟩)] w (Moves E { t with sep := t.off, src := t.off } (tokV E (-1) t.off t.off 0) w) := by
  have l0 := h.lt
  have H := Lib.hid h
  have HE := Lib.hid hE
  have HC := Lib.hid hcl
  have HO := Lib.hid ho
  clear h hE hcl ho
  go_enter Tryd.func44, Tryd.ntmps44
  go_wp2_with fail
  refine (scanSep_closed E t _ (H.out.alloc _) HC.out).mono ?_
  rintro e w1 ⟨rfl, hsc, hk⟩
  have p5 : w1.cell? ⟨E.S, 5, none⟩ = some (.int .u32 t.off) := hsc.cell 5
  have p7 : w1.cell? ⟨E.S, 7, none⟩ = some (.int .u32 t.src) := hsc.cell 7
  have pf := hsc.frozen
  have T1 := Lib.hid ((TokAt.start H.out).next H.out hsc hk)
  clear hsc hk
  go_wp2_with fail
  have T2 := Lib.hid (TokAt.setS H.out T1.out 7 (.int .u32 t.off) (T1.out.sc.set (s' := { t with sep := t.off, src := t.off }) 7 (.int .u32 t.off) rfl))
  refine (rune_closed E _ _ T2.out.sc HC.out).mono ?_
  rintro e w2 ⟨rfl, hsc, hk⟩
  have p8 : w2.cell? ⟨E.S, 8, none⟩ = some (.bool true) := by rw [hsc.cell 8]; simp [St.cells, HC.out]
  have pf2 := hsc.frozen
  have T3 := Lib.hid (T2.out.next H.out hsc hk)
  clear hsc hk p5 p7 pf
  go_wp2_with fail
  have T4 := Lib.hid (TokAt.setS H.out T3.out 8 (.bool true) (T3.out.sc.set (s' := { t with sep := t.off, src := t.off }) 8 (.bool true) (by simp [St.cells, HC.out])))
  refine (newToken_any E HE.out _ _ T4.out.sc (-1) 0 rfl (HO.out)).mono ?_
  rintro e w4 ⟨rfl, hsc, hk⟩
  have T5 := T4.out.next H.out hsc hk
  obtain ⟨z0, z1, z2, z3, z4, z5, z6, z7, zf⟩ := zero_cells T5.res
  have HTL := Lib.hid T5
  clear hsc hk T5 p8 pf2
  go_wp2
  refine bodyPost_ret (v := tokV E (-1) t.off t.off 0) (by simp [results, Tryd.results44, go_sem, z0, z1, z2, z3, z4, z5, z6, z7]) rfl ⟨rfl, HTL.out.store (by omega) _ _ _ _ _ _ _ _⟩

set_option maxHeartbeats 4000000 in
set_option maxRecDepth 100000 in
theorem c0_end (E : Env) (hE : EnvOk E) (t : St) (w : World) (h : Sc E t w) (hcl : t.closed = false) (hch : t.ch < 0) (ho : t.off = E.text.length) :
    Calls Tryd.prog 44 #[.pointer (some ⟨E.S, 0, none⟩)] w (Moves E { t with sep := t.off, src := t.off, closed := true } (tokV E (-1) t.off t.off 0) w) := by
  have l0 := h.lt
  have H := Lib.hid h
  have HE := Lib.hid hE
  have HC := Lib.hid hcl
  have HO := Lib.hid ho
  have HCH := Lib.hid hch
  clear h hE hcl ho hch
  go_enter Tryd.func44, Tryd.ntmps44
  go_wp2_with fail
  refine (scanSep_end E t _ (H.out.alloc _) HC.out HCH.out HO.out).mono ?_
  rintro e w1 ⟨rfl, hsc, hk⟩
  have p5 : w1.cell? ⟨E.S, 5, none⟩ = some (.int .u32 t.off) := hsc.cell 5
  have p7 : w1.cell? ⟨E.S, 7, none⟩ = some (.int .u32 t.src) := hsc.cell 7
  have pf := hsc.frozen
  have T1 := Lib.hid ((TokAt.start H.out).next H.out hsc hk)
  clear hsc hk
  go_wp2_with fail
  have T2 := Lib.hid (TokAt.setS H.out T1.out 7 (.int .u32 t.off) (T1.out.sc.set (s' := { t with sep := t.off, src := t.off, closed := true }) 7 (.int .u32 t.off) rfl))
  refine (rune_closed E _ _ T2.out.sc rfl).mono ?_
  rintro e w2 ⟨rfl, hsc, hk⟩
  have p8 : w2.cell? ⟨E.S, 8, none⟩ = some (.bool true) := by rw [hsc.cell 8]; rfl
  have pf2 := hsc.frozen
  have T3 := Lib.hid (T2.out.next H.out hsc hk)
  clear hsc hk p5 p7 pf
  go_wp2_with fail
  have T4 := Lib.hid (TokAt.setS H.out T3.out 8 (.bool true) (T3.out.sc.set (s' := { t with sep := t.off, src := t.off, closed := true }) 8 (.bool true) (rfl)))
  refine (newToken_any E HE.out _ _ T4.out.sc (-1) 0 rfl (Nat.le_of_eq HO.out)).mono ?_
  rintro e w4 ⟨rfl, hsc, hk⟩
  have T5 := T4.out.next H.out hsc hk
  obtain ⟨z0, z1, z2, z3, z4, z5, z6, z7, zf⟩ := zero_cells T5.res
  have HTL := Lib.hid T5
  clear hsc hk T5 p8 pf2
  go_wp2
  refine bodyPost_ret (v := tokV E (-1) t.off t.off 0) (by simp [results, Tryd.results44, go_sem, z0, z1, z2, z3, z4, z5, z6, z7]) rfl ⟨rfl, HTL.out.store (by omega) _ _ _ _ _ _ _ _⟩
end Go.Proofs.YtfooeinfgmfhpaaDoor
