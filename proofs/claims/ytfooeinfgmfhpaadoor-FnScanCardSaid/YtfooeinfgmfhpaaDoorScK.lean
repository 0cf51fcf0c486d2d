/- The scanner's cppScan0, one way a theorem (printed by a program of mine, wip/gen_c0.py). -/
import Derived.Test.YtfooeinfgmfhpaaDoorScI
namespace Go.Proofs.YtfooeinfgmfhpaaDoor
open Go.RowKit

set_option maxHeartbeats 4000000 in
set_option maxRecDepth 100000 in
theorem c0_124a (E : Env) (hE : EnvOk E) (t : St) (w : World) (h : Sc E t w) (hcl : t.closed = false) (K : Nat) (hK : t.off ≤ K) (hl : K + 1 < E.text.length)
    (hsp : ∀ i, t.off ≤ i → i < K → E.at i = 32) (hc : E.at K = 124) (hx : E.at (K + 1) ≠ 61) (hy : E.at (K + 1) ≠ 124) :
    Calls Tryd.prog 44 #[.pointer (some ⟨E.S, 0, none⟩)] w (Moves E (mv E (tk t K) (K + 1)) (tokV E 124 t.off K 1) w) := by
  have l0 := h.lt
  have hlen := hE.len
  have hns : noSep (E.at K) ∧ E.at K ≠ 47 := by rw [hc]; unfold noSep; decide
  have hci : (E.at K : Int) = 124 := by omega
  have b61 : ((E.at (K + 1) : Int) == 61) = false := by simp; omega
  have b124 : ((E.at (K + 1) : Int) == 124) = false := by simp; omega
  have H := Lib.hid h
  have HE := Lib.hid hE
  have HC := Lib.hid hcl
  have HSP := Lib.hid hsp
  have HNS := Lib.hid hns
  have HCI := Lib.hid hci
  clear h hE hcl hsp hns hci hc
  clear hx hy
  go_enter Tryd.func44, Tryd.ntmps44
  go_wp2_with fail
  refine (scanSep_plain E HE.out t _ (H.out.alloc _) HC.out K hK (by omega) HSP.out HNS.out.1 HNS.out.2).mono ?_
  rintro e w1 ⟨rfl, hsc, hk⟩
  have p5 : w1.cell? ⟨E.S, 5, none⟩ = some (.int .u32 K) := hsc.cell 5
  have p7 : w1.cell? ⟨E.S, 7, none⟩ = some (.int .u32 t.src) := hsc.cell 7
  have pf := hsc.frozen
  have T1 := Lib.hid ((TokAt.start H.out).next H.out hsc hk)
  clear hsc hk
  go_wp2_with fail
  have T2 := Lib.hid (TokAt.setS H.out T1.out 7 (.int .u32 K) (T1.out.sc.set (s' := mv E (tk t K) K) 7 (.int .u32 K) rfl))
  refine (rune_lit E HE.out (tk t K) K _ _ 124 HCI.out _ T2.out.sc HC.out (by omega)).mono ?_
  rintro e w2 ⟨rfl, hsc, hk⟩
  have T3 := Lib.hid (T2.out.next H.out hsc hk)
  clear hsc hk p5 p7 pf
  go_wp2_with fail
  refine (shift_mv E HE.out (tk t K) (K) _ T3.out.sc HC.out (by omega)).mono ?_
  rintro e w3 ⟨rfl, hsc, hk⟩
  have T4 := Lib.hid (T3.out.next H.out hsc hk)
  clear hsc hk
  go_wp2_with fail
  refine (newTok_mv E HE.out (tk t K) (K + 1) _ T4.out.sc 124 1 rfl (by omega)).mono ?_
  rintro e w3 ⟨rfl, hsc, hk⟩
  have T5 := T4.out.next H.out hsc hk
  obtain ⟨z0, z1, z2, z3, z4, z5, z6, z7, zf⟩ := zero_cells T5.res
  have HTL := Lib.hid T5
  clear hsc hk T5
  go_wp2
  refine bodyPost_ret (v := tokV E 124 t.off K 1) (by simp [results, Tryd.results44, go_sem, z0, z1, z2, z3, z4, z5, z6, z7]) rfl ⟨rfl, HTL.out.store (by omega) _ _ _ _ _ _ _ _⟩

set_option maxHeartbeats 4000000 in
set_option maxRecDepth 100000 in
theorem c0_124b (E : Env) (hE : EnvOk E) (t : St) (w : World) (h : Sc E t w) (hcl : t.closed = false) (K : Nat) (hK : t.off ≤ K) (hl : K + 2 < E.text.length)
    (hsp : ∀ i, t.off ≤ i → i < K → E.at i = 32) (hc : E.at K = 124) (hx : E.at (K + 1) = 61) :
    Calls Tryd.prog 44 #[.pointer (some ⟨E.S, 0, none⟩)] w (Moves E (mv E (tk t K) (K + 2)) (tokV E 57414 t.off K 2) w) := by
  have l0 := h.lt
  have hlen := hE.len
  have hns : noSep (E.at K) ∧ E.at K ≠ 47 := by rw [hc]; unfold noSep; decide
  have hci : (E.at K : Int) = 124 := by omega
  have hxi : (E.at (K + 1) : Int) = 61 := by omega
  have HX := Lib.hid hxi
  have H := Lib.hid h
  have HE := Lib.hid hE
  have HC := Lib.hid hcl
  have HSP := Lib.hid hsp
  have HNS := Lib.hid hns
  have HCI := Lib.hid hci
  clear h hE hcl hsp hns hci hc
  clear hx hxi
  go_enter Tryd.func44, Tryd.ntmps44
  go_wp2_with fail
  refine (scanSep_plain E HE.out t _ (H.out.alloc _) HC.out K hK (by omega) HSP.out HNS.out.1 HNS.out.2).mono ?_
  rintro e w1 ⟨rfl, hsc, hk⟩
  have p5 : w1.cell? ⟨E.S, 5, none⟩ = some (.int .u32 K) := hsc.cell 5
  have p7 : w1.cell? ⟨E.S, 7, none⟩ = some (.int .u32 t.src) := hsc.cell 7
  have pf := hsc.frozen
  have T1 := Lib.hid ((TokAt.start H.out).next H.out hsc hk)
  clear hsc hk
  go_wp2_with fail
  have T2 := Lib.hid (TokAt.setS H.out T1.out 7 (.int .u32 K) (T1.out.sc.set (s' := mv E (tk t K) K) 7 (.int .u32 K) rfl))
  refine (rune_lit E HE.out (tk t K) K _ _ 124 HCI.out _ T2.out.sc HC.out (by omega)).mono ?_
  rintro e w2 ⟨rfl, hsc, hk⟩
  have T3 := Lib.hid (T2.out.next H.out hsc hk)
  clear hsc hk p5 p7 pf
  go_wp2_with fail
  refine (shift_lit E HE.out (tk t K) (K) 61 HX.out _ T3.out.sc HC.out (by omega)).mono ?_
  rintro e w3 ⟨rfl, hsc, hk⟩
  have T4 := Lib.hid (T3.out.next H.out hsc hk)
  clear hsc hk
  go_wp2_with fail
  refine (shift_mv E HE.out (tk t K) (K + 1) _ T4.out.sc HC.out (by omega)).mono ?_
  rintro e w3 ⟨rfl, hsc, hk⟩
  have T5 := Lib.hid (T4.out.next H.out hsc hk)
  clear hsc hk
  go_wp2_with fail
  refine (newTok_mv E HE.out (tk t K) (K + 1 + 1) _ T5.out.sc 57414 2 rfl (by omega)).mono ?_
  rintro e w3 ⟨rfl, hsc, hk⟩
  have T6 := T5.out.next H.out hsc hk
  obtain ⟨z0, z1, z2, z3, z4, z5, z6, z7, zf⟩ := zero_cells T6.res
  have HTL := Lib.hid T6
  clear hsc hk T6
  go_wp2
  refine bodyPost_ret (v := tokV E 57414 t.off K 2) (by simp [results, Tryd.results44, go_sem, z0, z1, z2, z3, z4, z5, z6, z7]) rfl ⟨rfl, HTL.out.store (by omega) _ _ _ _ _ _ _ _⟩

set_option maxHeartbeats 4000000 in
set_option maxRecDepth 100000 in
theorem c0_124c (E : Env) (hE : EnvOk E) (t : St) (w : World) (h : Sc E t w) (hcl : t.closed = false) (K : Nat) (hK : t.off ≤ K) (hl : K + 2 < E.text.length)
    (hsp : ∀ i, t.off ≤ i → i < K → E.at i = 32) (hc : E.at K = 124) (hx : E.at (K + 1) = 124) :
    Calls Tryd.prog 44 #[.pointer (some ⟨E.S, 0, none⟩)] w (Moves E (mv E (tk t K) (K + 2)) (tokV E 57415 t.off K 2) w) := by
  have l0 := h.lt
  have hlen := hE.len
  have hns : noSep (E.at K) ∧ E.at K ≠ 47 := by rw [hc]; unfold noSep; decide
  have hci : (E.at K : Int) = 124 := by omega
  have hxi : (E.at (K + 1) : Int) = 124 := by omega
  have HX := Lib.hid hxi
  have H := Lib.hid h
  have HE := Lib.hid hE
  have HC := Lib.hid hcl
  have HSP := Lib.hid hsp
  have HNS := Lib.hid hns
  have HCI := Lib.hid hci
  clear h hE hcl hsp hns hci hc
  clear hx hxi
  go_enter Tryd.func44, Tryd.ntmps44
  go_wp2_with fail
  refine (scanSep_plain E HE.out t _ (H.out.alloc _) HC.out K hK (by omega) HSP.out HNS.out.1 HNS.out.2).mono ?_
  rintro e w1 ⟨rfl, hsc, hk⟩
  have p5 : w1.cell? ⟨E.S, 5, none⟩ = some (.int .u32 K) := hsc.cell 5
  have p7 : w1.cell? ⟨E.S, 7, none⟩ = some (.int .u32 t.src) := hsc.cell 7
  have pf := hsc.frozen
  have T1 := Lib.hid ((TokAt.start H.out).next H.out hsc hk)
  clear hsc hk
  go_wp2_with fail
  have T2 := Lib.hid (TokAt.setS H.out T1.out 7 (.int .u32 K) (T1.out.sc.set (s' := mv E (tk t K) K) 7 (.int .u32 K) rfl))
  refine (rune_lit E HE.out (tk t K) K _ _ 124 HCI.out _ T2.out.sc HC.out (by omega)).mono ?_
  rintro e w2 ⟨rfl, hsc, hk⟩
  have T3 := Lib.hid (T2.out.next H.out hsc hk)
  clear hsc hk p5 p7 pf
  go_wp2_with fail
  refine (shift_lit E HE.out (tk t K) (K) 124 HX.out _ T3.out.sc HC.out (by omega)).mono ?_
  rintro e w3 ⟨rfl, hsc, hk⟩
  have T4 := Lib.hid (T3.out.next H.out hsc hk)
  clear hsc hk
  go_wp2_with fail
  refine (shift_mv E HE.out (tk t K) (K + 1) _ T4.out.sc HC.out (by omega)).mono ?_
  rintro e w3 ⟨rfl, hsc, hk⟩
  have T5 := Lib.hid (T4.out.next H.out hsc hk)
  clear hsc hk
  go_wp2_with fail
  refine (newTok_mv E HE.out (tk t K) (K + 1 + 1) _ T5.out.sc 57415 2 rfl (by omega)).mono ?_
  rintro e w3 ⟨rfl, hsc, hk⟩
  have T6 := T5.out.next H.out hsc hk
  obtain ⟨z0, z1, z2, z3, z4, z5, z6, z7, zf⟩ := zero_cells T6.res
  have HTL := Lib.hid T6
  clear hsc hk T6
  go_wp2
  refine bodyPost_ret (v := tokV E 57415 t.off K 2) (by simp [results, Tryd.results44, go_sem, z0, z1, z2, z3, z4, z5, z6, z7]) rfl ⟨rfl, HTL.out.store (by omega) _ _ _ _ _ _ _ _⟩

set_option maxHeartbeats 4000000 in
set_option maxRecDepth 100000 in
theorem c0_45a (E : Env) (hE : EnvOk E) (t : St) (w : World) (h : Sc E t w) (hcl : t.closed = false) (K : Nat) (hK : t.off ≤ K) (hl : K + 1 < E.text.length)
    (hsp : ∀ i, t.off ≤ i → i < K → E.at i = 32) (hc : E.at K = 45) (hx : E.at (K + 1) ≠ 61) (hy : E.at (K + 1) ≠ 45) (hz : E.at (K + 1) ≠ 62) :
    Calls Tryd.prog 44 #[.pointer (some ⟨E.S, 0, none⟩)] w (Moves E (mv E (tk t K) (K + 1)) (tokV E 45 t.off K 1) w) := by
  have l0 := h.lt
  have hlen := hE.len
  have hns : noSep (E.at K) ∧ E.at K ≠ 47 := by rw [hc]; unfold noSep; decide
  have hci : (E.at K : Int) = 45 := by omega
  have b61 : ((E.at (K + 1) : Int) == 61) = false := by simp; omega
  have b45 : ((E.at (K + 1) : Int) == 45) = false := by simp; omega
  have b62 : ((E.at (K + 1) : Int) == 62) = false := by simp; omega
  have H := Lib.hid h
  have HE := Lib.hid hE
  have HC := Lib.hid hcl
  have HSP := Lib.hid hsp
  have HNS := Lib.hid hns
  have HCI := Lib.hid hci
  clear h hE hcl hsp hns hci hc
  clear hx hy hz
  go_enter Tryd.func44, Tryd.ntmps44
  go_wp2_with fail
  refine (scanSep_plain E HE.out t _ (H.out.alloc _) HC.out K hK (by omega) HSP.out HNS.out.1 HNS.out.2).mono ?_
  rintro e w1 ⟨rfl, hsc, hk⟩
  have p5 : w1.cell? ⟨E.S, 5, none⟩ = some (.int .u32 K) := hsc.cell 5
  have p7 : w1.cell? ⟨E.S, 7, none⟩ = some (.int .u32 t.src) := hsc.cell 7
  have pf := hsc.frozen
  have T1 := Lib.hid ((TokAt.start H.out).next H.out hsc hk)
  clear hsc hk
  go_wp2_with fail
  have T2 := Lib.hid (TokAt.setS H.out T1.out 7 (.int .u32 K) (T1.out.sc.set (s' := mv E (tk t K) K) 7 (.int .u32 K) rfl))
  refine (rune_lit E HE.out (tk t K) K _ _ 45 HCI.out _ T2.out.sc HC.out (by omega)).mono ?_
  rintro e w2 ⟨rfl, hsc, hk⟩
  have T3 := Lib.hid (T2.out.next H.out hsc hk)
  clear hsc hk p5 p7 pf
  go_wp2_with fail
  refine (shift_mv E HE.out (tk t K) (K) _ T3.out.sc HC.out (by omega)).mono ?_
  rintro e w3 ⟨rfl, hsc, hk⟩
  have T4 := Lib.hid (T3.out.next H.out hsc hk)
  clear hsc hk
  go_wp2_with fail
  refine (newTok_mv E HE.out (tk t K) (K + 1) _ T4.out.sc 45 1 rfl (by omega)).mono ?_
  rintro e w3 ⟨rfl, hsc, hk⟩
  have T5 := T4.out.next H.out hsc hk
  obtain ⟨z0, z1, z2, z3, z4, z5, z6, z7, zf⟩ := zero_cells T5.res
  have HTL := Lib.hid T5
  clear hsc hk T5
  go_wp2
  refine bodyPost_ret (v := tokV E 45 t.off K 1) (by simp [results, Tryd.results44, go_sem, z0, z1, z2, z3, z4, z5, z6, z7]) rfl ⟨rfl, HTL.out.store (by omega) _ _ _ _ _ _ _ _⟩

set_option maxHeartbeats 4000000 in
set_option maxRecDepth 100000 in
theorem c0_45b (E : Env) (hE : EnvOk E) (t : St) (w : World) (h : Sc E t w) (hcl : t.closed = false) (K : Nat) (hK : t.off ≤ K) (hl : K + 2 < E.text.length)
    (hsp : ∀ i, t.off ≤ i → i < K → E.at i = 32) (hc : E.at K = 45) (hx : E.at (K + 1) = 61) :
    Calls Tryd.prog 44 #[.pointer (some ⟨E.S, 0, none⟩)] w (Moves E (mv E (tk t K) (K + 2)) (tokV E 57431 t.off K 2) w) := by
  have l0 := h.lt
  have hlen := hE.len
  have hns : noSep (E.at K) ∧ E.at K ≠ 47 := by rw [hc]; unfold noSep; decide
  have hci : (E.at K : Int) = 45 := by omega
  have hxi : (E.at (K + 1) : Int) = 61 := by omega
  have HX := Lib.hid hxi
  have H := Lib.hid h
  have HE := Lib.hid hE
  have HC := Lib.hid hcl
  have HSP := Lib.hid hsp
  have HNS := Lib.hid hns
  have HCI := Lib.hid hci
  clear h hE hcl hsp hns hci hc
  clear hx hxi
  go_enter Tryd.func44, Tryd.ntmps44
  go_wp2_with fail
  refine (scanSep_plain E HE.out t _ (H.out.alloc _) HC.out K hK (by omega) HSP.out HNS.out.1 HNS.out.2).mono ?_
  rintro e w1 ⟨rfl, hsc, hk⟩
  have p5 : w1.cell? ⟨E.S, 5, none⟩ = some (.int .u32 K) := hsc.cell 5
  have p7 : w1.cell? ⟨E.S, 7, none⟩ = some (.int .u32 t.src) := hsc.cell 7
  have pf := hsc.frozen
  have T1 := Lib.hid ((TokAt.start H.out).next H.out hsc hk)
  clear hsc hk
  go_wp2_with fail
  have T2 := Lib.hid (TokAt.setS H.out T1.out 7 (.int .u32 K) (T1.out.sc.set (s' := mv E (tk t K) K) 7 (.int .u32 K) rfl))
  refine (rune_lit E HE.out (tk t K) K _ _ 45 HCI.out _ T2.out.sc HC.out (by omega)).mono ?_
  rintro e w2 ⟨rfl, hsc, hk⟩
  have T3 := Lib.hid (T2.out.next H.out hsc hk)
  clear hsc hk p5 p7 pf
  go_wp2_with fail
  refine (shift_lit E HE.out (tk t K) (K) 61 HX.out _ T3.out.sc HC.out (by omega)).mono ?_
  rintro e w3 ⟨rfl, hsc, hk⟩
  have T4 := Lib.hid (T3.out.next H.out hsc hk)
  clear hsc hk
  go_wp2_with fail
  refine (shift_mv E HE.out (tk t K) (K + 1) _ T4.out.sc HC.out (by omega)).mono ?_
  rintro e w3 ⟨rfl, hsc, hk⟩
  have T5 := Lib.hid (T4.out.next H.out hsc hk)
  clear hsc hk
  go_wp2_with fail
  refine (newTok_mv E HE.out (tk t K) (K + 1 + 1) _ T5.out.sc 57431 2 rfl (by omega)).mono ?_
  rintro e w3 ⟨rfl, hsc, hk⟩
  have T6 := T5.out.next H.out hsc hk
  obtain ⟨z0, z1, z2, z3, z4, z5, z6, z7, zf⟩ := zero_cells T6.res
  have HTL := Lib.hid T6
  clear hsc hk T6
  go_wp2
  refine bodyPost_ret (v := tokV E 57431 t.off K 2) (by simp [results, Tryd.results44, go_sem, z0, z1, z2, z3, z4, z5, z6, z7]) rfl ⟨rfl, HTL.out.store (by omega) _ _ _ _ _ _ _ _⟩

set_option maxHeartbeats 4000000 in
set_option maxRecDepth 100000 in
theorem c0_45c (E : Env) (hE : EnvOk E) (t : St) (w : World) (h : Sc E t w) (hcl : t.closed = false) (K : Nat) (hK : t.off ≤ K) (hl : K + 2 < E.text.length)
    (hsp : ∀ i, t.off ≤ i → i < K → E.at i = 32) (hc : E.at K = 45) (hx : E.at (K + 1) = 45) :
    Calls Tryd.prog 44 #[.pointer (some ⟨E.S, 0, none⟩)] w (Moves E (mv E (tk t K) (K + 2)) (tokV E 57366 t.off K 2) w) := by
  have l0 := h.lt
  have hlen := hE.len
  have hns : noSep (E.at K) ∧ E.at K ≠ 47 := by rw [hc]; unfold noSep; decide
  have hci : (E.at K : Int) = 45 := by omega
  have hxi : (E.at (K + 1) : Int) = 45 := by omega
  have HX := Lib.hid hxi
  have H := Lib.hid h
  have HE := Lib.hid hE
  have HC := Lib.hid hcl
  have HSP := Lib.hid hsp
  have HNS := Lib.hid hns
  have HCI := Lib.hid hci
  clear h hE hcl hsp hns hci hc
  clear hx hxi
  go_enter Tryd.func44, Tryd.ntmps44
  go_wp2_with fail
  refine (scanSep_plain E HE.out t _ (H.out.alloc _) HC.out K hK (by omega) HSP.out HNS.out.1 HNS.out.2).mono ?_
  rintro e w1 ⟨rfl, hsc, hk⟩
  have p5 : w1.cell? ⟨E.S, 5, none⟩ = some (.int .u32 K) := hsc.cell 5
  have p7 : w1.cell? ⟨E.S, 7, none⟩ = some (.int .u32 t.src) := hsc.cell 7
  have pf := hsc.frozen
  have T1 := Lib.hid ((TokAt.start H.out).next H.out hsc hk)
  clear hsc hk
  go_wp2_with fail
  have T2 := Lib.hid (TokAt.setS H.out T1.out 7 (.int .u32 K) (T1.out.sc.set (s' := mv E (tk t K) K) 7 (.int .u32 K) rfl))
  refine (rune_lit E HE.out (tk t K) K _ _ 45 HCI.out _ T2.out.sc HC.out (by omega)).mono ?_
  rintro e w2 ⟨rfl, hsc, hk⟩
  have T3 := Lib.hid (T2.out.next H.out hsc hk)
  clear hsc hk p5 p7 pf
  go_wp2_with fail
  refine (shift_lit E HE.out (tk t K) (K) 45 HX.out _ T3.out.sc HC.out (by omega)).mono ?_
  rintro e w3 ⟨rfl, hsc, hk⟩
  have T4 := Lib.hid (T3.out.next H.out hsc hk)
  clear hsc hk
  go_wp2_with fail
  refine (shift_mv E HE.out (tk t K) (K + 1) _ T4.out.sc HC.out (by omega)).mono ?_
  rintro e w3 ⟨rfl, hsc, hk⟩
  have T5 := Lib.hid (T4.out.next H.out hsc hk)
  clear hsc hk
  go_wp2_with fail
  refine (newTok_mv E HE.out (tk t K) (K + 1 + 1) _ T5.out.sc 57366 2 rfl (by omega)).mono ?_
  rintro e w3 ⟨rfl, hsc, hk⟩
  have T6 := T5.out.next H.out hsc hk
  obtain ⟨z0, z1, z2, z3, z4, z5, z6, z7, zf⟩ := zero_cells T6.res
  have HTL := Lib.hid T6
  clear hsc hk T6
  go_wp2
  refine bodyPost_ret (v := tokV E 57366 t.off K 2) (by simp [results, Tryd.results44, go_sem, z0, z1, z2, z3, z4, z5, z6, z7]) rfl ⟨rfl, HTL.out.store (by omega) _ _ _ _ _ _ _ _⟩

set_option maxHeartbeats 4000000 in
set_option maxRecDepth 100000 in
theorem c0_45d (E : Env) (hE : EnvOk E) (t : St) (w : World) (h : Sc E t w) (hcl : t.closed = false) (K : Nat) (hK : t.off ≤ K) (hl : K + 2 < E.text.length)
    (hsp : ∀ i, t.off ≤ i → i < K → E.at i = 32) (hc : E.at K = 45) (hx : E.at (K + 1) = 62) :
    Calls Tryd.prog 44 #[.pointer (some ⟨E.S, 0, none⟩)] w (Moves E (mv E (tk t K) (K + 2)) (tokV E 57350 t.off K 2) w) := by
  have l0 := h.lt
  have hlen := hE.len
  have hns : noSep (E.at K) ∧ E.at K ≠ 47 := by rw [hc]; unfold noSep; decide
  have hci : (E.at K : Int) = 45 := by omega
  have hxi : (E.at (K + 1) : Int) = 62 := by omega
  have HX := Lib.hid hxi
  have H := Lib.hid h
  have HE := Lib.hid hE
  have HC := Lib.hid hcl
  have HSP := Lib.hid hsp
  have HNS := Lib.hid hns
  have HCI := Lib.hid hci
  clear h hE hcl hsp hns hci hc
  clear hx hxi
  go_enter Tryd.func44, Tryd.ntmps44
  go_wp2_with fail
  refine (scanSep_plain E HE.out t _ (H.out.alloc _) HC.out K hK (by omega) HSP.out HNS.out.1 HNS.out.2).mono ?_
  rintro e w1 ⟨rfl, hsc, hk⟩
  have p5 : w1.cell? ⟨E.S, 5, none⟩ = some (.int .u32 K) := hsc.cell 5
  have p7 : w1.cell? ⟨E.S, 7, none⟩ = some (.int .u32 t.src) := hsc.cell 7
  have pf := hsc.frozen
  have T1 := Lib.hid ((TokAt.start H.out).next H.out hsc hk)
  clear hsc hk
  go_wp2_with fail
  have T2 := Lib.hid (TokAt.setS H.out T1.out 7 (.int .u32 K) (T1.out.sc.set (s' := mv E (tk t K) K) 7 (.int .u32 K) rfl))
  refine (rune_lit E HE.out (tk t K) K _ _ 45 HCI.out _ T2.out.sc HC.out (by omega)).mono ?_
  rintro e w2 ⟨rfl, hsc, hk⟩
  have T3 := Lib.hid (T2.out.next H.out hsc hk)
  clear hsc hk p5 p7 pf
  go_wp2_with fail
  refine (shift_lit E HE.out (tk t K) (K) 62 HX.out _ T3.out.sc HC.out (by omega)).mono ?_
  rintro e w3 ⟨rfl, hsc, hk⟩
  have T4 := Lib.hid (T3.out.next H.out hsc hk)
  clear hsc hk
  go_wp2_with fail
  refine (shift_mv E HE.out (tk t K) (K + 1) _ T4.out.sc HC.out (by omega)).mono ?_
  rintro e w3 ⟨rfl, hsc, hk⟩
  have T5 := Lib.hid (T4.out.next H.out hsc hk)
  clear hsc hk
  go_wp2_with fail
  refine (newTok_mv E HE.out (tk t K) (K + 1 + 1) _ T5.out.sc 57350 2 rfl (by omega)).mono ?_
  rintro e w3 ⟨rfl, hsc, hk⟩
  have T6 := T5.out.next H.out hsc hk
  obtain ⟨z0, z1, z2, z3, z4, z5, z6, z7, zf⟩ := zero_cells T6.res
  have HTL := Lib.hid T6
  clear hsc hk T6
  go_wp2
  refine bodyPost_ret (v := tokV E 57350 t.off K 2) (by simp [results, Tryd.results44, go_sem, z0, z1, z2, z3, z4, z5, z6, z7]) rfl ⟨rfl, HTL.out.store (by omega) _ _ _ _ _ _ _ _⟩

set_option maxHeartbeats 4000000 in
set_option maxRecDepth 100000 in
theorem c0_35a (E : Env) (hE : EnvOk E) (t : St) (w : World) (h : Sc E t w) (hcl : t.closed = false) (K : Nat) (hK : t.off ≤ K) (hl : K + 1 < E.text.length)
    (hsp : ∀ i, t.off ≤ i → i < K → E.at i = 32) (hc : E.at K = 35) (hx : E.at (K + 1) ≠ 35) :
    Calls Tryd.prog 44 #[.pointer (some ⟨E.S, 0, none⟩)] w (Moves E (mv E (tk t K) (K + 1)) (tokV E 35 t.off K 1) w) := by
  have l0 := h.lt
  have hlen := hE.len
  have hns : noSep (E.at K) ∧ E.at K ≠ 47 := by rw [hc]; unfold noSep; decide
  have hci : (E.at K : Int) = 35 := by omega
  have b35 : ((E.at (K + 1) : Int) == 35) = false := by simp; omega
  have H := Lib.hid h
  have HE := Lib.hid hE
  have HC := Lib.hid hcl
  have HSP := Lib.hid hsp
  have HNS := Lib.hid hns
  have HCI := Lib.hid hci
  clear h hE hcl hsp hns hci hc
  clear hx
  go_enter Tryd.func44, Tryd.ntmps44
  go_wp2_with fail
  refine (scanSep_plain E HE.out t _ (H.out.alloc _) HC.out K hK (by omega) HSP.out HNS.out.1 HNS.out.2).mono ?_
  rintro e w1 ⟨rfl, hsc, hk⟩
  have p5 : w1.cell? ⟨E.S, 5, none⟩ = some (.int .u32 K) := hsc.cell 5
  have p7 : w1.cell? ⟨E.S, 7, none⟩ = some (.int .u32 t.src) := hsc.cell 7
  have pf := hsc.frozen
  have T1 := Lib.hid ((TokAt.start H.out).next H.out hsc hk)
  clear hsc hk
  go_wp2_with fail
  have T2 := Lib.hid (TokAt.setS H.out T1.out 7 (.int .u32 K) (T1.out.sc.set (s' := mv E (tk t K) K) 7 (.int .u32 K) rfl))
  refine (rune_lit E HE.out (tk t K) K _ _ 35 HCI.out _ T2.out.sc HC.out (by omega)).mono ?_
  rintro e w2 ⟨rfl, hsc, hk⟩
  have T3 := Lib.hid (T2.out.next H.out hsc hk)
  clear hsc hk p5 p7 pf
  go_wp2_with fail
  refine (shift_mv E HE.out (tk t K) (K) _ T3.out.sc HC.out (by omega)).mono ?_
  rintro e w3 ⟨rfl, hsc, hk⟩
  have T4 := Lib.hid (T3.out.next H.out hsc hk)
  clear hsc hk
  go_wp2_with fail
  refine (newTok_mv E HE.out (tk t K) (K + 1) _ T4.out.sc 35 1 rfl (by omega)).mono ?_
  rintro e w3 ⟨rfl, hsc, hk⟩
  have T5 := T4.out.next H.out hsc hk
  obtain ⟨z0, z1, z2, z3, z4, z5, z6, z7, zf⟩ := zero_cells T5.res
  have HTL := Lib.hid T5
  clear hsc hk T5
  go_wp2
  refine bodyPost_ret (v := tokV E 35 t.off K 1) (by simp [results, Tryd.results44, go_sem, z0, z1, z2, z3, z4, z5, z6, z7]) rfl ⟨rfl, HTL.out.store (by omega) _ _ _ _ _ _ _ _⟩

set_option maxHeartbeats 4000000 in
set_option maxRecDepth 100000 in
theorem c0_35b (E : Env) (hE : EnvOk E) (t : St) (w : World) (h : Sc E t w) (hcl : t.closed = false) (K : Nat) (hK : t.off ≤ K) (hl : K + 2 < E.text.length)
    (hsp : ∀ i, t.off ≤ i → i < K → E.at i = 32) (hc : E.at K = 35) (hx : E.at (K + 1) = 35) :
    Calls Tryd.prog 44 #[.pointer (some ⟨E.S, 0, none⟩)] w (Moves E (mv E (tk t K) (K + 2)) (tokV E 57417 t.off K 2) w) := by
  have l0 := h.lt
  have hlen := hE.len
  have hns : noSep (E.at K) ∧ E.at K ≠ 47 := by rw [hc]; unfold noSep; decide
  have hci : (E.at K : Int) = 35 := by omega
  have hxi : (E.at (K + 1) : Int) = 35 := by omega
  have HX := Lib.hid hxi
  have H := Lib.hid h
  have HE := Lib.hid hE
  have HC := Lib.hid hcl
  have HSP := Lib.hid hsp
  have HNS := Lib.hid hns
  have HCI := Lib.hid hci
  clear h hE hcl hsp hns hci hc
  clear hx hxi
  go_enter Tryd.func44, Tryd.ntmps44
  go_wp2_with fail
  refine (scanSep_plain E HE.out t _ (H.out.alloc _) HC.out K hK (by omega) HSP.out HNS.out.1 HNS.out.2).mono ?_
  rintro e w1 ⟨rfl, hsc, hk⟩
  have p5 : w1.cell? ⟨E.S, 5, none⟩ = some (.int .u32 K) := hsc.cell 5
  have p7 : w1.cell? ⟨E.S, 7, none⟩ = some (.int .u32 t.src) := hsc.cell 7
  have pf := hsc.frozen
  have T1 := Lib.hid ((TokAt.start H.out).next H.out hsc hk)
  clear hsc hk
  go_wp2_with fail
  have T2 := Lib.hid (TokAt.setS H.out T1.out 7 (.int .u32 K) (T1.out.sc.set (s' := mv E (tk t K) K) 7 (.int .u32 K) rfl))
  refine (rune_lit E HE.out (tk t K) K _ _ 35 HCI.out _ T2.out.sc HC.out (by omega)).mono ?_
  rintro e w2 ⟨rfl, hsc, hk⟩
  have T3 := Lib.hid (T2.out.next H.out hsc hk)
  clear hsc hk p5 p7 pf
  go_wp2_with fail
  refine (shift_lit E HE.out (tk t K) (K) 35 HX.out _ T3.out.sc HC.out (by omega)).mono ?_
  rintro e w3 ⟨rfl, hsc, hk⟩
  have T4 := Lib.hid (T3.out.next H.out hsc hk)
  clear hsc hk
  go_wp2_with fail
  refine (shift_mv E HE.out (tk t K) (K + 1) _ T4.out.sc HC.out (by omega)).mono ?_
  rintro e w3 ⟨rfl, hsc, hk⟩
  have T5 := Lib.hid (T4.out.next H.out hsc hk)
  clear hsc hk
  go_wp2_with fail
  refine (newTok_mv E HE.out (tk t K) (K + 1 + 1) _ T5.out.sc 57417 2 rfl (by omega)).mono ?_
  rintro e w3 ⟨rfl, hsc, hk⟩
  have T6 := T5.out.next H.out hsc hk
  obtain ⟨z0, z1, z2, z3, z4, z5, z6, z7, zf⟩ := zero_cells T6.res
  have HTL := Lib.hid T6
  clear hsc hk T6
  go_wp2
  refine bodyPost_ret (v := tokV E 57417 t.off K 2) (by simp [results, Tryd.results44, go_sem, z0, z1, z2, z3, z4, z5, z6, z7]) rfl ⟨rfl, HTL.out.store (by omega) _ _ _ _ _ _ _ _⟩

set_option maxHeartbeats 4000000 in
set_option maxRecDepth 100000 in
theorem c0_60a (E : Env) (hE : EnvOk E) (t : St) (w : World) (h : Sc E t w) (hcl : t.closed = false) (K : Nat) (hK : t.off ≤ K) (hl : K + 1 < E.text.length)
    (hsp : ∀ i, t.off ≤ i → i < K → E.at i = 32) (hc : E.at K = 60) (hx : E.at (K + 1) ≠ 61) (hy : E.at (K + 1) ≠ 60) :
    Calls Tryd.prog 44 #[.pointer (some ⟨E.S, 0, none⟩)] w (Moves E (mv E (tk t K) (K + 1)) (tokV E 60 t.off K 1) w) := by
  have l0 := h.lt
  have hlen := hE.len
  have hns : noSep (E.at K) ∧ E.at K ≠ 47 := by rw [hc]; unfold noSep; decide
  have hci : (E.at K : Int) = 60 := by omega
  have b61 : ((E.at (K + 1) : Int) == 61) = false := by simp; omega
  have b60 : ((E.at (K + 1) : Int) == 60) = false := by simp; omega
  have H := Lib.hid h
  have HE := Lib.hid hE
  have HC := Lib.hid hcl
  have HSP := Lib.hid hsp
  have HNS := Lib.hid hns
  have HCI := Lib.hid hci
  clear h hE hcl hsp hns hci hc
  clear hx hy
  go_enter Tryd.func44, Tryd.ntmps44
  go_wp2_with fail
  refine (scanSep_plain E HE.out t _ (H.out.alloc _) HC.out K hK (by omega) HSP.out HNS.out.1 HNS.out.2).mono ?_
  rintro e w1 ⟨rfl, hsc, hk⟩
  have p5 : w1.cell? ⟨E.S, 5, none⟩ = some (.int .u32 K) := hsc.cell 5
  have p7 : w1.cell? ⟨E.S, 7, none⟩ = some (.int .u32 t.src) := hsc.cell 7
  have pf := hsc.frozen
  have T1 := Lib.hid ((TokAt.start H.out).next H.out hsc hk)
  clear hsc hk
  go_wp2_with fail
  have T2 := Lib.hid (TokAt.setS H.out T1.out 7 (.int .u32 K) (T1.out.sc.set (s' := mv E (tk t K) K) 7 (.int .u32 K) rfl))
  refine (rune_lit E HE.out (tk t K) K _ _ 60 HCI.out _ T2.out.sc HC.out (by omega)).mono ?_
  rintro e w2 ⟨rfl, hsc, hk⟩
  have T3 := Lib.hid (T2.out.next H.out hsc hk)
  clear hsc hk p5 p7 pf
  go_wp2_with fail
  refine (shift_mv E HE.out (tk t K) (K) _ T3.out.sc HC.out (by omega)).mono ?_
  rintro e w3 ⟨rfl, hsc, hk⟩
  have T4 := Lib.hid (T3.out.next H.out hsc hk)
  clear hsc hk
  go_wp2_with fail
  refine (newTok_mv E HE.out (tk t K) (K + 1) _ T4.out.sc 60 1 rfl (by omega)).mono ?_
  rintro e w3 ⟨rfl, hsc, hk⟩
  have T5 := T4.out.next H.out hsc hk
  obtain ⟨z0, z1, z2, z3, z4, z5, z6, z7, zf⟩ := zero_cells T5.res
  have HTL := Lib.hid T5
  clear hsc hk T5
  go_wp2
  refine bodyPost_ret (v := tokV E 60 t.off K 1) (by simp [results, Tryd.results44, go_sem, z0, z1, z2, z3, z4, z5, z6, z7]) rfl ⟨rfl, HTL.out.store (by omega) _ _ _ _ _ _ _ _⟩

set_option maxHeartbeats 4000000 in
set_option maxRecDepth 100000 in
theorem c0_60b (E : Env) (hE : EnvOk E) (t : St) (w : World) (h : Sc E t w) (hcl : t.closed = false) (K : Nat) (hK : t.off ≤ K) (hl : K + 2 < E.text.length)
    (hsp : ∀ i, t.off ≤ i → i < K → E.at i = 32) (hc : E.at K = 60) (hx : E.at (K + 1) = 61) :
    Calls Tryd.prog 44 #[.pointer (some ⟨E.S, 0, none⟩)] w (Moves E (mv E (tk t K) (K + 2)) (tokV E 57403 t.off K 2) w) := by
  have l0 := h.lt
  have hlen := hE.len
  have hns : noSep (E.at K) ∧ E.at K ≠ 47 := by rw [hc]; unfold noSep; decide
  have hci : (E.at K : Int) = 60 := by omega
  have hxi : (E.at (K + 1) : Int) = 61 := by omega
  have HX := Lib.hid hxi
  have H := Lib.hid h
  have HE := Lib.hid hE
  have HC := Lib.hid hcl
  have HSP := Lib.hid hsp
  have HNS := Lib.hid hns
  have HCI := Lib.hid hci
  clear h hE hcl hsp hns hci hc
  clear hx hxi
  go_enter Tryd.func44, Tryd.ntmps44
  go_wp2_with fail
  refine (scanSep_plain E HE.out t _ (H.out.alloc _) HC.out K hK (by omega) HSP.out HNS.out.1 HNS.out.2).mono ?_
  rintro e w1 ⟨rfl, hsc, hk⟩
  have p5 : w1.cell? ⟨E.S, 5, none⟩ = some (.int .u32 K) := hsc.cell 5
  have p7 : w1.cell? ⟨E.S, 7, none⟩ = some (.int .u32 t.src) := hsc.cell 7
  have pf := hsc.frozen
  have T1 := Lib.hid ((TokAt.start H.out).next H.out hsc hk)
  clear hsc hk
  go_wp2_with fail
  have T2 := Lib.hid (TokAt.setS H.out T1.out 7 (.int .u32 K) (T1.out.sc.set (s' := mv E (tk t K) K) 7 (.int .u32 K) rfl))
  refine (rune_lit E HE.out (tk t K) K _ _ 60 HCI.out _ T2.out.sc HC.out (by omega)).mono ?_
  rintro e w2 ⟨rfl, hsc, hk⟩
  have T3 := Lib.hid (T2.out.next H.out hsc hk)
  clear hsc hk p5 p7 pf
  go_wp2_with fail
  refine (shift_lit E HE.out (tk t K) (K) 61 HX.out _ T3.out.sc HC.out (by omega)).mono ?_
  rintro e w3 ⟨rfl, hsc, hk⟩
  have T4 := Lib.hid (T3.out.next H.out hsc hk)
  clear hsc hk
  go_wp2_with fail
  refine (shift_mv E HE.out (tk t K) (K + 1) _ T4.out.sc HC.out (by omega)).mono ?_
  rintro e w3 ⟨rfl, hsc, hk⟩
  have T5 := Lib.hid (T4.out.next H.out hsc hk)
  clear hsc hk
  go_wp2_with fail
  refine (newTok_mv E HE.out (tk t K) (K + 1 + 1) _ T5.out.sc 57403 2 rfl (by omega)).mono ?_
  rintro e w3 ⟨rfl, hsc, hk⟩
  have T6 := T5.out.next H.out hsc hk
  obtain ⟨z0, z1, z2, z3, z4, z5, z6, z7, zf⟩ := zero_cells T6.res
  have HTL := Lib.hid T6
  clear hsc hk T6
  go_wp2
  refine bodyPost_ret (v := tokV E 57403 t.off K 2) (by simp [results, Tryd.results44, go_sem, z0, z1, z2, z3, z4, z5, z6, z7]) rfl ⟨rfl, HTL.out.store (by omega) _ _ _ _ _ _ _ _⟩

set_option maxHeartbeats 4000000 in
set_option maxRecDepth 100000 in
theorem c0_60c (E : Env) (hE : EnvOk E) (t : St) (w : World) (h : Sc E t w) (hcl : t.closed = false) (K : Nat) (hK : t.off ≤ K) (hl : K + 2 < E.text.length)
    (hsp : ∀ i, t.off ≤ i → i < K → E.at i = 32) (hc : E.at K = 60) (hx : E.at (K + 1) = 60) (hy : E.at (K + 1 + 1) ≠ 61) :
    Calls Tryd.prog 44 #[.pointer (some ⟨E.S, 0, none⟩)] w (Moves E (mv E (tk t K) (K + 2)) (tokV E 57407 t.off K 2) w) := by
  have l0 := h.lt
  have hlen := hE.len
  have hns : noSep (E.at K) ∧ E.at K ≠ 47 := by rw [hc]; unfold noSep; decide
  have hci : (E.at K : Int) = 60 := by omega
  have hxi : (E.at (K + 1) : Int) = 60 := by omega
  have HX := Lib.hid hxi
  have b61 : ((E.at (K + 1 + 1) : Int) == 61) = false := by simp; omega
  have H := Lib.hid h
  have HE := Lib.hid hE
  have HC := Lib.hid hcl
  have HSP := Lib.hid hsp
  have HNS := Lib.hid hns
  have HCI := Lib.hid hci
  clear h hE hcl hsp hns hci hc
  clear hx hxi hy
  go_enter Tryd.func44, Tryd.ntmps44
  go_wp2_with fail
  refine (scanSep_plain E HE.out t _ (H.out.alloc _) HC.out K hK (by omega) HSP.out HNS.out.1 HNS.out.2).mono ?_
  rintro e w1 ⟨rfl, hsc, hk⟩
  have p5 : w1.cell? ⟨E.S, 5, none⟩ = some (.int .u32 K) := hsc.cell 5
  have p7 : w1.cell? ⟨E.S, 7, none⟩ = some (.int .u32 t.src) := hsc.cell 7
  have pf := hsc.frozen
  have T1 := Lib.hid ((TokAt.start H.out).next H.out hsc hk)
  clear hsc hk
  go_wp2_with fail
  have T2 := Lib.hid (TokAt.setS H.out T1.out 7 (.int .u32 K) (T1.out.sc.set (s' := mv E (tk t K) K) 7 (.int .u32 K) rfl))
  refine (rune_lit E HE.out (tk t K) K _ _ 60 HCI.out _ T2.out.sc HC.out (by omega)).mono ?_
  rintro e w2 ⟨rfl, hsc, hk⟩
  have T3 := Lib.hid (T2.out.next H.out hsc hk)
  clear hsc hk p5 p7 pf
  go_wp2_with fail
  refine (shift_lit E HE.out (tk t K) (K) 60 HX.out _ T3.out.sc HC.out (by omega)).mono ?_
  rintro e w3 ⟨rfl, hsc, hk⟩
  have T4 := Lib.hid (T3.out.next H.out hsc hk)
  clear hsc hk
  go_wp2_with fail
  refine (shift_mv E HE.out (tk t K) (K + 1) _ T4.out.sc HC.out (by omega)).mono ?_
  rintro e w3 ⟨rfl, hsc, hk⟩
  have T5 := Lib.hid (T4.out.next H.out hsc hk)
  clear hsc hk
  go_wp2_with fail
  refine (newTok_mv E HE.out (tk t K) (K + 1 + 1) _ T5.out.sc 57407 2 rfl (by omega)).mono ?_
  rintro e w3 ⟨rfl, hsc, hk⟩
  have T6 := T5.out.next H.out hsc hk
  obtain ⟨z0, z1, z2, z3, z4, z5, z6, z7, zf⟩ := zero_cells T6.res
  have HTL := Lib.hid T6
  clear hsc hk T6
  go_wp2
  refine bodyPost_ret (v := tokV E 57407 t.off K 2) (by simp [results, Tryd.results44, go_sem, z0, z1, z2, z3, z4, z5, z6, z7]) rfl ⟨rfl, HTL.out.store (by omega) _ _ _ _ _ _ _ _⟩

set_option maxHeartbeats 4000000 in
set_option maxRecDepth 100000 in
theorem c0_60d (E : Env) (hE : EnvOk E) (t : St) (w : World) (h : Sc E t w) (hcl : t.closed = false) (K : Nat) (hK : t.off ≤ K) (hl : K + 3 < E.text.length)
    (hsp : ∀ i, t.off ≤ i → i < K → E.at i = 32) (hc : E.at K = 60) (hx : E.at (K + 1) = 60) (hy : E.at (K + 1 + 1) = 61) :
    Calls Tryd.prog 44 #[.pointer (some ⟨E.S, 0, none⟩)] w (Moves E (mv E (tk t K) (K + 3)) (tokV E 57408 t.off K 3) w) := by
  have l0 := h.lt
  have hlen := hE.len
  have hns : noSep (E.at K) ∧ E.at K ≠ 47 := by rw [hc]; unfold noSep; decide
  have hci : (E.at K : Int) = 60 := by omega
  have hxi : (E.at (K + 1) : Int) = 60 := by omega
  have HX := Lib.hid hxi
  have hyi : (E.at (K + 1 + 1) : Int) = 61 := by omega
  have HY := Lib.hid hyi
  have H := Lib.hid h
  have HE := Lib.hid hE
  have HC := Lib.hid hcl
  have HSP := Lib.hid hsp
  have HNS := Lib.hid hns
  have HCI := Lib.hid hci
  clear h hE hcl hsp hns hci hc
  clear hx hxi hy hyi
  go_enter Tryd.func44, Tryd.ntmps44
  go_wp2_with fail
  refine (scanSep_plain E HE.out t _ (H.out.alloc _) HC.out K hK (by omega) HSP.out HNS.out.1 HNS.out.2).mono ?_
  rintro e w1 ⟨rfl, hsc, hk⟩
  have p5 : w1.cell? ⟨E.S, 5, none⟩ = some (.int .u32 K) := hsc.cell 5
  have p7 : w1.cell? ⟨E.S, 7, none⟩ = some (.int .u32 t.src) := hsc.cell 7
  have pf := hsc.frozen
  have T1 := Lib.hid ((TokAt.start H.out).next H.out hsc hk)
  clear hsc hk
  go_wp2_with fail
  have T2 := Lib.hid (TokAt.setS H.out T1.out 7 (.int .u32 K) (T1.out.sc.set (s' := mv E (tk t K) K) 7 (.int .u32 K) rfl))
  refine (rune_lit E HE.out (tk t K) K _ _ 60 HCI.out _ T2.out.sc HC.out (by omega)).mono ?_
  rintro e w2 ⟨rfl, hsc, hk⟩
  have T3 := Lib.hid (T2.out.next H.out hsc hk)
  clear hsc hk p5 p7 pf
  go_wp2_with fail
  refine (shift_lit E HE.out (tk t K) (K) 60 HX.out _ T3.out.sc HC.out (by omega)).mono ?_
  rintro e w3 ⟨rfl, hsc, hk⟩
  have T4 := Lib.hid (T3.out.next H.out hsc hk)
  clear hsc hk
  go_wp2_with fail
  refine (shift_lit E HE.out (tk t K) (K + 1) 61 HY.out _ T4.out.sc HC.out (by omega)).mono ?_
  rintro e w3 ⟨rfl, hsc, hk⟩
  have T5 := Lib.hid (T4.out.next H.out hsc hk)
  clear hsc hk
  go_wp2_with fail
  refine (shift_mv E HE.out (tk t K) (K + 1 + 1) _ T5.out.sc HC.out (by omega)).mono ?_
  rintro e w3 ⟨rfl, hsc, hk⟩
  have T6 := Lib.hid (T5.out.next H.out hsc hk)
  clear hsc hk
  go_wp2_with fail
  refine (newTok_mv E HE.out (tk t K) (K + 1 + 1 + 1) _ T6.out.sc 57408 3 rfl (by omega)).mono ?_
  rintro e w3 ⟨rfl, hsc, hk⟩
  have T7 := T6.out.next H.out hsc hk
  obtain ⟨z0, z1, z2, z3, z4, z5, z6, z7, zf⟩ := zero_cells T7.res
  have HTL := Lib.hid T7
  clear hsc hk T7
  go_wp2
  refine bodyPost_ret (v := tokV E 57408 t.off K 3) (by simp [results, Tryd.results44, go_sem, z0, z1, z2, z3, z4, z5, z6, z7]) rfl ⟨rfl, HTL.out.store (by omega) _ _ _ _ _ _ _ _⟩

set_option maxHeartbeats 4000000 in
set_option maxRecDepth 100000 in
theorem c0_62a (E : Env) (hE : EnvOk E) (t : St) (w : World) (h : Sc E t w) (hcl : t.closed = false) (K : Nat) (hK : t.off ≤ K) (hl : K + 1 < E.text.length)
    (hsp : ∀ i, t.off ≤ i → i < K → E.at i = 32) (hc : E.at K = 62) (hx : E.at (K + 1) ≠ 61) (hy : E.at (K + 1) ≠ 62) :
    Calls Tryd.prog 44 #[.pointer (some ⟨E.S, 0, none⟩)] w (Moves E (mv E (tk t K) (K + 1)) (tokV E 62 t.off K 1) w) := by
  have l0 := h.lt
  have hlen := hE.len
  have hns : noSep (E.at K) ∧ E.at K ≠ 47 := by rw [hc]; unfold noSep; decide
  have hci : (E.at K : Int) = 62 := by omega
  have b61 : ((E.at (K + 1) : Int) == 61) = false := by simp; omega
  have b62 : ((E.at (K + 1) : Int) == 62) = false := by simp; omega
  have H := Lib.hid h
  have HE := Lib.hid hE
  have HC := Lib.hid hcl
  have HSP := Lib.hid hsp
  have HNS := Lib.hid hns
  have HCI := Lib.hid hci
  clear h hE hcl hsp hns hci hc
  clear hx hy
  go_enter Tryd.func44, Tryd.ntmps44
  go_wp2_with fail
  refine (scanSep_plain E HE.out t _ (H.out.alloc _) HC.out K hK (by omega) HSP.out HNS.out.1 HNS.out.2).mono ?_
  rintro e w1 ⟨rfl, hsc, hk⟩
  have p5 : w1.cell? ⟨E.S, 5, none⟩ = some (.int .u32 K) := hsc.cell 5
  have p7 : w1.cell? ⟨E.S, 7, none⟩ = some (.int .u32 t.src) := hsc.cell 7
  have pf := hsc.frozen
  have T1 := Lib.hid ((TokAt.start H.out).next H.out hsc hk)
  clear hsc hk
  go_wp2_with fail
  have T2 := Lib.hid (TokAt.setS H.out T1.out 7 (.int .u32 K) (T1.out.sc.set (s' := mv E (tk t K) K) 7 (.int .u32 K) rfl))
  refine (rune_lit E HE.out (tk t K) K _ _ 62 HCI.out _ T2.out.sc HC.out (by omega)).mono ?_
  rintro e w2 ⟨rfl, hsc, hk⟩
  have T3 := Lib.hid (T2.out.next H.out hsc hk)
  clear hsc hk p5 p7 pf
  go_wp2_with fail
  refine (shift_mv E HE.out (tk t K) (K) _ T3.out.sc HC.out (by omega)).mono ?_
  rintro e w3 ⟨rfl, hsc, hk⟩
  have T4 := Lib.hid (T3.out.next H.out hsc hk)
  clear hsc hk
  go_wp2_with fail
  refine (newTok_mv E HE.out (tk t K) (K + 1) _ T4.out.sc 62 1 rfl (by omega)).mono ?_
  rintro e w3 ⟨rfl, hsc, hk⟩
  have T5 := T4.out.next H.out hsc hk
  obtain ⟨z0, z1, z2, z3, z4, z5, z6, z7, zf⟩ := zero_cells T5.res
  have HTL := Lib.hid T5
  clear hsc hk T5
  go_wp2
  refine bodyPost_ret (v := tokV E 62 t.off K 1) (by simp [results, Tryd.results44, go_sem, z0, z1, z2, z3, z4, z5, z6, z7]) rfl ⟨rfl, HTL.out.store (by omega) _ _ _ _ _ _ _ _⟩

set_option maxHeartbeats 4000000 in
set_option maxRecDepth 100000 in
theorem c0_62b (E : Env) (hE : EnvOk E) (t : St) (w : World) (h : Sc E t w) (hcl : t.closed = false) (K : Nat) (hK : t.off ≤ K) (hl : K + 2 < E.text.length)
    (hsp : ∀ i, t.off ≤ i → i < K → E.at i = 32) (hc : E.at K = 62) (hx : E.at (K + 1) = 61) :
    Calls Tryd.prog 44 #[.pointer (some ⟨E.S, 0, none⟩)] w (Moves E (mv E (tk t K) (K + 2)) (tokV E 57390 t.off K 2) w) := by
  have l0 := h.lt
  have hlen := hE.len
  have hns : noSep (E.at K) ∧ E.at K ≠ 47 := by rw [hc]; unfold noSep; decide
  have hci : (E.at K : Int) = 62 := by omega
  have hxi : (E.at (K + 1) : Int) = 61 := by omega
  have HX := Lib.hid hxi
  have H := Lib.hid h
  have HE := Lib.hid hE
  have HC := Lib.hid hcl
  have HSP := Lib.hid hsp
  have HNS := Lib.hid hns
  have HCI := Lib.hid hci
  clear h hE hcl hsp hns hci hc
  clear hx hxi
  go_enter Tryd.func44, Tryd.ntmps44
  go_wp2_with fail
  refine (scanSep_plain E HE.out t _ (H.out.alloc _) HC.out K hK (by omega) HSP.out HNS.out.1 HNS.out.2).mono ?_
  rintro e w1 ⟨rfl, hsc, hk⟩
  have p5 : w1.cell? ⟨E.S, 5, none⟩ = some (.int .u32 K) := hsc.cell 5
  have p7 : w1.cell? ⟨E.S, 7, none⟩ = some (.int .u32 t.src) := hsc.cell 7
  have pf := hsc.frozen
  have T1 := Lib.hid ((TokAt.start H.out).next H.out hsc hk)
  clear hsc hk
  go_wp2_with fail
  have T2 := Lib.hid (TokAt.setS H.out T1.out 7 (.int .u32 K) (T1.out.sc.set (s' := mv E (tk t K) K) 7 (.int .u32 K) rfl))
  refine (rune_lit E HE.out (tk t K) K _ _ 62 HCI.out _ T2.out.sc HC.out (by omega)).mono ?_
  rintro e w2 ⟨rfl, hsc, hk⟩
  have T3 := Lib.hid (T2.out.next H.out hsc hk)
  clear hsc hk p5 p7 pf
  go_wp2_with fail
  refine (shift_lit E HE.out (tk t K) (K) 61 HX.out _ T3.out.sc HC.out (by omega)).mono ?_
  rintro e w3 ⟨rfl, hsc, hk⟩
  have T4 := Lib.hid (T3.out.next H.out hsc hk)
  clear hsc hk
  go_wp2_with fail
  refine (shift_mv E HE.out (tk t K) (K + 1) _ T4.out.sc HC.out (by omega)).mono ?_
  rintro e w3 ⟨rfl, hsc, hk⟩
  have T5 := Lib.hid (T4.out.next H.out hsc hk)
  clear hsc hk
  go_wp2_with fail
  refine (newTok_mv E HE.out (tk t K) (K + 1 + 1) _ T5.out.sc 57390 2 rfl (by omega)).mono ?_
  rintro e w3 ⟨rfl, hsc, hk⟩
  have T6 := T5.out.next H.out hsc hk
  obtain ⟨z0, z1, z2, z3, z4, z5, z6, z7, zf⟩ := zero_cells T6.res
  have HTL := Lib.hid T6
  clear hsc hk T6
  go_wp2
  refine bodyPost_ret (v := tokV E 57390 t.off K 2) (by simp [results, Tryd.results44, go_sem, z0, z1, z2, z3, z4, z5, z6, z7]) rfl ⟨rfl, HTL.out.store (by omega) _ _ _ _ _ _ _ _⟩

set_option maxHeartbeats 4000000 in
set_option maxRecDepth 100000 in
theorem c0_62c (E : Env) (hE : EnvOk E) (t : St) (w : World) (h : Sc E t w) (hcl : t.closed = false) (K : Nat) (hK : t.off ≤ K) (hl : K + 2 < E.text.length)
    (hsp : ∀ i, t.off ≤ i → i < K → E.at i = 32) (hc : E.at K = 62) (hx : E.at (K + 1) = 62) (hy : E.at (K + 1 + 1) ≠ 61) :
    Calls Tryd.prog 44 #[.pointer (some ⟨E.S, 0, none⟩)] w (Moves E (mv E (tk t K) (K + 2)) (tokV E 57422 t.off K 2) w) := by
  have l0 := h.lt
  have hlen := hE.len
  have hns : noSep (E.at K) ∧ E.at K ≠ 47 := by rw [hc]; unfold noSep; decide
  have hci : (E.at K : Int) = 62 := by omega
  have hxi : (E.at (K + 1) : Int) = 62 := by omega
  have HX := Lib.hid hxi
  have b61 : ((E.at (K + 1 + 1) : Int) == 61) = false := by simp; omega
  have H := Lib.hid h
  have HE := Lib.hid hE
  have HC := Lib.hid hcl
  have HSP := Lib.hid hsp
  have HNS := Lib.hid hns
  have HCI := Lib.hid hci
  clear h hE hcl hsp hns hci hc
  clear hx hxi hy
  go_enter Tryd.func44, Tryd.ntmps44
  go_wp2_with fail
  refine (scanSep_plain E HE.out t _ (H.out.alloc _) HC.out K hK (by omega) HSP.out HNS.out.1 HNS.out.2).mono ?_
  rintro e w1 ⟨rfl, hsc, hk⟩
  have p5 : w1.cell? ⟨E.S, 5, none⟩ = some (.int .u32 K) := hsc.cell 5
  have p7 : w1.cell? ⟨E.S, 7, none⟩ = some (.int .u32 t.src) := hsc.cell 7
  have pf := hsc.frozen
  have T1 := Lib.hid ((TokAt.start H.out).next H.out hsc hk)
  clear hsc hk
  go_wp2_with fail
  have T2 := Lib.hid (TokAt.setS H.out T1.out 7 (.int .u32 K) (T1.out.sc.set (s' := mv E (tk t K) K) 7 (.int .u32 K) rfl))
  refine (rune_lit E HE.out (tk t K) K _ _ 62 HCI.out _ T2.out.sc HC.out (by omega)).mono ?_
  rintro e w2 ⟨rfl, hsc, hk⟩
  have T3 := Lib.hid (T2.out.next H.out hsc hk)
  clear hsc hk p5 p7 pf
  go_wp2_with fail
  refine (shift_lit E HE.out (tk t K) (K) 62 HX.out _ T3.out.sc HC.out (by omega)).mono ?_
  rintro e w3 ⟨rfl, hsc, hk⟩
  have T4 := Lib.hid (T3.out.next H.out hsc hk)
  clear hsc hk
  go_wp2_with fail
  refine (shift_mv E HE.out (tk t K) (K + 1) _ T4.out.sc HC.out (by omega)).mono ?_
  rintro e w3 ⟨rfl, hsc, hk⟩
  have T5 := Lib.hid (T4.out.next H.out hsc hk)
  clear hsc hk
  go_wp2_with fail
  refine (newTok_mv E HE.out (tk t K) (K + 1 + 1) _ T5.out.sc 57422 2 rfl (by omega)).mono ?_
  rintro e w3 ⟨rfl, hsc, hk⟩
  have T6 := T5.out.next H.out hsc hk
  obtain ⟨z0, z1, z2, z3, z4, z5, z6, z7, zf⟩ := zero_cells T6.res
  have HTL := Lib.hid T6
  clear hsc hk T6
  go_wp2
  refine bodyPost_ret (v := tokV E 57422 t.off K 2) (by simp [results, Tryd.results44, go_sem, z0, z1, z2, z3, z4, z5, z6, z7]) rfl ⟨rfl, HTL.out.store (by omega) _ _ _ _ _ _ _ _⟩

set_option maxHeartbeats 4000000 in
set_option maxRecDepth 100000 in
theorem c0_62d (E : Env) (hE : EnvOk E) (t : St) (w : World) (h : Sc E t w) (hcl : t.closed = false) (K : Nat) (hK : t.off ≤ K) (hl : K + 3 < E.text.length)
    (hsp : ∀ i, t.off ≤ i → i < K → E.at i = 32) (hc : E.at K = 62) (hx : E.at (K + 1) = 62) (hy : E.at (K + 1 + 1) = 61) :
    Calls Tryd.prog 44 #[.pointer (some ⟨E.S, 0, none⟩)] w (Moves E (mv E (tk t K) (K + 3)) (tokV E 57423 t.off K 3) w) := by
  have l0 := h.lt
  have hlen := hE.len
  have hns : noSep (E.at K) ∧ E.at K ≠ 47 := by rw [hc]; unfold noSep; decide
  have hci : (E.at K : Int) = 62 := by omega
  have hxi : (E.at (K + 1) : Int) = 62 := by omega
  have HX := Lib.hid hxi
  have hyi : (E.at (K + 1 + 1) : Int) = 61 := by omega
  have HY := Lib.hid hyi
  have H := Lib.hid h
  have HE := Lib.hid hE
  have HC := Lib.hid hcl
  have HSP := Lib.hid hsp
  have HNS := Lib.hid hns
  have HCI := Lib.hid hci
  clear h hE hcl hsp hns hci hc
  clear hx hxi hy hyi
  go_enter Tryd.func44, Tryd.ntmps44
  go_wp2_with fail
  refine (scanSep_plain E HE.out t _ (H.out.alloc _) HC.out K hK (by omega) HSP.out HNS.out.1 HNS.out.2).mono ?_
  rintro e w1 ⟨rfl, hsc, hk⟩
  have p5 : w1.cell? ⟨E.S, 5, none⟩ = some (.int .u32 K) := hsc.cell 5
  have p7 : w1.cell? ⟨E.S, 7, none⟩ = some (.int .u32 t.src) := hsc.cell 7
  have pf := hsc.frozen
  have T1 := Lib.hid ((TokAt.start H.out).next H.out hsc hk)
  clear hsc hk
  go_wp2_with fail
  have T2 := Lib.hid (TokAt.setS H.out T1.out 7 (.int .u32 K) (T1.out.sc.set (s' := mv E (tk t K) K) 7 (.int .u32 K) rfl))
  refine (rune_lit E HE.out (tk t K) K _ _ 62 HCI.out _ T2.out.sc HC.out (by omega)).mono ?_
  rintro e w2 ⟨rfl, hsc, hk⟩
  have T3 := Lib.hid (T2.out.next H.out hsc hk)
  clear hsc hk p5 p7 pf
  go_wp2_with fail
  refine (shift_lit E HE.out (tk t K) (K) 62 HX.out _ T3.out.sc HC.out (by omega)).mono ?_
  rintro e w3 ⟨rfl, hsc, hk⟩
  have T4 := Lib.hid (T3.out.next H.out hsc hk)
  clear hsc hk
  go_wp2_with fail
  refine (shift_lit E HE.out (tk t K) (K + 1) 61 HY.out _ T4.out.sc HC.out (by omega)).mono ?_
  rintro e w3 ⟨rfl, hsc, hk⟩
  have T5 := Lib.hid (T4.out.next H.out hsc hk)
  clear hsc hk
  go_wp2_with fail
  refine (shift_mv E HE.out (tk t K) (K + 1 + 1) _ T5.out.sc HC.out (by omega)).mono ?_
  rintro e w3 ⟨rfl, hsc, hk⟩
  have T6 := Lib.hid (T5.out.next H.out hsc hk)
  clear hsc hk
  go_wp2_with fail
  refine (newTok_mv E HE.out (tk t K) (K + 1 + 1 + 1) _ T6.out.sc 57423 3 rfl (by omega)).mono ?_
  rintro e w3 ⟨rfl, hsc, hk⟩
  have T7 := T6.out.next H.out hsc hk
  obtain ⟨z0, z1, z2, z3, z4, z5, z6, z7, zf⟩ := zero_cells T7.res
  have HTL := Lib.hid T7
  clear hsc hk T7
  go_wp2
  refine bodyPost_ret (v := tokV E 57423 t.off K 3) (by simp [results, Tryd.results44, go_sem, z0, z1, z2, z3, z4, z5, z6, z7]) rfl ⟨rfl, HTL.out.store (by omega) _ _ _ _ _ _ _ _⟩

set_option maxHeartbeats 4000000 in
set_option maxRecDepth 100000 in
theorem c0_46a1 (E : Env) (hE : EnvOk E) (t : St) (w : World) (h : Sc E t w) (hcl : t.closed = false) (K : Nat) (hK : t.off ≤ K) (hl : K + 1 < E.text.length)
    (hsp : ∀ i, t.off ≤ i → i < K → E.at i = 32) (hc : E.at K = 46) (hx : E.at (K + 1) ≠ 46) (hy : E.at (K + 1) < 48) :
    Calls Tryd.prog 44 #[.pointer (some ⟨E.S, 0, none⟩)] w (Moves E (mv E (tk t K) (K + 1)) (tokV E 46 t.off K 1) w) := by
  have l0 := h.lt
  have hlen := hE.len
  have hns : noSep (E.at K) ∧ E.at K ≠ 47 := by rw [hc]; unfold noSep; decide
  have hci : (E.at K : Int) = 46 := by omega
  have b46 : ((E.at (K + 1) : Int) == 46) = false := by simp; omega
  have e1 : ¬ ((48 : Int) ≤ (E.at (K + 1) : Int)) := by omega
  have H := Lib.hid h
  have HE := Lib.hid hE
  have HC := Lib.hid hcl
  have HSP := Lib.hid hsp
  have HNS := Lib.hid hns
  have HCI := Lib.hid hci
  clear h hE hcl hsp hns hci hc
  clear hx hy
  go_enter Tryd.func44, Tryd.ntmps44
  go_wp2_with fail
  refine (scanSep_plain E HE.out t _ (H.out.alloc _) HC.out K hK (by omega) HSP.out HNS.out.1 HNS.out.2).mono ?_
  rintro e w1 ⟨rfl, hsc, hk⟩
  have p5 : w1.cell? ⟨E.S, 5, none⟩ = some (.int .u32 K) := hsc.cell 5
  have p7 : w1.cell? ⟨E.S, 7, none⟩ = some (.int .u32 t.src) := hsc.cell 7
  have pf := hsc.frozen
  have T1 := Lib.hid ((TokAt.start H.out).next H.out hsc hk)
  clear hsc hk
  go_wp2_with fail
  have T2 := Lib.hid (TokAt.setS H.out T1.out 7 (.int .u32 K) (T1.out.sc.set (s' := mv E (tk t K) K) 7 (.int .u32 K) rfl))
  refine (rune_lit E HE.out (tk t K) K _ _ 46 HCI.out _ T2.out.sc HC.out (by omega)).mono ?_
  rintro e w2 ⟨rfl, hsc, hk⟩
  have T3 := Lib.hid (T2.out.next H.out hsc hk)
  clear hsc hk p5 p7 pf
  go_wp2_with fail
  refine (peek_mv E HE.out (tk t K) K 1 _ T3.out.sc (by omega)).mono ?_
  rintro e w3 ⟨rfl, hsc, hk⟩
  have T4 := Lib.hid (T3.out.next H.out hsc hk)
  clear hsc hk
  go_wp2_with fail
  refine (shift_mv E HE.out (tk t K) (K) _ T4.out.sc HC.out (by omega)).mono ?_
  rintro e w3 ⟨rfl, hsc, hk⟩
  have T5 := Lib.hid (T4.out.next H.out hsc hk)
  clear hsc hk
  go_wp2_with fail
  refine (rune_mv E HE.out (tk t K) (K + 1) _ T5.out.sc HC.out (by omega)).mono ?_
  rintro e w3 ⟨rfl, hsc, hk⟩
  have T6 := Lib.hid (T5.out.next H.out hsc hk)
  clear hsc hk
  go_wp2_with fail
  refine (newTok_mv E HE.out (tk t K) (K + 1) _ T6.out.sc 46 1 rfl (by omega)).mono ?_
  rintro e w3 ⟨rfl, hsc, hk⟩
  have T7 := T6.out.next H.out hsc hk
  obtain ⟨z0, z1, z2, z3, z4, z5, z6, z7, zf⟩ := zero_cells T7.res
  have HTL := Lib.hid T7
  clear hsc hk T7
  go_wp2
  refine bodyPost_ret (v := tokV E 46 t.off K 1) (by simp [results, Tryd.results44, go_sem, z0, z1, z2, z3, z4, z5, z6, z7]) rfl ⟨rfl, HTL.out.store (by omega) _ _ _ _ _ _ _ _⟩

set_option maxHeartbeats 4000000 in
set_option maxRecDepth 100000 in
theorem c0_46a2 (E : Env) (hE : EnvOk E) (t : St) (w : World) (h : Sc E t w) (hcl : t.closed = false) (K : Nat) (hK : t.off ≤ K) (hl : K + 1 < E.text.length)
    (hsp : ∀ i, t.off ≤ i → i < K → E.at i = 32) (hc : E.at K = 46) (hy : 57 < E.at (K + 1)) :
    Calls Tryd.prog 44 #[.pointer (some ⟨E.S, 0, none⟩)] w (Moves E (mv E (tk t K) (K + 1)) (tokV E 46 t.off K 1) w) := by
  have l0 := h.lt
  have hlen := hE.len
  have hns : noSep (E.at K) ∧ E.at K ≠ 47 := by rw [hc]; unfold noSep; decide
  have hci : (E.at K : Int) = 46 := by omega
  have b46 : ((E.at (K + 1) : Int) == 46) = false := by simp; omega
  have e1 : (48 : Int) ≤ (E.at (K + 1) : Int) := by omega
  have e2 : ¬ ((E.at (K + 1) : Int) ≤ 57) := by omega
  have H := Lib.hid h
  have HE := Lib.hid hE
  have HC := Lib.hid hcl
  have HSP := Lib.hid hsp
  have HNS := Lib.hid hns
  have HCI := Lib.hid hci
  clear h hE hcl hsp hns hci hc
  clear hy
  go_enter Tryd.func44, Tryd.ntmps44
  go_wp2_with fail
  refine (scanSep_plain E HE.out t _ (H.out.alloc _) HC.out K hK (by omega) HSP.out HNS.out.1 HNS.out.2).mono ?_
  rintro e w1 ⟨rfl, hsc, hk⟩
  have p5 : w1.cell? ⟨E.S, 5, none⟩ = some (.int .u32 K) := hsc.cell 5
  have p7 : w1.cell? ⟨E.S, 7, none⟩ = some (.int .u32 t.src) := hsc.cell 7
  have pf := hsc.frozen
  have T1 := Lib.hid ((TokAt.start H.out).next H.out hsc hk)
  clear hsc hk
  go_wp2_with fail
  have T2 := Lib.hid (TokAt.setS H.out T1.out 7 (.int .u32 K) (T1.out.sc.set (s' := mv E (tk t K) K) 7 (.int .u32 K) rfl))
  refine (rune_lit E HE.out (tk t K) K _ _ 46 HCI.out _ T2.out.sc HC.out (by omega)).mono ?_
  rintro e w2 ⟨rfl, hsc, hk⟩
  have T3 := Lib.hid (T2.out.next H.out hsc hk)
  clear hsc hk p5 p7 pf
  go_wp2_with fail
  refine (peek_mv E HE.out (tk t K) K 1 _ T3.out.sc (by omega)).mono ?_
  rintro e w3 ⟨rfl, hsc, hk⟩
  have T4 := Lib.hid (T3.out.next H.out hsc hk)
  clear hsc hk
  go_wp2_with fail
  refine (shift_mv E HE.out (tk t K) (K) _ T4.out.sc HC.out (by omega)).mono ?_
  rintro e w3 ⟨rfl, hsc, hk⟩
  have T5 := Lib.hid (T4.out.next H.out hsc hk)
  clear hsc hk
  go_wp2_with fail
  refine (rune_mv E HE.out (tk t K) (K + 1) _ T5.out.sc HC.out (by omega)).mono ?_
  rintro e w3 ⟨rfl, hsc, hk⟩
  have T6 := Lib.hid (T5.out.next H.out hsc hk)
  clear hsc hk
  go_wp2_with fail
  refine (newTok_mv E HE.out (tk t K) (K + 1) _ T6.out.sc 46 1 rfl (by omega)).mono ?_
  rintro e w3 ⟨rfl, hsc, hk⟩
  have T7 := T6.out.next H.out hsc hk
  obtain ⟨z0, z1, z2, z3, z4, z5, z6, z7, zf⟩ := zero_cells T7.res
  have HTL := Lib.hid T7
  clear hsc hk T7
  go_wp2
  refine bodyPost_ret (v := tokV E 46 t.off K 1) (by simp [results, Tryd.results44, go_sem, z0, z1, z2, z3, z4, z5, z6, z7]) rfl ⟨rfl, HTL.out.store (by omega) _ _ _ _ _ _ _ _⟩

set_option maxHeartbeats 4000000 in
set_option maxRecDepth 100000 in
theorem c0_46c (E : Env) (hE : EnvOk E) (t : St) (w : World) (h : Sc E t w) (hcl : t.closed = false) (K : Nat) (hK : t.off ≤ K) (hl : K + 3 < E.text.length)
    (hsp : ∀ i, t.off ≤ i → i < K → E.at i = 32) (hc : E.at K = 46) (hx : E.at (K + 1) = 46) (hy : E.at (K + 2) = 46) :
    Calls Tryd.prog 44 #[.pointer (some ⟨E.S, 0, none⟩)] w (Moves E (mv E (tk t K) (K + 3)) (tokV E 57365 t.off K 3) w) := by
  have l0 := h.lt
  have hlen := hE.len
  have hns : noSep (E.at K) ∧ E.at K ≠ 47 := by rw [hc]; unfold noSep; decide
  have hci : (E.at K : Int) = 46 := by omega
  have hxi : (E.at (K + 1) : Int) = 46 := by omega
  have HX := Lib.hid hxi
  have hyi : (E.at (K + 2) : Int) = 46 := by omega
  have HY := Lib.hid hyi
  have H := Lib.hid h
  have HE := Lib.hid hE
  have HC := Lib.hid hcl
  have HSP := Lib.hid hsp
  have HNS := Lib.hid hns
  have HCI := Lib.hid hci
  clear h hE hcl hsp hns hci hc
  clear hx hxi hy hyi
  go_enter Tryd.func44, Tryd.ntmps44
  go_wp2_with fail
  refine (scanSep_plain E HE.out t _ (H.out.alloc _) HC.out K hK (by omega) HSP.out HNS.out.1 HNS.out.2).mono ?_
  rintro e w1 ⟨rfl, hsc, hk⟩
  have p5 : w1.cell? ⟨E.S, 5, none⟩ = some (.int .u32 K) := hsc.cell 5
  have p7 : w1.cell? ⟨E.S, 7, none⟩ = some (.int .u32 t.src) := hsc.cell 7
  have pf := hsc.frozen
  have T1 := Lib.hid ((TokAt.start H.out).next H.out hsc hk)
  clear hsc hk
  go_wp2_with fail
  have T2 := Lib.hid (TokAt.setS H.out T1.out 7 (.int .u32 K) (T1.out.sc.set (s' := mv E (tk t K) K) 7 (.int .u32 K) rfl))
  refine (rune_lit E HE.out (tk t K) K _ _ 46 HCI.out _ T2.out.sc HC.out (by omega)).mono ?_
  rintro e w2 ⟨rfl, hsc, hk⟩
  have T3 := Lib.hid (T2.out.next H.out hsc hk)
  clear hsc hk p5 p7 pf
  go_wp2_with fail
  refine (peek_lit E HE.out (tk t K) K 1 46 HX.out _ T3.out.sc (by omega)).mono ?_
  rintro e w3 ⟨rfl, hsc, hk⟩
  have T4 := Lib.hid (T3.out.next H.out hsc hk)
  clear hsc hk
  go_wp2_with fail
  refine (peek_lit E HE.out (tk t K) K 2 46 HY.out _ T4.out.sc (by omega)).mono ?_
  rintro e w3 ⟨rfl, hsc, hk⟩
  have T5 := Lib.hid (T4.out.next H.out hsc hk)
  clear hsc hk
  go_wp2_with fail
  refine (shift_mv E HE.out (tk t K) (K) _ T5.out.sc HC.out (by omega)).mono ?_
  rintro e w3 ⟨rfl, hsc, hk⟩
  have T6 := Lib.hid (T5.out.next H.out hsc hk)
  clear hsc hk
  go_wp2_with fail
  refine (shift_mv E HE.out (tk t K) (K + 1) _ T6.out.sc HC.out (by omega)).mono ?_
  rintro e w3 ⟨rfl, hsc, hk⟩
  have T7 := Lib.hid (T6.out.next H.out hsc hk)
  clear hsc hk
  go_wp2_with fail
  refine (shift_mv E HE.out (tk t K) (K + 1 + 1) _ T7.out.sc HC.out (by omega)).mono ?_
  rintro e w3 ⟨rfl, hsc, hk⟩
  have T8 := Lib.hid (T7.out.next H.out hsc hk)
  clear hsc hk
  go_wp2_with fail
  refine (newTok_mv E HE.out (tk t K) (K + 1 + 1 + 1) _ T8.out.sc 57365 3 rfl (by omega)).mono ?_
  rintro e w3 ⟨rfl, hsc, hk⟩
  have T9 := T8.out.next H.out hsc hk
  obtain ⟨z0, z1, z2, z3, z4, z5, z6, z7, zf⟩ := zero_cells T9.res
  have HTL := Lib.hid T9
  clear hsc hk T9
  go_wp2
  refine bodyPost_ret (v := tokV E 57365 t.off K 3) (by simp [results, Tryd.results44, go_sem, z0, z1, z2, z3, z4, z5, z6, z7]) rfl ⟨rfl, HTL.out.store (by omega) _ _ _ _ _ _ _ _⟩

set_option maxHeartbeats 4000000 in
set_option maxRecDepth 100000 in
theorem c0_46n (E : Env) (hE : EnvOk E) (t : St) (w : World) (h : Sc E t w) (hcl : t.closed = false) (K : Nat) (hK : t.off ≤ K) 
    (hsp : ∀ i, t.off ≤ i → i < K → E.at i = 32) (hc : E.at K = 46) (n : Nat) (hl : K + n < E.text.length) (hy : isDg (E.at (K + 1)) = true) (hr : NumRun E.at (K + 1 + 1) (K + n)) :
    Calls Tryd.prog 44 #[.pointer (some ⟨E.S, 0, none⟩)] w (Moves E (mv E (tk t K) (K + n)) (tokV E 57416 t.off K n) w) := by
  have l0 := h.lt
  have hlen := hE.len
  have hns : noSep (E.at K) ∧ E.at K ≠ 47 := by rw [hc]; unfold noSep; decide
  have hci : (E.at K : Int) = 46 := by omega
  have hd : 48 ≤ E.at (K + 1) ∧ E.at (K + 1) ≤ 57 := by unfold isDg at hy; simp at hy; omega
  obtain ⟨hd1, hd2⟩ := hd
  have e1 : (48 : Int) ≤ (E.at (K + 1) : Int) := by omega
  have e2 : (E.at (K + 1) : Int) ≤ 57 := by omega
  have b46 : ((E.at (K + 1) : Int) == 46) = false := by simp; omega
  have hle := hr.le
  have HR := Lib.hid hr
  have H := Lib.hid h
  have HE := Lib.hid hE
  have HC := Lib.hid hcl
  have HSP := Lib.hid hsp
  have HNS := Lib.hid hns
  have HCI := Lib.hid hci
  clear h hE hcl hsp hns hci hc
  clear hy hd1 hd2 hr
  go_enter Tryd.func44, Tryd.ntmps44
  go_wp2_with fail
  refine (scanSep_plain E HE.out t _ (H.out.alloc _) HC.out K hK (by omega) HSP.out HNS.out.1 HNS.out.2).mono ?_
  rintro e w1 ⟨rfl, hsc, hk⟩
  have p5 : w1.cell? ⟨E.S, 5, none⟩ = some (.int .u32 K) := hsc.cell 5
  have p7 : w1.cell? ⟨E.S, 7, none⟩ = some (.int .u32 t.src) := hsc.cell 7
  have pf := hsc.frozen
  have T1 := Lib.hid ((TokAt.start H.out).next H.out hsc hk)
  clear hsc hk
  go_wp2_with fail
  have T2 := Lib.hid (TokAt.setS H.out T1.out 7 (.int .u32 K) (T1.out.sc.set (s' := mv E (tk t K) K) 7 (.int .u32 K) rfl))
  refine (rune_lit E HE.out (tk t K) K _ _ 46 HCI.out _ T2.out.sc HC.out (by omega)).mono ?_
  rintro e w2 ⟨rfl, hsc, hk⟩
  have T3 := Lib.hid (T2.out.next H.out hsc hk)
  clear hsc hk p5 p7 pf
  go_wp2_with fail
  refine (peek_mv E HE.out (tk t K) K 1 _ T3.out.sc (by omega)).mono ?_
  rintro e w3 ⟨rfl, hsc, hk⟩
  have T4 := Lib.hid (T3.out.next H.out hsc hk)
  clear hsc hk
  go_wp2_with fail
  refine (shift_mv E HE.out (tk t K) (K) _ T4.out.sc HC.out (by omega)).mono ?_
  rintro e w3 ⟨rfl, hsc, hk⟩
  have T5 := Lib.hid (T4.out.next H.out hsc hk)
  clear hsc hk
  go_wp2_with fail
  refine (rune_mv E HE.out (tk t K) (K + 1) _ T5.out.sc HC.out (by omega)).mono ?_
  rintro e w3 ⟨rfl, hsc, hk⟩
  have T6 := Lib.hid (T5.out.next H.out hsc hk)
  clear hsc hk
  go_wp2_with fail
  refine (number_any E HE.out (tk t K) (K + 1) _ T6.out.sc HC.out (K + n) n rfl hl HR.out).mono ?_
  rintro e w3 ⟨rfl, hsc, hk⟩
  have T7 := T6.out.next H.out hsc hk
  obtain ⟨z0, z1, z2, z3, z4, z5, z6, z7, zf⟩ := zero_cells T7.res
  have HTL := Lib.hid T7
  clear hsc hk T7
  go_wp2
  refine bodyPost_ret (v := tokV E 57416 t.off K n) (by simp [results, Tryd.results44, go_sem, z0, z1, z2, z3, z4, z5, z6, z7]) rfl ⟨rfl, HTL.out.store (by omega) _ _ _ _ _ _ _ _⟩

set_option maxHeartbeats 4000000 in
set_option maxRecDepth 100000 in
theorem c0_num (E : Env) (hE : EnvOk E) (t : St) (w : World) (h : Sc E t w) (hcl : t.closed = false) (K : Nat) (hK : t.off ≤ K) 
    (hsp : ∀ i, t.off ≤ i → i < K → E.at i = 32) (hd : isDg (E.at K) = true) (n : Nat) (hl : K + n < E.text.length) (hr : NumRun E.at (K + 1) (K + n)) :
    Calls Tryd.prog 44 #[.pointer (some ⟨E.S, 0, none⟩)] w (Moves E (mv E (tk t K) (K + n)) (tokV E 57416 t.off K n) w) := by
  have l0 := h.lt
  have hlen := hE.len
  have hdd : 48 ≤ E.at K ∧ E.at K ≤ 57 := by unfold isDg at hd; simp at hd; omega
  have b40 : ((E.at K : Int) == 40) = false := by simp; omega
  have b41 : ((E.at K : Int) == 41) = false := by simp; omega
  have b44 : ((E.at K : Int) == 44) = false := by simp; omega
  have b58 : ((E.at K : Int) == 58) = false := by simp; omega
  have b59 : ((E.at K : Int) == 59) = false := by simp; omega
  have b63 : ((E.at K : Int) == 63) = false := by simp; omega
  have b91 : ((E.at K : Int) == 91) = false := by simp; omega
  have b10 : ((E.at K : Int) == 10) = false := by simp; omega
  have b93 : ((E.at K : Int) == 93) = false := by simp; omega
  have b123 : ((E.at K : Int) == 123) = false := by simp; omega
  have b125 : ((E.at K : Int) == 125) = false := by simp; omega
  have b126 : ((E.at K : Int) == 126) = false := by simp; omega
  have b42 : ((E.at K : Int) == 42) = false := by simp; omega
  have b61 : ((E.at K : Int) == 61) = false := by simp; omega
  have b94 : ((E.at K : Int) == 94) = false := by simp; omega
  have b43 : ((E.at K : Int) == 43) = false := by simp; omega
  have b38 : ((E.at K : Int) == 38) = false := by simp; omega
  have b45 : ((E.at K : Int) == 45) = false := by simp; omega
  have b124 : ((E.at K : Int) == 124) = false := by simp; omega
  have b37 : ((E.at K : Int) == 37) = false := by simp; omega
  have b47 : ((E.at K : Int) == 47) = false := by simp; omega
  have b33 : ((E.at K : Int) == 33) = false := by simp; omega
  have b35 : ((E.at K : Int) == 35) = false := by simp; omega
  have b60 : ((E.at K : Int) == 60) = false := by simp; omega
  have b62 : ((E.at K : Int) == 62) = false := by simp; omega
  have b46 : ((E.at K : Int) == 46) = false := by simp; omega
  have b34 : ((E.at K : Int) == 34) = false := by simp; omega
  have b39 : ((E.at K : Int) == 39) = false := by simp; omega
  have b76 : ((E.at K : Int) == 76) = false := by simp; omega
  have b117 : ((E.at K : Int) == 117) = false := by simp; omega
  have b95 : ((E.at K : Int) == 95) = false := by simp; omega
  have b36 : ((E.at K : Int) == 36) = false := by simp; omega
  have bm : ((E.at K : Int) == -1) = false := by simp
  have hal : isAl (E.at K) = false := by unfold isAl; simp; omega
  have hc128 : E.at K < 128 := by omega
  have HA := Lib.hid hal
  obtain ⟨hd1, hd2⟩ := hdd
  have e1 : (48 : Int) ≤ (E.at K : Int) := by omega
  have e2 : (E.at K : Int) ≤ 57 := by omega
  have hle := hr.le
  have HR := Lib.hid hr
  have H := Lib.hid h
  have HE := Lib.hid hE
  have HC := Lib.hid hcl
  have HSP := Lib.hid hsp
  have hns : noSep (E.at K) ∧ E.at K ≠ 47 := by unfold noSep; omega
  have HNS := Lib.hid hns
  clear h hE hcl hsp hns hd
  clear hal hd1 hd2 hr
  go_enter Tryd.func44, Tryd.ntmps44
  go_wp2_with fail
  refine (scanSep_plain E HE.out t _ (H.out.alloc _) HC.out K hK (by omega) HSP.out HNS.out.1 HNS.out.2).mono ?_
  rintro e w1 ⟨rfl, hsc, hk⟩
  have p5 : w1.cell? ⟨E.S, 5, none⟩ = some (.int .u32 K) := hsc.cell 5
  have p7 : w1.cell? ⟨E.S, 7, none⟩ = some (.int .u32 t.src) := hsc.cell 7
  have pf := hsc.frozen
  have T1 := Lib.hid ((TokAt.start H.out).next H.out hsc hk)
  clear hsc hk
  go_wp2_with fail
  have T2 := Lib.hid (TokAt.setS H.out T1.out 7 (.int .u32 K) (T1.out.sc.set (s' := mv E (tk t K) K) 7 (.int .u32 K) rfl))
  refine (rune_ml E HE.out (tk t K) K _ _ _ T2.out.sc HC.out (by omega)).mono ?_
  rintro e w2 ⟨rfl, hsc, hk⟩
  have T3 := Lib.hid (T2.out.next H.out hsc hk)
  clear hsc hk p5 p7 pf
  go_wp2_with fail
  refine (letter_is false (E.at K) HA.out hc128 _ (T3.out.sc.hG _ hc128)).mono ?_
  rintro e w3 ⟨rfl, rfl⟩
  go_wp2_with fail
  refine (number_any E HE.out (tk t K) K _ T3.out.sc HC.out (K + n) n rfl hl HR.out).mono ?_
  rintro e w3 ⟨rfl, hsc, hk⟩
  have T4 := T3.out.next H.out hsc hk
  obtain ⟨z0, z1, z2, z3, z4, z5, z6, z7, zf⟩ := zero_cells T4.res
  have HTL := Lib.hid T4
  clear hsc hk T4
  go_wp2
  refine bodyPost_ret (v := tokV E 57416 t.off K n) (by simp [results, Tryd.results44, go_sem, z0, z1, z2, z3, z4, z5, z6, z7]) rfl ⟨rfl, HTL.out.store (by omega) _ _ _ _ _ _ _ _⟩

set_option maxHeartbeats 4000000 in
set_option maxRecDepth 100000 in
theorem c0_str (E : Env) (hE : EnvOk E) (t : St) (w : World) (h : Sc E t w) (hcl : t.closed = false) (K : Nat) (hK : t.off ≤ K) 
    (hsp : ∀ i, t.off ≤ i → i < K → E.at i = 32) (hc : E.at K = 34) (M n : Nat) (hM : M + 1 = K + n) (hKM : K < M) (hl : M + 1 < E.text.length) (hin : ∀ j, K < j → j < M → E.at j ≠ 34 ∧ E.at j ≠ 10) (hq : E.at M = 34) :
    Calls Tryd.prog 44 #[.pointer (some ⟨E.S, 0, none⟩)] w (Moves E (mv E (tk t K) (M + 1)) (tokV E 57429 t.off K n) w) := by
  have l0 := h.lt
  have hlen := hE.len
  have hns : noSep (E.at K) ∧ E.at K ≠ 47 := by rw [hc]; unfold noSep; decide
  have hci : (E.at K : Int) = 34 := by omega
  have HM := Lib.hid hM
  have HI := Lib.hid hin
  have HQ := Lib.hid hq
  have H := Lib.hid h
  have HE := Lib.hid hE
  have HC := Lib.hid hcl
  have HSP := Lib.hid hsp
  have HNS := Lib.hid hns
  have HCI := Lib.hid hci
  clear h hE hcl hsp hns hci hc
  clear hM hin hq
  go_enter Tryd.func44, Tryd.ntmps44
  go_wp2_with fail
  refine (scanSep_plain E HE.out t _ (H.out.alloc _) HC.out K hK (by omega) HSP.out HNS.out.1 HNS.out.2).mono ?_
  rintro e w1 ⟨rfl, hsc, hk⟩
  have p5 : w1.cell? ⟨E.S, 5, none⟩ = some (.int .u32 K) := hsc.cell 5
  have p7 : w1.cell? ⟨E.S, 7, none⟩ = some (.int .u32 t.src) := hsc.cell 7
  have pf := hsc.frozen
  have T1 := Lib.hid ((TokAt.start H.out).next H.out hsc hk)
  clear hsc hk
  go_wp2_with fail
  have T2 := Lib.hid (TokAt.setS H.out T1.out 7 (.int .u32 K) (T1.out.sc.set (s' := mv E (tk t K) K) 7 (.int .u32 K) rfl))
  refine (rune_lit E HE.out (tk t K) K _ _ 34 HCI.out _ T2.out.sc HC.out (by omega)).mono ?_
  rintro e w2 ⟨rfl, hsc, hk⟩
  have T3 := Lib.hid (T2.out.next H.out hsc hk)
  clear hsc hk p5 p7 pf
  go_wp2_with fail
  refine (string_any E HE.out (tk t K) K _ T3.out.sc HC.out 57429 M n HM.out hKM (by omega) HI.out HQ.out).mono ?_
  rintro e w3 ⟨rfl, hsc, hk⟩
  have T4 := T3.out.next H.out hsc hk
  obtain ⟨z0, z1, z2, z3, z4, z5, z6, z7, zf⟩ := zero_cells T4.res
  have HTL := Lib.hid T4
  clear hsc hk T4
  go_wp2
  refine bodyPost_ret (v := tokV E 57429 t.off K n) (by simp [results, Tryd.results44, go_sem, z0, z1, z2, z3, z4, z5, z6, z7]) rfl ⟨rfl, HTL.out.store (by omega) _ _ _ _ _ _ _ _⟩

set_option maxHeartbeats 4000000 in
set_option maxRecDepth 100000 in
theorem c0_chr (E : Env) (hE : EnvOk E) (t : St) (w : World) (h : Sc E t w) (hcl : t.closed = false) (K : Nat) (hK : t.off ≤ K) 
    (hsp : ∀ i, t.off ≤ i → i < K → E.at i = 32) (hc : E.at K = 39) (M n : Nat) (hM : M + 1 = K + n) (hKM : K < M) (hl : M + 1 < E.text.length) (hin : ∀ j, K < j → j < M → E.at j ≠ 39 ∧ E.at j ≠ 10) (hq : E.at M = 39) :
    Calls Tryd.prog 44 #[.pointer (some ⟨E.S, 0, none⟩)] w (Moves E (mv E (tk t K) (M + 1)) (tokV E 57361 t.off K n) w) := by
  have l0 := h.lt
  have hlen := hE.len
  have hns : noSep (E.at K) ∧ E.at K ≠ 47 := by rw [hc]; unfold noSep; decide
  have hci : (E.at K : Int) = 39 := by omega
  have HM := Lib.hid hM
  have HI := Lib.hid hin
  have HQ := Lib.hid hq
  have H := Lib.hid h
  have HE := Lib.hid hE
  have HC := Lib.hid hcl
  have HSP := Lib.hid hsp
  have HNS := Lib.hid hns
  have HCI := Lib.hid hci
  clear h hE hcl hsp hns hci hc
  clear hM hin hq
  go_enter Tryd.func44, Tryd.ntmps44
  go_wp2_with fail
  refine (scanSep_plain E HE.out t _ (H.out.alloc _) HC.out K hK (by omega) HSP.out HNS.out.1 HNS.out.2).mono ?_
  rintro e w1 ⟨rfl, hsc, hk⟩
  have p5 : w1.cell? ⟨E.S, 5, none⟩ = some (.int .u32 K) := hsc.cell 5
  have p7 : w1.cell? ⟨E.S, 7, none⟩ = some (.int .u32 t.src) := hsc.cell 7
  have pf := hsc.frozen
  have T1 := Lib.hid ((TokAt.start H.out).next H.out hsc hk)
  clear hsc hk
  go_wp2_with fail
  have T2 := Lib.hid (TokAt.setS H.out T1.out 7 (.int .u32 K) (T1.out.sc.set (s' := mv E (tk t K) K) 7 (.int .u32 K) rfl))
  refine (rune_lit E HE.out (tk t K) K _ _ 39 HCI.out _ T2.out.sc HC.out (by omega)).mono ?_
  rintro e w2 ⟨rfl, hsc, hk⟩
  have T3 := Lib.hid (T2.out.next H.out hsc hk)
  clear hsc hk p5 p7 pf
  go_wp2_with fail
  refine (char_any E HE.out (tk t K) K _ T3.out.sc HC.out 57361 M n HM.out hKM (by omega) HI.out HQ.out).mono ?_
  rintro e w3 ⟨rfl, hsc, hk⟩
  have T4 := T3.out.next H.out hsc hk
  obtain ⟨z0, z1, z2, z3, z4, z5, z6, z7, zf⟩ := zero_cells T4.res
  have HTL := Lib.hid T4
  clear hsc hk T4
  go_wp2
  refine bodyPost_ret (v := tokV E 57361 t.off K n) (by simp [results, Tryd.results44, go_sem, z0, z1, z2, z3, z4, z5, z6, z7]) rfl ⟨rfl, HTL.out.store (by omega) _ _ _ _ _ _ _ _⟩

set_option maxHeartbeats 4000000 in
set_option maxRecDepth 100000 in
theorem c0_idA (E : Env) (hE : EnvOk E) (t : St) (w : World) (h : Sc E t w) (hcl : t.closed = false) (K : Nat) (hK : t.off ≤ K) 
    (hsp : ∀ i, t.off ≤ i → i < K → E.at i = 32) (hc1 : 65 ≤ E.at K) (hc2 : E.at K ≤ 75) (n : Nat) (hn : 0 < n) (hl : K + n < E.text.length) (hin : ∀ j, K < j → j < K + n → isId (E.at j) = true) (hout : isId (E.at (K + n)) = false) (hd : E.at (K + n) ≠ 36) :
    Calls Tryd.prog 44 #[.pointer (some ⟨E.S, 0, none⟩)] w (Moves E (mv E (tk t K) (K + n)) (tokV E 57393 t.off K n) w) := by
  have l0 := h.lt
  have hlen := hE.len
  have hns : noSep (E.at K) ∧ E.at K ≠ 47 := by unfold noSep; omega
  have b40 : ((E.at K : Int) == 40) = false := by simp; omega
  have b41 : ((E.at K : Int) == 41) = false := by simp; omega
  have b44 : ((E.at K : Int) == 44) = false := by simp; omega
  have b58 : ((E.at K : Int) == 58) = false := by simp; omega
  have b59 : ((E.at K : Int) == 59) = false := by simp; omega
  have b63 : ((E.at K : Int) == 63) = false := by simp; omega
  have b91 : ((E.at K : Int) == 91) = false := by simp; omega
  have b10 : ((E.at K : Int) == 10) = false := by simp; omega
  have b93 : ((E.at K : Int) == 93) = false := by simp; omega
  have b123 : ((E.at K : Int) == 123) = false := by simp; omega
  have b125 : ((E.at K : Int) == 125) = false := by simp; omega
  have b126 : ((E.at K : Int) == 126) = false := by simp; omega
  have b42 : ((E.at K : Int) == 42) = false := by simp; omega
  have b61 : ((E.at K : Int) == 61) = false := by simp; omega
  have b94 : ((E.at K : Int) == 94) = false := by simp; omega
  have b43 : ((E.at K : Int) == 43) = false := by simp; omega
  have b38 : ((E.at K : Int) == 38) = false := by simp; omega
  have b45 : ((E.at K : Int) == 45) = false := by simp; omega
  have b124 : ((E.at K : Int) == 124) = false := by simp; omega
  have b37 : ((E.at K : Int) == 37) = false := by simp; omega
  have b47 : ((E.at K : Int) == 47) = false := by simp; omega
  have b33 : ((E.at K : Int) == 33) = false := by simp; omega
  have b35 : ((E.at K : Int) == 35) = false := by simp; omega
  have b60 : ((E.at K : Int) == 60) = false := by simp; omega
  have b62 : ((E.at K : Int) == 62) = false := by simp; omega
  have b46 : ((E.at K : Int) == 46) = false := by simp; omega
  have b34 : ((E.at K : Int) == 34) = false := by simp; omega
  have b39 : ((E.at K : Int) == 39) = false := by simp; omega
  have b76 : ((E.at K : Int) == 76) = false := by simp; omega
  have b117 : ((E.at K : Int) == 117) = false := by simp; omega
  have bm : ((E.at K : Int) == -1) = false := by simp
  have hal : isAl (E.at K) = true := by unfold isAl; simp; omega
  have hc128 : E.at K < 128 := by omega
  have HA := Lib.hid hal
  have HIN := Lib.hid hin
  have HOUT := Lib.hid hout
  have HD := Lib.hid hd
  have H := Lib.hid h
  have HE := Lib.hid hE
  have HC := Lib.hid hcl
  have HSP := Lib.hid hsp
  have HNS := Lib.hid hns
  clear h hE hcl hsp hns
  clear hal hin hout hd hc1 hc2
  go_enter Tryd.func44, Tryd.ntmps44
  go_wp2_with fail
  refine (scanSep_plain E HE.out t _ (H.out.alloc _) HC.out K hK (by omega) HSP.out HNS.out.1 HNS.out.2).mono ?_
  rintro e w1 ⟨rfl, hsc, hk⟩
  have p5 : w1.cell? ⟨E.S, 5, none⟩ = some (.int .u32 K) := hsc.cell 5
  have p7 : w1.cell? ⟨E.S, 7, none⟩ = some (.int .u32 t.src) := hsc.cell 7
  have pf := hsc.frozen
  have T1 := Lib.hid ((TokAt.start H.out).next H.out hsc hk)
  clear hsc hk
  go_wp2_with fail
  have T2 := Lib.hid (TokAt.setS H.out T1.out 7 (.int .u32 K) (T1.out.sc.set (s' := mv E (tk t K) K) 7 (.int .u32 K) rfl))
  refine (rune_ml E HE.out (tk t K) K _ _ _ T2.out.sc HC.out (by omega)).mono ?_
  rintro e w2 ⟨rfl, hsc, hk⟩
  have T3 := Lib.hid (T2.out.next H.out hsc hk)
  clear hsc hk p5 p7 pf
  go_wp2_with fail
  refine (letter_is true (E.at K) HA.out hc128 _ (T3.out.sc.hG _ hc128)).mono ?_
  rintro e w3 ⟨rfl, rfl⟩
  go_wp2_with fail
  refine (ident_any E HE.out (tk t K) K _ T3.out.sc HC.out (K + n) n rfl (by omega) hl HIN.out HOUT.out HD.out).mono ?_
  rintro e w3 ⟨rfl, hsc, hk⟩
  have T4 := T3.out.next H.out hsc hk
  obtain ⟨z0, z1, z2, z3, z4, z5, z6, z7, zf⟩ := zero_cells T4.res
  have HTL := Lib.hid T4
  clear hsc hk T4
  go_wp2
  refine bodyPost_ret (v := tokV E 57393 t.off K n) (by simp [results, Tryd.results44, go_sem, z0, z1, z2, z3, z4, z5, z6, z7]) rfl ⟨rfl, HTL.out.store (by omega) _ _ _ _ _ _ _ _⟩

set_option maxHeartbeats 4000000 in
set_option maxRecDepth 100000 in
theorem c0_idM (E : Env) (hE : EnvOk E) (t : St) (w : World) (h : Sc E t w) (hcl : t.closed = false) (K : Nat) (hK : t.off ≤ K) 
    (hsp : ∀ i, t.off ≤ i → i < K → E.at i = 32) (hc1 : 77 ≤ E.at K) (hc2 : E.at K ≤ 90) (n : Nat) (hn : 0 < n) (hl : K + n < E.text.length) (hin : ∀ j, K < j → j < K + n → isId (E.at j) = true) (hout : isId (E.at (K + n)) = false) (hd : E.at (K + n) ≠ 36) :
    Calls Tryd.prog 44 #[.pointer (some ⟨E.S, 0, none⟩)] w (Moves E (mv E (tk t K) (K + n)) (tokV E 57393 t.off K n) w) := by
  have l0 := h.lt
  have hlen := hE.len
  have hns : noSep (E.at K) ∧ E.at K ≠ 47 := by unfold noSep; omega
  have b40 : ((E.at K : Int) == 40) = false := by simp; omega
  have b41 : ((E.at K : Int) == 41) = false := by simp; omega
  have b44 : ((E.at K : Int) == 44) = false := by simp; omega
  have b58 : ((E.at K : Int) == 58) = false := by simp; omega
  have b59 : ((E.at K : Int) == 59) = false := by simp; omega
  have b63 : ((E.at K : Int) == 63) = false := by simp; omega
  have b91 : ((E.at K : Int) == 91) = false := by simp; omega
  have b10 : ((E.at K : Int) == 10) = false := by simp; omega
  have b93 : ((E.at K : Int) == 93) = false := by simp; omega
  have b123 : ((E.at K : Int) == 123) = false := by simp; omega
  have b125 : ((E.at K : Int) == 125) = false := by simp; omega
  have b126 : ((E.at K : Int) == 126) = false := by simp; omega
  have b42 : ((E.at K : Int) == 42) = false := by simp; omega
  have b61 : ((E.at K : Int) == 61) = false := by simp; omega
  have b94 : ((E.at K : Int) == 94) = false := by simp; omega
  have b43 : ((E.at K : Int) == 43) = false := by simp; omega
  have b38 : ((E.at K : Int) == 38) = false := by simp; omega
  have b45 : ((E.at K : Int) == 45) = false := by simp; omega
  have b124 : ((E.at K : Int) == 124) = false := by simp; omega
  have b37 : ((E.at K : Int) == 37) = false := by simp; omega
  have b47 : ((E.at K : Int) == 47) = false := by simp; omega
  have b33 : ((E.at K : Int) == 33) = false := by simp; omega
  have b35 : ((E.at K : Int) == 35) = false := by simp; omega
  have b60 : ((E.at K : Int) == 60) = false := by simp; omega
  have b62 : ((E.at K : Int) == 62) = false := by simp; omega
  have b46 : ((E.at K : Int) == 46) = false := by simp; omega
  have b34 : ((E.at K : Int) == 34) = false := by simp; omega
  have b39 : ((E.at K : Int) == 39) = false := by simp; omega
  have b76 : ((E.at K : Int) == 76) = false := by simp; omega
  have b117 : ((E.at K : Int) == 117) = false := by simp; omega
  have bm : ((E.at K : Int) == -1) = false := by simp
  have hal : isAl (E.at K) = true := by unfold isAl; simp; omega
  have hc128 : E.at K < 128 := by omega
  have HA := Lib.hid hal
  have HIN := Lib.hid hin
  have HOUT := Lib.hid hout
  have HD := Lib.hid hd
  have H := Lib.hid h
  have HE := Lib.hid hE
  have HC := Lib.hid hcl
  have HSP := Lib.hid hsp
  have HNS := Lib.hid hns
  clear h hE hcl hsp hns
  clear hal hin hout hd hc1 hc2
  go_enter Tryd.func44, Tryd.ntmps44
  go_wp2_with fail
  refine (scanSep_plain E HE.out t _ (H.out.alloc _) HC.out K hK (by omega) HSP.out HNS.out.1 HNS.out.2).mono ?_
  rintro e w1 ⟨rfl, hsc, hk⟩
  have p5 : w1.cell? ⟨E.S, 5, none⟩ = some (.int .u32 K) := hsc.cell 5
  have p7 : w1.cell? ⟨E.S, 7, none⟩ = some (.int .u32 t.src) := hsc.cell 7
  have pf := hsc.frozen
  have T1 := Lib.hid ((TokAt.start H.out).next H.out hsc hk)
  clear hsc hk
  go_wp2_with fail
  have T2 := Lib.hid (TokAt.setS H.out T1.out 7 (.int .u32 K) (T1.out.sc.set (s' := mv E (tk t K) K) 7 (.int .u32 K) rfl))
  refine (rune_ml E HE.out (tk t K) K _ _ _ T2.out.sc HC.out (by omega)).mono ?_
  rintro e w2 ⟨rfl, hsc, hk⟩
  have T3 := Lib.hid (T2.out.next H.out hsc hk)
  clear hsc hk p5 p7 pf
  go_wp2_with fail
  refine (letter_is true (E.at K) HA.out hc128 _ (T3.out.sc.hG _ hc128)).mono ?_
  rintro e w3 ⟨rfl, rfl⟩
  go_wp2_with fail
  refine (ident_any E HE.out (tk t K) K _ T3.out.sc HC.out (K + n) n rfl (by omega) hl HIN.out HOUT.out HD.out).mono ?_
  rintro e w3 ⟨rfl, hsc, hk⟩
  have T4 := T3.out.next H.out hsc hk
  obtain ⟨z0, z1, z2, z3, z4, z5, z6, z7, zf⟩ := zero_cells T4.res
  have HTL := Lib.hid T4
  clear hsc hk T4
  go_wp2
  refine bodyPost_ret (v := tokV E 57393 t.off K n) (by simp [results, Tryd.results44, go_sem, z0, z1, z2, z3, z4, z5, z6, z7]) rfl ⟨rfl, HTL.out.store (by omega) _ _ _ _ _ _ _ _⟩

set_option maxHeartbeats 4000000 in
set_option maxRecDepth 100000 in
theorem c0_ida (E : Env) (hE : EnvOk E) (t : St) (w : World) (h : Sc E t w) (hcl : t.closed = false) (K : Nat) (hK : t.off ≤ K) 
    (hsp : ∀ i, t.off ≤ i → i < K → E.at i = 32) (hc1 : 97 ≤ E.at K) (hc2 : E.at K ≤ 116) (n : Nat) (hn : 0 < n) (hl : K + n < E.text.length) (hin : ∀ j, K < j → j < K + n → isId (E.at j) = true) (hout : isId (E.at (K + n)) = false) (hd : E.at (K + n) ≠ 36) :
    Calls Tryd.prog 44 #[.pointer (some ⟨E.S, 0, none⟩)] w (Moves E (mv E (tk t K) (K + n)) (tokV E 57393 t.off K n) w) := by
  have l0 := h.lt
  have hlen := hE.len
  have hns : noSep (E.at K) ∧ E.at K ≠ 47 := by unfold noSep; omega
  have b40 : ((E.at K : Int) == 40) = false := by simp; omega
  have b41 : ((E.at K : Int) == 41) = false := by simp; omega
  have b44 : ((E.at K : Int) == 44) = false := by simp; omega
  have b58 : ((E.at K : Int) == 58) = false := by simp; omega
  have b59 : ((E.at K : Int) == 59) = false := by simp; omega
  have b63 : ((E.at K : Int) == 63) = false := by simp; omega
  have b91 : ((E.at K : Int) == 91) = false := by simp; omega
  have b10 : ((E.at K : Int) == 10) = false := by simp; omega
  have b93 : ((E.at K : Int) == 93) = false := by simp; omega
  have b123 : ((E.at K : Int) == 123) = false := by simp; omega
  have b125 : ((E.at K : Int) == 125) = false := by simp; omega
  have b126 : ((E.at K : Int) == 126) = false := by simp; omega
  have b42 : ((E.at K : Int) == 42) = false := by simp; omega
  have b61 : ((E.at K : Int) == 61) = false := by simp; omega
  have b94 : ((E.at K : Int) == 94) = false := by simp; omega
  have b43 : ((E.at K : Int) == 43) = false := by simp; omega
  have b38 : ((E.at K : Int) == 38) = false := by simp; omega
  have b45 : ((E.at K : Int) == 45) = false := by simp; omega
  have b124 : ((E.at K : Int) == 124) = false := by simp; omega
  have b37 : ((E.at K : Int) == 37) = false := by simp; omega
  have b47 : ((E.at K : Int) == 47) = false := by simp; omega
  have b33 : ((E.at K : Int) == 33) = false := by simp; omega
  have b35 : ((E.at K : Int) == 35) = false := by simp; omega
  have b60 : ((E.at K : Int) == 60) = false := by simp; omega
  have b62 : ((E.at K : Int) == 62) = false := by simp; omega
  have b46 : ((E.at K : Int) == 46) = false := by simp; omega
  have b34 : ((E.at K : Int) == 34) = false := by simp; omega
  have b39 : ((E.at K : Int) == 39) = false := by simp; omega
  have b76 : ((E.at K : Int) == 76) = false := by simp; omega
  have b117 : ((E.at K : Int) == 117) = false := by simp; omega
  have bm : ((E.at K : Int) == -1) = false := by simp
  have hal : isAl (E.at K) = true := by unfold isAl; simp; omega
  have hc128 : E.at K < 128 := by omega
  have HA := Lib.hid hal
  have HIN := Lib.hid hin
  have HOUT := Lib.hid hout
  have HD := Lib.hid hd
  have H := Lib.hid h
  have HE := Lib.hid hE
  have HC := Lib.hid hcl
  have HSP := Lib.hid hsp
  have HNS := Lib.hid hns
  clear h hE hcl hsp hns
  clear hal hin hout hd hc1 hc2
  go_enter Tryd.func44, Tryd.ntmps44
  go_wp2_with fail
  refine (scanSep_plain E HE.out t _ (H.out.alloc _) HC.out K hK (by omega) HSP.out HNS.out.1 HNS.out.2).mono ?_
  rintro e w1 ⟨rfl, hsc, hk⟩
  have p5 : w1.cell? ⟨E.S, 5, none⟩ = some (.int .u32 K) := hsc.cell 5
  have p7 : w1.cell? ⟨E.S, 7, none⟩ = some (.int .u32 t.src) := hsc.cell 7
  have pf := hsc.frozen
  have T1 := Lib.hid ((TokAt.start H.out).next H.out hsc hk)
  clear hsc hk
  go_wp2_with fail
  have T2 := Lib.hid (TokAt.setS H.out T1.out 7 (.int .u32 K) (T1.out.sc.set (s' := mv E (tk t K) K) 7 (.int .u32 K) rfl))
  refine (rune_ml E HE.out (tk t K) K _ _ _ T2.out.sc HC.out (by omega)).mono ?_
  rintro e w2 ⟨rfl, hsc, hk⟩
  have T3 := Lib.hid (T2.out.next H.out hsc hk)
  clear hsc hk p5 p7 pf
  go_wp2_with fail
  refine (letter_is true (E.at K) HA.out hc128 _ (T3.out.sc.hG _ hc128)).mono ?_
  rintro e w3 ⟨rfl, rfl⟩
  go_wp2_with fail
  refine (ident_any E HE.out (tk t K) K _ T3.out.sc HC.out (K + n) n rfl (by omega) hl HIN.out HOUT.out HD.out).mono ?_
  rintro e w3 ⟨rfl, hsc, hk⟩
  have T4 := T3.out.next H.out hsc hk
  obtain ⟨z0, z1, z2, z3, z4, z5, z6, z7, zf⟩ := zero_cells T4.res
  have HTL := Lib.hid T4
  clear hsc hk T4
  go_wp2
  refine bodyPost_ret (v := tokV E 57393 t.off K n) (by simp [results, Tryd.results44, go_sem, z0, z1, z2, z3, z4, z5, z6, z7]) rfl ⟨rfl, HTL.out.store (by omega) _ _ _ _ _ _ _ _⟩

set_option maxHeartbeats 4000000 in
set_option maxRecDepth 100000 in
theorem c0_idv (E : Env) (hE : EnvOk E) (t : St) (w : World) (h : Sc E t w) (hcl : t.closed = false) (K : Nat) (hK : t.off ≤ K) 
    (hsp : ∀ i, t.off ≤ i → i < K → E.at i = 32) (hc1 : 118 ≤ E.at K) (hc2 : E.at K ≤ 122) (n : Nat) (hn : 0 < n) (hl : K + n < E.text.length) (hin : ∀ j, K < j → j < K + n → isId (E.at j) = true) (hout : isId (E.at (K + n)) = false) (hd : E.at (K + n) ≠ 36) :
    Calls Tryd.prog 44 #[.pointer (some ⟨E.S, 0, none⟩)] w (Moves E (mv E (tk t K) (K + n)) (tokV E 57393 t.off K n) w) := by
  have l0 := h.lt
  have hlen := hE.len
  have hns : noSep (E.at K) ∧ E.at K ≠ 47 := by unfold noSep; omega
  have b40 : ((E.at K : Int) == 40) = false := by simp; omega
  have b41 : ((E.at K : Int) == 41) = false := by simp; omega
  have b44 : ((E.at K : Int) == 44) = false := by simp; omega
  have b58 : ((E.at K : Int) == 58) = false := by simp; omega
  have b59 : ((E.at K : Int) == 59) = false := by simp; omega
  have b63 : ((E.at K : Int) == 63) = false := by simp; omega
  have b91 : ((E.at K : Int) == 91) = false := by simp; omega
  have b10 : ((E.at K : Int) == 10) = false := by simp; omega
  have b93 : ((E.at K : Int) == 93) = false := by simp; omega
  have b123 : ((E.at K : Int) == 123) = false := by simp; omega
  have b125 : ((E.at K : Int) == 125) = false := by simp; omega
  have b126 : ((E.at K : Int) == 126) = false := by simp; omega
  have b42 : ((E.at K : Int) == 42) = false := by simp; omega
  have b61 : ((E.at K : Int) == 61) = false := by simp; omega
  have b94 : ((E.at K : Int) == 94) = false := by simp; omega
  have b43 : ((E.at K : Int) == 43) = false := by simp; omega
  have b38 : ((E.at K : Int) == 38) = false := by simp; omega
  have b45 : ((E.at K : Int) == 45) = false := by simp; omega
  have b124 : ((E.at K : Int) == 124) = false := by simp; omega
  have b37 : ((E.at K : Int) == 37) = false := by simp; omega
  have b47 : ((E.at K : Int) == 47) = false := by simp; omega
  have b33 : ((E.at K : Int) == 33) = false := by simp; omega
  have b35 : ((E.at K : Int) == 35) = false := by simp; omega
  have b60 : ((E.at K : Int) == 60) = false := by simp; omega
  have b62 : ((E.at K : Int) == 62) = false := by simp; omega
  have b46 : ((E.at K : Int) == 46) = false := by simp; omega
  have b34 : ((E.at K : Int) == 34) = false := by simp; omega
  have b39 : ((E.at K : Int) == 39) = false := by simp; omega
  have b76 : ((E.at K : Int) == 76) = false := by simp; omega
  have b117 : ((E.at K : Int) == 117) = false := by simp; omega
  have bm : ((E.at K : Int) == -1) = false := by simp
  have hal : isAl (E.at K) = true := by unfold isAl; simp; omega
  have hc128 : E.at K < 128 := by omega
  have HA := Lib.hid hal
  have HIN := Lib.hid hin
  have HOUT := Lib.hid hout
  have HD := Lib.hid hd
  have H := Lib.hid h
  have HE := Lib.hid hE
  have HC := Lib.hid hcl
  have HSP := Lib.hid hsp
  have HNS := Lib.hid hns
  clear h hE hcl hsp hns
  clear hal hin hout hd hc1 hc2
  go_enter Tryd.func44, Tryd.ntmps44
  go_wp2_with fail
  refine (scanSep_plain E HE.out t _ (H.out.alloc _) HC.out K hK (by omega) HSP.out HNS.out.1 HNS.out.2).mono ?_
  rintro e w1 ⟨rfl, hsc, hk⟩
  have p5 : w1.cell? ⟨E.S, 5, none⟩ = some (.int .u32 K) := hsc.cell 5
  have p7 : w1.cell? ⟨E.S, 7, none⟩ = some (.int .u32 t.src) := hsc.cell 7
  have pf := hsc.frozen
  have T1 := Lib.hid ((TokAt.start H.out).next H.out hsc hk)
  clear hsc hk
  go_wp2_with fail
  have T2 := Lib.hid (TokAt.setS H.out T1.out 7 (.int .u32 K) (T1.out.sc.set (s' := mv E (tk t K) K) 7 (.int .u32 K) rfl))
  refine (rune_ml E HE.out (tk t K) K _ _ _ T2.out.sc HC.out (by omega)).mono ?_
  rintro e w2 ⟨rfl, hsc, hk⟩
  have T3 := Lib.hid (T2.out.next H.out hsc hk)
  clear hsc hk p5 p7 pf
  go_wp2_with fail
  refine (letter_is true (E.at K) HA.out hc128 _ (T3.out.sc.hG _ hc128)).mono ?_
  rintro e w3 ⟨rfl, rfl⟩
  go_wp2_with fail
  refine (ident_any E HE.out (tk t K) K _ T3.out.sc HC.out (K + n) n rfl (by omega) hl HIN.out HOUT.out HD.out).mono ?_
  rintro e w3 ⟨rfl, hsc, hk⟩
  have T4 := T3.out.next H.out hsc hk
  obtain ⟨z0, z1, z2, z3, z4, z5, z6, z7, zf⟩ := zero_cells T4.res
  have HTL := Lib.hid T4
  clear hsc hk T4
  go_wp2
  refine bodyPost_ret (v := tokV E 57393 t.off K n) (by simp [results, Tryd.results44, go_sem, z0, z1, z2, z3, z4, z5, z6, z7]) rfl ⟨rfl, HTL.out.store (by omega) _ _ _ _ _ _ _ _⟩

set_option maxHeartbeats 4000000 in
set_option maxRecDepth 100000 in
theorem c0_idu (E : Env) (hE : EnvOk E) (t : St) (w : World) (h : Sc E t w) (hcl : t.closed = false) (K : Nat) (hK : t.off ≤ K) 
    (hsp : ∀ i, t.off ≤ i → i < K → E.at i = 32) (hc : E.at K = 95) (n : Nat) (hn : 0 < n) (hl : K + n < E.text.length) (hin : ∀ j, K < j → j < K + n → isId (E.at j) = true) (hout : isId (E.at (K + n)) = false) (hd : E.at (K + n) ≠ 36) :
    Calls Tryd.prog 44 #[.pointer (some ⟨E.S, 0, none⟩)] w (Moves E (mv E (tk t K) (K + n)) (tokV E 57393 t.off K n) w) := by
  have l0 := h.lt
  have hlen := hE.len
  have hns : noSep (E.at K) ∧ E.at K ≠ 47 := by rw [hc]; unfold noSep; decide
  have hci : (E.at K : Int) = 95 := by omega
  have HIN := Lib.hid hin
  have HOUT := Lib.hid hout
  have HD := Lib.hid hd
  have H := Lib.hid h
  have HE := Lib.hid hE
  have HC := Lib.hid hcl
  have HSP := Lib.hid hsp
  have HNS := Lib.hid hns
  have HCI := Lib.hid hci
  clear h hE hcl hsp hns hci hc
  clear hin hout hd
  go_enter Tryd.func44, Tryd.ntmps44
  go_wp2_with fail
  refine (scanSep_plain E HE.out t _ (H.out.alloc _) HC.out K hK (by omega) HSP.out HNS.out.1 HNS.out.2).mono ?_
  rintro e w1 ⟨rfl, hsc, hk⟩
  have p5 : w1.cell? ⟨E.S, 5, none⟩ = some (.int .u32 K) := hsc.cell 5
  have p7 : w1.cell? ⟨E.S, 7, none⟩ = some (.int .u32 t.src) := hsc.cell 7
  have pf := hsc.frozen
  have T1 := Lib.hid ((TokAt.start H.out).next H.out hsc hk)
  clear hsc hk
  go_wp2_with fail
  have T2 := Lib.hid (TokAt.setS H.out T1.out 7 (.int .u32 K) (T1.out.sc.set (s' := mv E (tk t K) K) 7 (.int .u32 K) rfl))
  refine (rune_lit E HE.out (tk t K) K _ _ 95 HCI.out _ T2.out.sc HC.out (by omega)).mono ?_
  rintro e w2 ⟨rfl, hsc, hk⟩
  have T3 := Lib.hid (T2.out.next H.out hsc hk)
  clear hsc hk p5 p7 pf
  go_wp2_with fail
  refine (letter_lit false 95 95 (by decide) (by decide) rfl _ (T3.out.sc.hG _ (by decide))).mono ?_
  rintro e w3 ⟨rfl, rfl⟩
  go_wp2_with fail
  refine (ident_any E HE.out (tk t K) K _ T3.out.sc HC.out (K + n) n rfl (by omega) hl HIN.out HOUT.out HD.out).mono ?_
  rintro e w3 ⟨rfl, hsc, hk⟩
  have T4 := T3.out.next H.out hsc hk
  obtain ⟨z0, z1, z2, z3, z4, z5, z6, z7, zf⟩ := zero_cells T4.res
  have HTL := Lib.hid T4
  clear hsc hk T4
  go_wp2
  refine bodyPost_ret (v := tokV E 57393 t.off K n) (by simp [results, Tryd.results44, go_sem, z0, z1, z2, z3, z4, z5, z6, z7]) rfl ⟨rfl, HTL.out.store (by omega) _ _ _ _ _ _ _ _⟩

set_option maxHeartbeats 4000000 in
set_option maxRecDepth 100000 in
theorem c0_idL (E : Env) (hE : EnvOk E) (t : St) (w : World) (h : Sc E t w) (hcl : t.closed = false) (K : Nat) (hK : t.off ≤ K) 
    (hsp : ∀ i, t.off ≤ i → i < K → E.at i = 32) (hc : E.at K = 76) (n : Nat) (hn : 0 < n) (hl : K + n < E.text.length) (hin : ∀ j, K < j → j < K + n → isId (E.at j) = true) (hout : isId (E.at (K + n)) = false) (hd : E.at (K + n) ≠ 36) (hx : E.at (K + 1) ≠ 39) (hy : E.at (K + 1) ≠ 34) :
    Calls Tryd.prog 44 #[.pointer (some ⟨E.S, 0, none⟩)] w (Moves E (mv E (tk t K) (K + n)) (tokV E 57393 t.off K n) w) := by
  have l0 := h.lt
  have hlen := hE.len
  have hns : noSep (E.at K) ∧ E.at K ≠ 47 := by rw [hc]; unfold noSep; decide
  have hci : (E.at K : Int) = 76 := by omega
  have b39 : ((E.at (K + 1) : Int) == 39) = false := by simp; omega
  have b34 : ((E.at (K + 1) : Int) == 34) = false := by simp; omega
  have HIN := Lib.hid hin
  have HOUT := Lib.hid hout
  have HD := Lib.hid hd
  have H := Lib.hid h
  have HE := Lib.hid hE
  have HC := Lib.hid hcl
  have HSP := Lib.hid hsp
  have HNS := Lib.hid hns
  have HCI := Lib.hid hci
  clear h hE hcl hsp hns hci hc
  clear hin hout hd hx hy
  go_enter Tryd.func44, Tryd.ntmps44
  go_wp2_with fail
  refine (scanSep_plain E HE.out t _ (H.out.alloc _) HC.out K hK (by omega) HSP.out HNS.out.1 HNS.out.2).mono ?_
  rintro e w1 ⟨rfl, hsc, hk⟩
  have p5 : w1.cell? ⟨E.S, 5, none⟩ = some (.int .u32 K) := hsc.cell 5
  have p7 : w1.cell? ⟨E.S, 7, none⟩ = some (.int .u32 t.src) := hsc.cell 7
  have pf := hsc.frozen
  have T1 := Lib.hid ((TokAt.start H.out).next H.out hsc hk)
  clear hsc hk
  go_wp2_with fail
  have T2 := Lib.hid (TokAt.setS H.out T1.out 7 (.int .u32 K) (T1.out.sc.set (s' := mv E (tk t K) K) 7 (.int .u32 K) rfl))
  refine (rune_lit E HE.out (tk t K) K _ _ 76 HCI.out _ T2.out.sc HC.out (by omega)).mono ?_
  rintro e w2 ⟨rfl, hsc, hk⟩
  have T3 := Lib.hid (T2.out.next H.out hsc hk)
  clear hsc hk p5 p7 pf
  go_wp2_with fail
  refine (peek_mv E HE.out (tk t K) K 1 _ T3.out.sc (by omega)).mono ?_
  rintro e w3 ⟨rfl, hsc, hk⟩
  have T4 := Lib.hid (T3.out.next H.out hsc hk)
  clear hsc hk
  go_wp2_with fail
  refine (letter_lit true 76 76 (by decide) (by decide) rfl _ (T4.out.sc.hG _ (by decide))).mono ?_
  rintro e w3 ⟨rfl, rfl⟩
  go_wp2_with fail
  refine (ident_any E HE.out (tk t K) K _ T4.out.sc HC.out (K + n) n rfl (by omega) hl HIN.out HOUT.out HD.out).mono ?_
  rintro e w3 ⟨rfl, hsc, hk⟩
  have T5 := T4.out.next H.out hsc hk
  obtain ⟨z0, z1, z2, z3, z4, z5, z6, z7, zf⟩ := zero_cells T5.res
  have HTL := Lib.hid T5
  clear hsc hk T5
  go_wp2
  refine bodyPost_ret (v := tokV E 57393 t.off K n) (by simp [results, Tryd.results44, go_sem, z0, z1, z2, z3, z4, z5, z6, z7]) rfl ⟨rfl, HTL.out.store (by omega) _ _ _ _ _ _ _ _⟩

set_option maxHeartbeats 4000000 in
set_option maxRecDepth 100000 in
theorem c0_idua (E : Env) (hE : EnvOk E) (t : St) (w : World) (h : Sc E t w) (hcl : t.closed = false) (K : Nat) (hK : t.off ≤ K) 
    (hsp : ∀ i, t.off ≤ i → i < K → E.at i = 32) (hc : E.at K = 117) (n : Nat) (hn : 0 < n) (hl : K + n < E.text.length) (hin : ∀ j, K < j → j < K + n → isId (E.at j) = true) (hout : isId (E.at (K + n)) = false) (hd : E.at (K + n) ≠ 36) (hx : E.at (K + 1) ≠ 56) :
    Calls Tryd.prog 44 #[.pointer (some ⟨E.S, 0, none⟩)] w (Moves E (mv E (tk t K) (K + n)) (tokV E 57393 t.off K n) w) := by
  have l0 := h.lt
  have hlen := hE.len
  have hns : noSep (E.at K) ∧ E.at K ≠ 47 := by rw [hc]; unfold noSep; decide
  have hci : (E.at K : Int) = 117 := by omega
  have b56 : ((E.at (K + 1) : Int) == 56) = false := by simp; omega
  have HIN := Lib.hid hin
  have HOUT := Lib.hid hout
  have HD := Lib.hid hd
  have H := Lib.hid h
  have HE := Lib.hid hE
  have HC := Lib.hid hcl
  have HSP := Lib.hid hsp
  have HNS := Lib.hid hns
  have HCI := Lib.hid hci
  clear h hE hcl hsp hns hci hc
  clear hin hout hd hx
  go_enter Tryd.func44, Tryd.ntmps44
  go_wp2_with fail
  refine (scanSep_plain E HE.out t _ (H.out.alloc _) HC.out K hK (by omega) HSP.out HNS.out.1 HNS.out.2).mono ?_
  rintro e w1 ⟨rfl, hsc, hk⟩
  have p5 : w1.cell? ⟨E.S, 5, none⟩ = some (.int .u32 K) := hsc.cell 5
  have p7 : w1.cell? ⟨E.S, 7, none⟩ = some (.int .u32 t.src) := hsc.cell 7
  have pf := hsc.frozen
  have T1 := Lib.hid ((TokAt.start H.out).next H.out hsc hk)
  clear hsc hk
  go_wp2_with fail
  have T2 := Lib.hid (TokAt.setS H.out T1.out 7 (.int .u32 K) (T1.out.sc.set (s' := mv E (tk t K) K) 7 (.int .u32 K) rfl))
  refine (rune_lit E HE.out (tk t K) K _ _ 117 HCI.out _ T2.out.sc HC.out (by omega)).mono ?_
  rintro e w2 ⟨rfl, hsc, hk⟩
  have T3 := Lib.hid (T2.out.next H.out hsc hk)
  clear hsc hk p5 p7 pf
  go_wp2_with fail
  refine (peek_mv E HE.out (tk t K) K 1 _ T3.out.sc (by omega)).mono ?_
  rintro e w3 ⟨rfl, hsc, hk⟩
  have T4 := Lib.hid (T3.out.next H.out hsc hk)
  clear hsc hk
  go_wp2_with fail
  refine (letter_lit true 117 117 (by decide) (by decide) rfl _ (T4.out.sc.hG _ (by decide))).mono ?_
  rintro e w3 ⟨rfl, rfl⟩
  go_wp2_with fail
  refine (ident_any E HE.out (tk t K) K _ T4.out.sc HC.out (K + n) n rfl (by omega) hl HIN.out HOUT.out HD.out).mono ?_
  rintro e w3 ⟨rfl, hsc, hk⟩
  have T5 := T4.out.next H.out hsc hk
  obtain ⟨z0, z1, z2, z3, z4, z5, z6, z7, zf⟩ := zero_cells T5.res
  have HTL := Lib.hid T5
  clear hsc hk T5
  go_wp2
  refine bodyPost_ret (v := tokV E 57393 t.off K n) (by simp [results, Tryd.results44, go_sem, z0, z1, z2, z3, z4, z5, z6, z7]) rfl ⟨rfl, HTL.out.store (by omega) _ _ _ _ _ _ _ _⟩

set_option maxHeartbeats 4000000 in
set_option maxRecDepth 100000 in
theorem c0_idub (E : Env) (hE : EnvOk E) (t : St) (w : World) (h : Sc E t w) (hcl : t.closed = false) (K : Nat) (hK : t.off ≤ K) 
    (hsp : ∀ i, t.off ≤ i → i < K → E.at i = 32) (hc : E.at K = 117) (n : Nat) (hn : 0 < n) (hl : K + n < E.text.length) (hin : ∀ j, K < j → j < K + n → isId (E.at j) = true) (hout : isId (E.at (K + n)) = false) (hd : E.at (K + n) ≠ 36) (hx : E.at (K + 1) = 56) (hy : E.at (K + 2) ≠ 34) :
    Calls Tryd.prog 44 #[.pointer (some ⟨E.S, 0, none⟩)] w (Moves E (mv E (tk t K) (K + n)) (tokV E 57393 t.off K n) w) := by
  have l0 := h.lt
  have hlen := hE.len
  have hns : noSep (E.at K) ∧ E.at K ≠ 47 := by rw [hc]; unfold noSep; decide
  have hci : (E.at K : Int) = 117 := by omega
  have hxi : (E.at (K + 1) : Int) = 56 := by omega
  have HX := Lib.hid hxi
  have hk2 : K + 2 < E.text.length := by (have h1 : n ≠ 1 := (by intro e; subst e; rw [hx] at hout; exact absurd hout (by decide)); omega)
  have b34 : ((E.at (K + 2) : Int) == 34) = false := by simp; omega
  have HIN := Lib.hid hin
  have HOUT := Lib.hid hout
  have HD := Lib.hid hd
  have H := Lib.hid h
  have HE := Lib.hid hE
  have HC := Lib.hid hcl
  have HSP := Lib.hid hsp
  have HNS := Lib.hid hns
  have HCI := Lib.hid hci
  clear h hE hcl hsp hns hci hc
  clear hin hout hd hx hxi hy
  go_enter Tryd.func44, Tryd.ntmps44
  go_wp2_with fail
  refine (scanSep_plain E HE.out t _ (H.out.alloc _) HC.out K hK (by omega) HSP.out HNS.out.1 HNS.out.2).mono ?_
  rintro e w1 ⟨rfl, hsc, hk⟩
  have p5 : w1.cell? ⟨E.S, 5, none⟩ = some (.int .u32 K) := hsc.cell 5
  have p7 : w1.cell? ⟨E.S, 7, none⟩ = some (.int .u32 t.src) := hsc.cell 7
  have pf := hsc.frozen
  have T1 := Lib.hid ((TokAt.start H.out).next H.out hsc hk)
  clear hsc hk
  go_wp2_with fail
  have T2 := Lib.hid (TokAt.setS H.out T1.out 7 (.int .u32 K) (T1.out.sc.set (s' := mv E (tk t K) K) 7 (.int .u32 K) rfl))
  refine (rune_lit E HE.out (tk t K) K _ _ 117 HCI.out _ T2.out.sc HC.out (by omega)).mono ?_
  rintro e w2 ⟨rfl, hsc, hk⟩
  have T3 := Lib.hid (T2.out.next H.out hsc hk)
  clear hsc hk p5 p7 pf
  go_wp2_with fail
  refine (peek_lit E HE.out (tk t K) K 1 56 HX.out _ T3.out.sc (by omega)).mono ?_
  rintro e w3 ⟨rfl, hsc, hk⟩
  have T4 := Lib.hid (T3.out.next H.out hsc hk)
  clear hsc hk
  go_wp2_with fail
  refine (peek_mv E HE.out (tk t K) K 2 _ T4.out.sc (by omega)).mono ?_
  rintro e w3 ⟨rfl, hsc, hk⟩
  have T5 := Lib.hid (T4.out.next H.out hsc hk)
  clear hsc hk
  go_wp2_with fail
  refine (letter_lit true 117 117 (by decide) (by decide) rfl _ (T5.out.sc.hG _ (by decide))).mono ?_
  rintro e w3 ⟨rfl, rfl⟩
  go_wp2_with fail
  refine (ident_any E HE.out (tk t K) K _ T5.out.sc HC.out (K + n) n rfl (by omega) hl HIN.out HOUT.out HD.out).mono ?_
  rintro e w3 ⟨rfl, hsc, hk⟩
  have T6 := T5.out.next H.out hsc hk
  obtain ⟨z0, z1, z2, z3, z4, z5, z6, z7, zf⟩ := zero_cells T6.res
  have HTL := Lib.hid T6
  clear hsc hk T6
  go_wp2
  refine bodyPost_ret (v := tokV E 57393 t.off K n) (by simp [results, Tryd.results44, go_sem, z0, z1, z2, z3, z4, z5, z6, z7]) rfl ⟨rfl, HTL.out.store (by omega) _ _ _ _ _ _ _ _⟩
end Go.Proofs.YtfooeinfgmfhpaaDoor
