/- The scanner's cppScan0, one way a theorem (printed by a program of mine, wip/gen_c0.py). -/
import Derived.Test.YtfooeinfgmfhpaaDoorScI
namespace Go.Proofs.YtfooeinfgmfhpaaDoor
open Go.RowKit

set_option maxHeartbeats 4000000 in
set_option maxRecDepth 100000 in
theorem c0_40 (E : Env) (hE : EnvOk E) (t : St) (w : World) (h : Sc E t w) (hcl : t.closed = false) (K : Nat) (hK : t.off ≤ K) (hl : K + 1 < E.text.length)
    (hsp : ∀ i, t.off ≤ i → i < K → E.at i = 32) (hc : E.at K = 40) :
    Calls Tryd.prog 44 #[.pointer (some ⟨E.S, 0, none⟩)] w (Moves E (mv E (tk t K) (K + 1)) (tokV E 40 t.off K 1) w) := by
  have l0 := h.lt
  have hlen := hE.len
  have hns : noSep (E.at K) ∧ E.at K ≠ 47 := by rw [hc]; unfold noSep; decide
  have hci : (E.at K : Int) = 40 := by omega
  have H := Lib.hid h
  have HE := Lib.hid hE
  have HC := Lib.hid hcl
  have HSP := Lib.hid hsp
  have HNS := Lib.hid hns
  have HCI := Lib.hid hci
  clear h hE hcl hsp hns hci hc
  go_enter Tryd.func44, Tryd.ntmps44
  go_wp2_with fail
  refine (scanSep_plain E HE.out t _ (H.out.alloc _) HC.out K hK (by omega) HSP.out HNS.out.1 HNS.out.2).mono ?_
  rintro e w1 ⟨rfl, hsc, hk⟩
  have p5 : w1.cell? ⟨E.S, 5, none⟩ = some (.int .u32 K) := hsc.cell 5
  have p7 : w1.cell? ⟨E.S, 7, none⟩ = some (.int .u32 t.src) := hsc.cell 7
  have pf := hsc.frozen
  have T1 := Lib.hid ((TokAt.start H.out).next H.out hsc hk)
  clear hsc hk
  go_wp2_with fail
  have T2 := Lib.hid (TokAt.setS H.out T1.out 7 (.int .u32 K) (T1.out.sc.set (s' := mv E (tk t K) K) 7 (.int .u32 K) rfl))
  refine (rune_lit E HE.out (tk t K) K _ _ 40 HCI.out _ T2.out.sc HC.out (by omega)).mono ?_
  rintro e w2 ⟨rfl, hsc, hk⟩
  have T3 := Lib.hid (T2.out.next H.out hsc hk)
  clear hsc hk p5 p7 pf
  go_wp2_with fail
  refine (shift_mv E HE.out (tk t K) (K) _ T3.out.sc HC.out (by omega)).mono ?_
  rintro e w3 ⟨rfl, hsc, hk⟩
  have T4 := Lib.hid (T3.out.next H.out hsc hk)
  clear hsc hk
  go_wp2_with fail
  refine (newTok_mv E HE.out (tk t K) (K + 1) _ T4.out.sc 40 1 rfl (by omega)).mono ?_
  rintro e w3 ⟨rfl, hsc, hk⟩
  have T5 := T4.out.next H.out hsc hk
  obtain ⟨z0, z1, z2, z3, z4, z5, z6, z7, zf⟩ := zero_cells T5.res
  have HTL := Lib.hid T5
  clear hsc hk T5
  go_wp2
  refine bodyPost_ret (v := tokV E 40 t.off K 1) (by simp [results, Tryd.results44, go_sem, z0, z1, z2, z3, z4, z5, z6, z7]) rfl ⟨rfl, HTL.out.store (by omega) _ _ _ _ _ _ _ _⟩

set_option maxHeartbeats 4000000 in
set_option maxRecDepth 100000 in
theorem c0_41 (E : Env) (hE : EnvOk E) (t : St) (w : World) (h : Sc E t w) (hcl : t.closed = false) (K : Nat) (hK : t.off ≤ K) (hl : K + 1 < E.text.length)
    (hsp : ∀ i, t.off ≤ i → i < K → E.at i = 32) (hc : E.at K = 41) :
    Calls Tryd.prog 44 #[.pointer (some ⟨E.S, 0, none⟩)] w (Moves E (mv E (tk t K) (K + 1)) (tokV E 41 t.off K 1) w) := by
  have l0 := h.lt
  have hlen := hE.len
  have hns : noSep (E.at K) ∧ E.at K ≠ 47 := by rw [hc]; unfold noSep; decide
  have hci : (E.at K : Int) = 41 := by omega
  have H := Lib.hid h
  have HE := Lib.hid hE
  have HC := Lib.hid hcl
  have HSP := Lib.hid hsp
  have HNS := Lib.hid hns
  have HCI := Lib.hid hci
  clear h hE hcl hsp hns hci hc
  go_enter Tryd.func44, Tryd.ntmps44
  go_wp2_with fail
  refine (scanSep_plain E HE.out t _ (H.out.alloc _) HC.out K hK (by omega) HSP.out HNS.out.1 HNS.out.2).mono ?_
  rintro e w1 ⟨rfl, hsc, hk⟩
  have p5 : w1.cell? ⟨E.S, 5, none⟩ = some (.int .u32 K) := hsc.cell 5
  have p7 : w1.cell? ⟨E.S, 7, none⟩ = some (.int .u32 t.src) := hsc.cell 7
  have pf := hsc.frozen
  have T1 := Lib.hid ((TokAt.start H.out).next H.out hsc hk)
  clear hsc hk
  go_wp2_with fail
  have T2 := Lib.hid (TokAt.setS H.out T1.out 7 (.int .u32 K) (T1.out.sc.set (s' := mv E (tk t K) K) 7 (.int .u32 K) rfl))
  refine (rune_lit E HE.out (tk t K) K _ _ 41 HCI.out _ T2.out.sc HC.out (by omega)).mono ?_
  rintro e w2 ⟨rfl, hsc, hk⟩
  have T3 := Lib.hid (T2.out.next H.out hsc hk)
  clear hsc hk p5 p7 pf
  go_wp2_with fail
  refine (shift_mv E HE.out (tk t K) (K) _ T3.out.sc HC.out (by omega)).mono ?_
  rintro e w3 ⟨rfl, hsc, hk⟩
  have T4 := Lib.hid (T3.out.next H.out hsc hk)
  clear hsc hk
  go_wp2_with fail
  refine (newTok_mv E HE.out (tk t K) (K + 1) _ T4.out.sc 41 1 rfl (by omega)).mono ?_
  rintro e w3 ⟨rfl, hsc, hk⟩
  have T5 := T4.out.next H.out hsc hk
  obtain ⟨z0, z1, z2, z3, z4, z5, z6, z7, zf⟩ := zero_cells T5.res
  have HTL := Lib.hid T5
  clear hsc hk T5
  go_wp2
  refine bodyPost_ret (v := tokV E 41 t.off K 1) (by simp [results, Tryd.results44, go_sem, z0, z1, z2, z3, z4, z5, z6, z7]) rfl ⟨rfl, HTL.out.store (by omega) _ _ _ _ _ _ _ _⟩

set_option maxHeartbeats 4000000 in
set_option maxRecDepth 100000 in
theorem c0_44 (E : Env) (hE : EnvOk E) (t : St) (w : World) (h : Sc E t w) (hcl : t.closed = false) (K : Nat) (hK : t.off ≤ K) (hl : K + 1 < E.text.length)
    (hsp : ∀ i, t.off ≤ i → i < K → E.at i = 32) (hc : E.at K = 44) :
    Calls Tryd.prog 44 #[.pointer (some ⟨E.S, 0, none⟩)] w (Moves E (mv E (tk t K) (K + 1)) (tokV E 44 t.off K 1) w) := by
  have l0 := h.lt
  have hlen := hE.len
  have hns : noSep (E.at K) ∧ E.at K ≠ 47 := by rw [hc]; unfold noSep; decide
  have hci : (E.at K : Int) = 44 := by omega
  have H := Lib.hid h
  have HE := Lib.hid hE
  have HC := Lib.hid hcl
  have HSP := Lib.hid hsp
  have HNS := Lib.hid hns
  have HCI := Lib.hid hci
  clear h hE hcl hsp hns hci hc
  go_enter Tryd.func44, Tryd.ntmps44
  go_wp2_with fail
  refine (scanSep_plain E HE.out t _ (H.out.alloc _) HC.out K hK (by omega) HSP.out HNS.out.1 HNS.out.2).mono ?_
  rintro e w1 ⟨rfl, hsc, hk⟩
  have p5 : w1.cell? ⟨E.S, 5, none⟩ = some (.int .u32 K) := hsc.cell 5
  have p7 : w1.cell? ⟨E.S, 7, none⟩ = some (.int .u32 t.src) := hsc.cell 7
  have pf := hsc.frozen
  have T1 := Lib.hid ((TokAt.start H.out).next H.out hsc hk)
  clear hsc hk
  go_wp2_with fail
  have T2 := Lib.hid (TokAt.setS H.out T1.out 7 (.int .u32 K) (T1.out.sc.set (s' := mv E (tk t K) K) 7 (.int .u32 K) rfl))
  refine (rune_lit E HE.out (tk t K) K _ _ 44 HCI.out _ T2.out.sc HC.out (by omega)).mono ?_
  rintro e w2 ⟨rfl, hsc, hk⟩
  have T3 := Lib.hid (T2.out.next H.out hsc hk)
  clear hsc hk p5 p7 pf
  go_wp2_with fail
  refine (shift_mv E HE.out (tk t K) (K) _ T3.out.sc HC.out (by omega)).mono ?_
  rintro e w3 ⟨rfl, hsc, hk⟩
  have T4 := Lib.hid (T3.out.next H.out hsc hk)
  clear hsc hk
  go_wp2_with fail
  refine (newTok_mv E HE.out (tk t K) (K + 1) _ T4.out.sc 44 1 rfl (by omega)).mono ?_
  rintro e w3 ⟨rfl, hsc, hk⟩
  have T5 := T4.out.next H.out hsc hk
  obtain ⟨z0, z1, z2, z3, z4, z5, z6, z7, zf⟩ := zero_cells T5.res
  have HTL := Lib.hid T5
  clear hsc hk T5
  go_wp2
  refine bodyPost_ret (v := tokV E 44 t.off K 1) (by simp [results, Tryd.results44, go_sem, z0, z1, z2, z3, z4, z5, z6, z7]) rfl ⟨rfl, HTL.out.store (by omega) _ _ _ _ _ _ _ _⟩

set_option maxHeartbeats 4000000 in
set_option maxRecDepth 100000 in
theorem c0_58 (E : Env) (hE : EnvOk E) (t : St) (w : World) (h : Sc E t w) (hcl : t.closed = false) (K : Nat) (hK : t.off ≤ K) (hl : K + 1 < E.text.length)
    (hsp : ∀ i, t.off ≤ i → i < K → E.at i = 32) (hc : E.at K = 58) :
    Calls Tryd.prog 44 #[.pointer (some ⟨E.S, 0, none⟩)] w (Moves E (mv E (tk t K) (K + 1)) (tokV E 58 t.off K 1) w) := by
  have l0 := h.lt
  have hlen := hE.len
  have hns : noSep (E.at K) ∧ E.at K ≠ 47 := by rw [hc]; unfold noSep; decide
  have hci : (E.at K : Int) = 58 := by omega
  have H := Lib.hid h
  have HE := Lib.hid hE
  have HC := Lib.hid hcl
  have HSP := Lib.hid hsp
  have HNS := Lib.hid hns
  have HCI := Lib.hid hci
  clear h hE hcl hsp hns hci hc
  go_enter Tryd.func44, Tryd.ntmps44
  go_wp2_with fail
  refine (scanSep_plain E HE.out t _ (H.out.alloc _) HC.out K hK (by omega) HSP.out HNS.out.1 HNS.out.2).mono ?_
  rintro e w1 ⟨rfl, hsc, hk⟩
  have p5 : w1.cell? ⟨E.S, 5, none⟩ = some (.int .u32 K) := hsc.cell 5
  have p7 : w1.cell? ⟨E.S, 7, none⟩ = some (.int .u32 t.src) := hsc.cell 7
  have pf := hsc.frozen
  have T1 := Lib.hid ((TokAt.start H.out).next H.out hsc hk)
  clear hsc hk
  go_wp2_with fail
  have T2 := Lib.hid (TokAt.setS H.out T1.out 7 (.int .u32 K) (T1.out.sc.set (s' := mv E (tk t K) K) 7 (.int .u32 K) rfl))
  refine (rune_lit E HE.out (tk t K) K _ _ 58 HCI.out _ T2.out.sc HC.out (by omega)).mono ?_
  rintro e w2 ⟨rfl, hsc, hk⟩
  have T3 := Lib.hid (T2.out.next H.out hsc hk)
  clear hsc hk p5 p7 pf
  go_wp2_with fail
  refine (shift_mv E HE.out (tk t K) (K) _ T3.out.sc HC.out (by omega)).mono ?_
  rintro e w3 ⟨rfl, hsc, hk⟩
  have T4 := Lib.hid (T3.out.next H.out hsc hk)
  clear hsc hk
  go_wp2_with fail
  refine (newTok_mv E HE.out (tk t K) (K + 1) _ T4.out.sc 58 1 rfl (by omega)).mono ?_
  rintro e w3 ⟨rfl, hsc, hk⟩
  have T5 := T4.out.next H.out hsc hk
  obtain ⟨z0, z1, z2, z3, z4, z5, z6, z7, zf⟩ := zero_cells T5.res
  have HTL := Lib.hid T5
  clear hsc hk T5
  go_wp2
  refine bodyPost_ret (v := tokV E 58 t.off K 1) (by simp [results, Tryd.results44, go_sem, z0, z1, z2, z3, z4, z5, z6, z7]) rfl ⟨rfl, HTL.out.store (by omega) _ _ _ _ _ _ _ _⟩

set_option maxHeartbeats 4000000 in
set_option maxRecDepth 100000 in
theorem c0_59 (E : Env) (hE : EnvOk E) (t : St) (w : World) (h : Sc E t w) (hcl : t.closed = false) (K : Nat) (hK : t.off ≤ K) (hl : K + 1 < E.text.length)
    (hsp : ∀ i, t.off ≤ i → i < K → E.at i = 32) (hc : E.at K = 59) :
    Calls Tryd.prog 44 #[.pointer (some ⟨E.S, 0, none⟩)] w (Moves E (mv E (tk t K) (K + 1)) (tokV E 59 t.off K 1) w) := by
  have l0 := h.lt
  have hlen := hE.len
  have hns : noSep (E.at K) ∧ E.at K ≠ 47 := by rw [hc]; unfold noSep; decide
  have hci : (E.at K : Int) = 59 := by omega
  have H := Lib.hid h
  have HE := Lib.hid hE
  have HC := Lib.hid hcl
  have HSP := Lib.hid hsp
  have HNS := Lib.hid hns
  have HCI := Lib.hid hci
  clear h hE hcl hsp hns hci hc
  go_enter Tryd.func44, Tryd.ntmps44
  go_wp2_with fail
  refine (scanSep_plain E HE.out t _ (H.out.alloc _) HC.out K hK (by omega) HSP.out HNS.out.1 HNS.out.2).mono ?_
  rintro e w1 ⟨rfl, hsc, hk⟩
  have p5 : w1.cell? ⟨E.S, 5, none⟩ = some (.int .u32 K) := hsc.cell 5
  have p7 : w1.cell? ⟨E.S, 7, none⟩ = some (.int .u32 t.src) := hsc.cell 7
  have pf := hsc.frozen
  have T1 := Lib.hid ((TokAt.start H.out).next H.out hsc hk)
  clear hsc hk
  go_wp2_with fail
  have T2 := Lib.hid (TokAt.setS H.out T1.out 7 (.int .u32 K) (T1.out.sc.set (s' := mv E (tk t K) K) 7 (.int .u32 K) rfl))
  refine (rune_lit E HE.out (tk t K) K _ _ 59 HCI.out _ T2.out.sc HC.out (by omega)).mono ?_
  rintro e w2 ⟨rfl, hsc, hk⟩
  have T3 := Lib.hid (T2.out.next H.out hsc hk)
  clear hsc hk p5 p7 pf
  go_wp2_with fail
  refine (shift_mv E HE.out (tk t K) (K) _ T3.out.sc HC.out (by omega)).mono ?_
  rintro e w3 ⟨rfl, hsc, hk⟩
  have T4 := Lib.hid (T3.out.next H.out hsc hk)
  clear hsc hk
  go_wp2_with fail
  refine (newTok_mv E HE.out (tk t K) (K + 1) _ T4.out.sc 59 1 rfl (by omega)).mono ?_
  rintro e w3 ⟨rfl, hsc, hk⟩
  have T5 := T4.out.next H.out hsc hk
  obtain ⟨z0, z1, z2, z3, z4, z5, z6, z7, zf⟩ := zero_cells T5.res
  have HTL := Lib.hid T5
  clear hsc hk T5
  go_wp2
  refine bodyPost_ret (v := tokV E 59 t.off K 1) (by simp [results, Tryd.results44, go_sem, z0, z1, z2, z3, z4, z5, z6, z7]) rfl ⟨rfl, HTL.out.store (by omega) _ _ _ _ _ _ _ _⟩

set_option maxHeartbeats 4000000 in
set_option maxRecDepth 100000 in
theorem c0_63 (E : Env) (hE : EnvOk E) (t : St) (w : World) (h : Sc E t w) (hcl : t.closed = false) (K : Nat) (hK : t.off ≤ K) (hl : K + 1 < E.text.length)
    (hsp : ∀ i, t.off ≤ i → i < K → E.at i = 32) (hc : E.at K = 63) :
    Calls Tryd.prog 44 #[.pointer (some ⟨E.S, 0, none⟩)] w (Moves E (mv E (tk t K) (K + 1)) (tokV E 63 t.off K 1) w) := by
  have l0 := h.lt
  have hlen := hE.len
  have hns : noSep (E.at K) ∧ E.at K ≠ 47 := by rw [hc]; unfold noSep; decide
  have hci : (E.at K : Int) = 63 := by omega
  have H := Lib.hid h
  have HE := Lib.hid hE
  have HC := Lib.hid hcl
  have HSP := Lib.hid hsp
  have HNS := Lib.hid hns
  have HCI := Lib.hid hci
  clear h hE hcl hsp hns hci hc
  go_enter Tryd.func44, Tryd.ntmps44
  go_wp2_with fail
  refine (scanSep_plain E HE.out t _ (H.out.alloc _) HC.out K hK (by omega) HSP.out HNS.out.1 HNS.out.2).mono ?_
  rintro e w1 ⟨rfl, hsc, hk⟩
  have p5 : w1.cell? ⟨E.S, 5, none⟩ = some (.int .u32 K) := hsc.cell 5
  have p7 : w1.cell? ⟨E.S, 7, none⟩ = some (.int .u32 t.src) := hsc.cell 7
  have pf := hsc.frozen
  have T1 := Lib.hid ((TokAt.start H.out).next H.out hsc hk)
  clear hsc hk
  go_wp2_with fail
  have T2 := Lib.hid (TokAt.setS H.out T1.out 7 (.int .u32 K) (T1.out.sc.set (s' := mv E (tk t K) K) 7 (.int .u32 K) rfl))
  refine (rune_lit E HE.out (tk t K) K _ _ 63 HCI.out _ T2.out.sc HC.out (by omega)).mono ?_
  rintro e w2 ⟨rfl, hsc, hk⟩
  have T3 := Lib.hid (T2.out.next H.out hsc hk)
  clear hsc hk p5 p7 pf
  go_wp2_with fail
  refine (shift_mv E HE.out (tk t K) (K) _ T3.out.sc HC.out (by omega)).mono ?_
  rintro e w3 ⟨rfl, hsc, hk⟩
  have T4 := Lib.hid (T3.out.next H.out hsc hk)
  clear hsc hk
  go_wp2_with fail
  refine (newTok_mv E HE.out (tk t K) (K + 1) _ T4.out.sc 63 1 rfl (by omega)).mono ?_
  rintro e w3 ⟨rfl, hsc, hk⟩
  have T5 := T4.out.next H.out hsc hk
  obtain ⟨z0, z1, z2, z3, z4, z5, z6, z7, zf⟩ := zero_cells T5.res
  have HTL := Lib.hid T5
  clear hsc hk T5
  go_wp2
  refine bodyPost_ret (v := tokV E 63 t.off K 1) (by simp [results, Tryd.results44, go_sem, z0, z1, z2, z3, z4, z5, z6, z7]) rfl ⟨rfl, HTL.out.store (by omega) _ _ _ _ _ _ _ _⟩

set_option maxHeartbeats 4000000 in
set_option maxRecDepth 100000 in
theorem c0_91 (E : Env) (hE : EnvOk E) (t : St) (w : World) (h : Sc E t w) (hcl : t.closed = false) (K : Nat) (hK : t.off ≤ K) (hl : K + 1 < E.text.length)
    (hsp : ∀ i, t.off ≤ i → i < K → E.at i = 32) (hc : E.at K = 91) :
    Calls Tryd.prog 44 #[.pointer (some ⟨E.S, 0, none⟩)] w (Moves E (mv E (tk t K) (K + 1)) (tokV E 91 t.off K 1) w) := by
  have l0 := h.lt
  have hlen := hE.len
  have hns : noSep (E.at K) ∧ E.at K ≠ 47 := by rw [hc]; unfold noSep; decide
  have hci : (E.at K : Int) = 91 := by omega
  have H := Lib.hid h
  have HE := Lib.hid hE
  have HC := Lib.hid hcl
  have HSP := Lib.hid hsp
  have HNS := Lib.hid hns
  have HCI := Lib.hid hci
  clear h hE hcl hsp hns hci hc
  go_enter Tryd.func44, Tryd.ntmps44
  go_wp2_with fail
  refine (scanSep_plain E HE.out t _ (H.out.alloc _) HC.out K hK (by omega) HSP.out HNS.out.1 HNS.out.2).mono ?_
  rintro e w1 ⟨rfl, hsc, hk⟩
  have p5 : w1.cell? ⟨E.S, 5, none⟩ = some (.int .u32 K) := hsc.cell 5
  have p7 : w1.cell? ⟨E.S, 7, none⟩ = some (.int .u32 t.src) := hsc.cell 7
  have pf := hsc.frozen
  have T1 := Lib.hid ((TokAt.start H.out).next H.out hsc hk)
  clear hsc hk
  go_wp2_with fail
  have T2 := Lib.hid (TokAt.setS H.out T1.out 7 (.int .u32 K) (T1.out.sc.set (s' := mv E (tk t K) K) 7 (.int .u32 K) rfl))
  refine (rune_lit E HE.out (tk t K) K _ _ 91 HCI.out _ T2.out.sc HC.out (by omega)).mono ?_
  rintro e w2 ⟨rfl, hsc, hk⟩
  have T3 := Lib.hid (T2.out.next H.out hsc hk)
  clear hsc hk p5 p7 pf
  go_wp2_with fail
  refine (shift_mv E HE.out (tk t K) (K) _ T3.out.sc HC.out (by omega)).mono ?_
  rintro e w3 ⟨rfl, hsc, hk⟩
  have T4 := Lib.hid (T3.out.next H.out hsc hk)
  clear hsc hk
  go_wp2_with fail
  refine (newTok_mv E HE.out (tk t K) (K + 1) _ T4.out.sc 91 1 rfl (by omega)).mono ?_
  rintro e w3 ⟨rfl, hsc, hk⟩
  have T5 := T4.out.next H.out hsc hk
  obtain ⟨z0, z1, z2, z3, z4, z5, z6, z7, zf⟩ := zero_cells T5.res
  have HTL := Lib.hid T5
  clear hsc hk T5
  go_wp2
  refine bodyPost_ret (v := tokV E 91 t.off K 1) (by simp [results, Tryd.results44, go_sem, z0, z1, z2, z3, z4, z5, z6, z7]) rfl ⟨rfl, HTL.out.store (by omega) _ _ _ _ _ _ _ _⟩

set_option maxHeartbeats 4000000 in
set_option maxRecDepth 100000 in
theorem c0_10 (E : Env) (hE : EnvOk E) (t : St) (w : World) (h : Sc E t w) (hcl : t.closed = false) (K : Nat) (hK : t.off ≤ K) (hl : K + 1 < E.text.length)
    (hsp : ∀ i, t.off ≤ i → i < K → E.at i = 32) (hc : E.at K = 10) :
    Calls Tryd.prog 44 #[.pointer (some ⟨E.S, 0, none⟩)] w (Moves E (mv E (tk t K) (K + 1)) (tokV E 10 t.off K 1) w) := by
  have l0 := h.lt
  have hlen := hE.len
  have hns : noSep (E.at K) ∧ E.at K ≠ 47 := by rw [hc]; unfold noSep; decide
  have hci : (E.at K : Int) = 10 := by omega
  have H := Lib.hid h
  have HE := Lib.hid hE
  have HC := Lib.hid hcl
  have HSP := Lib.hid hsp
  have HNS := Lib.hid hns
  have HCI := Lib.hid hci
  clear h hE hcl hsp hns hci hc
  go_enter Tryd.func44, Tryd.ntmps44
  go_wp2_with fail
  refine (scanSep_plain E HE.out t _ (H.out.alloc _) HC.out K hK (by omega) HSP.out HNS.out.1 HNS.out.2).mono ?_
  rintro e w1 ⟨rfl, hsc, hk⟩
  have p5 : w1.cell? ⟨E.S, 5, none⟩ = some (.int .u32 K) := hsc.cell 5
  have p7 : w1.cell? ⟨E.S, 7, none⟩ = some (.int .u32 t.src) := hsc.cell 7
  have pf := hsc.frozen
  have T1 := Lib.hid ((TokAt.start H.out).next H.out hsc hk)
  clear hsc hk
  go_wp2_with fail
  have T2 := Lib.hid (TokAt.setS H.out T1.out 7 (.int .u32 K) (T1.out.sc.set (s' := mv E (tk t K) K) 7 (.int .u32 K) rfl))
  refine (rune_lit E HE.out (tk t K) K _ _ 10 HCI.out _ T2.out.sc HC.out (by omega)).mono ?_
  rintro e w2 ⟨rfl, hsc, hk⟩
  have T3 := Lib.hid (T2.out.next H.out hsc hk)
  clear hsc hk p5 p7 pf
  go_wp2_with fail
  refine (shift_mv E HE.out (tk t K) (K) _ T3.out.sc HC.out (by omega)).mono ?_
  rintro e w3 ⟨rfl, hsc, hk⟩
  have T4 := Lib.hid (T3.out.next H.out hsc hk)
  clear hsc hk
  go_wp2_with fail
  refine (newTok_mv E HE.out (tk t K) (K + 1) _ T4.out.sc 10 1 rfl (by omega)).mono ?_
  rintro e w3 ⟨rfl, hsc, hk⟩
  have T5 := T4.out.next H.out hsc hk
  obtain ⟨z0, z1, z2, z3, z4, z5, z6, z7, zf⟩ := zero_cells T5.res
  have HTL := Lib.hid T5
  clear hsc hk T5
  go_wp2
  refine bodyPost_ret (v := tokV E 10 t.off K 1) (by simp [results, Tryd.results44, go_sem, z0, z1, z2, z3, z4, z5, z6, z7]) rfl ⟨rfl, HTL.out.store (by omega) _ _ _ _ _ _ _ _⟩

set_option maxHeartbeats 4000000 in
set_option maxRecDepth 100000 in
theorem c0_93 (E : Env) (hE : EnvOk E) (t : St) (w : World) (h : Sc E t w) (hcl : t.closed = false) (K : Nat) (hK : t.off ≤ K) (hl : K + 1 < E.text.length)
    (hsp : ∀ i, t.off ≤ i → i < K → E.at i = 32) (hc : E.at K = 93) :
    Calls Tryd.prog 44 #[.pointer (some ⟨E.S, 0, none⟩)] w (Moves E (mv E (tk t K) (K + 1)) (tokV E 93 t.off K 1) w) := by
  have l0 := h.lt
  have hlen := hE.len
  have hns : noSep (E.at K) ∧ E.at K ≠ 47 := by rw [hc]; unfold noSep; decide
  have hci : (E.at K : Int) = 93 := by omega
  have H := Lib.hid h
  have HE := Lib.hid hE
  have HC := Lib.hid hcl
  have HSP := Lib.hid hsp
  have HNS := Lib.hid hns
  have HCI := Lib.hid hci
  clear h hE hcl hsp hns hci hc
  go_enter Tryd.func44, Tryd.ntmps44
  go_wp2_with fail
  refine (scanSep_plain E HE.out t _ (H.out.alloc _) HC.out K hK (by omega) HSP.out HNS.out.1 HNS.out.2).mono ?_
  rintro e w1 ⟨rfl, hsc, hk⟩
  have p5 : w1.cell? ⟨E.S, 5, none⟩ = some (.int .u32 K) := hsc.cell 5
  have p7 : w1.cell? ⟨E.S, 7, none⟩ = some (.int .u32 t.src) := hsc.cell 7
  have pf := hsc.frozen
  have T1 := Lib.hid ((TokAt.start H.out).next H.out hsc hk)
  clear hsc hk
  go_wp2_with fail
  have T2 := Lib.hid (TokAt.setS H.out T1.out 7 (.int .u32 K) (T1.out.sc.set (s' := mv E (tk t K) K) 7 (.int .u32 K) rfl))
  refine (rune_lit E HE.out (tk t K) K _ _ 93 HCI.out _ T2.out.sc HC.out (by omega)).mono ?_
  rintro e w2 ⟨rfl, hsc, hk⟩
  have T3 := Lib.hid (T2.out.next H.out hsc hk)
  clear hsc hk p5 p7 pf
  go_wp2_with fail
  refine (shift_mv E HE.out (tk t K) (K) _ T3.out.sc HC.out (by omega)).mono ?_
  rintro e w3 ⟨rfl, hsc, hk⟩
  have T4 := Lib.hid (T3.out.next H.out hsc hk)
  clear hsc hk
  go_wp2_with fail
  refine (newTok_mv E HE.out (tk t K) (K + 1) _ T4.out.sc 93 1 rfl (by omega)).mono ?_
  rintro e w3 ⟨rfl, hsc, hk⟩
  have T5 := T4.out.next H.out hsc hk
  obtain ⟨z0, z1, z2, z3, z4, z5, z6, z7, zf⟩ := zero_cells T5.res
  have HTL := Lib.hid T5
  clear hsc hk T5
  go_wp2
  refine bodyPost_ret (v := tokV E 93 t.off K 1) (by simp [results, Tryd.results44, go_sem, z0, z1, z2, z3, z4, z5, z6, z7]) rfl ⟨rfl, HTL.out.store (by omega) _ _ _ _ _ _ _ _⟩

set_option maxHeartbeats 4000000 in
set_option maxRecDepth 100000 in
theorem c0_123 (E : Env) (hE : EnvOk E) (t : St) (w : World) (h : Sc E t w) (hcl : t.closed = false) (K : Nat) (hK : t.off ≤ K) (hl : K + 1 < E.text.length)
    (hsp : ∀ i, t.off ≤ i → i < K → E.at i = 32) (hc : E.at K = 123) :
    Calls Tryd.prog 44 #[.pointer (some ⟨E.S, 0, none⟩)] w (Moves E (mv E (tk t K) (K + 1)) (tokV E 123 t.off K 1) w) := by
  have l0 := h.lt
  have hlen := hE.len
  have hns : noSep (E.at K) ∧ E.at K ≠ 47 := by rw [hc]; unfold noSep; decide
  have hci : (E.at K : Int) = 123 := by omega
  have H := Lib.hid h
  have HE := Lib.hid hE
  have HC := Lib.hid hcl
  have HSP := Lib.hid hsp
  have HNS := Lib.hid hns
  have HCI := Lib.hid hci
  clear h hE hcl hsp hns hci hc
  go_enter Tryd.func44, Tryd.ntmps44
  go_wp2_with fail
  refine (scanSep_plain E HE.out t _ (H.out.alloc _) HC.out K hK (by omega) HSP.out HNS.out.1 HNS.out.2).mono ?_
  rintro e w1 ⟨rfl, hsc, hk⟩
  have p5 : w1.cell? ⟨E.S, 5, none⟩ = some (.int .u32 K) := hsc.cell 5
  have p7 : w1.cell? ⟨E.S, 7, none⟩ = some (.int .u32 t.src) := hsc.cell 7
  have pf := hsc.frozen
  have T1 := Lib.hid ((TokAt.start H.out).next H.out hsc hk)
  clear hsc hk
  go_wp2_with fail
  have T2 := Lib.hid (TokAt.setS H.out T1.out 7 (.int .u32 K) (T1.out.sc.set (s' := mv E (tk t K) K) 7 (.int .u32 K) rfl))
  refine (rune_lit E HE.out (tk t K) K _ _ 123 HCI.out _ T2.out.sc HC.out (by omega)).mono ?_
  rintro e w2 ⟨rfl, hsc, hk⟩
  have T3 := Lib.hid (T2.out.next H.out hsc hk)
  clear hsc hk p5 p7 pf
  go_wp2_with fail
  refine (shift_mv E HE.out (tk t K) (K) _ T3.out.sc HC.out (by omega)).mono ?_
  rintro e w3 ⟨rfl, hsc, hk⟩
  have T4 := Lib.hid (T3.out.next H.out hsc hk)
  clear hsc hk
  go_wp2_with fail
  refine (newTok_mv E HE.out (tk t K) (K + 1) _ T4.out.sc 123 1 rfl (by omega)).mono ?_
  rintro e w3 ⟨rfl, hsc, hk⟩
  have T5 := T4.out.next H.out hsc hk
  obtain ⟨z0, z1, z2, z3, z4, z5, z6, z7, zf⟩ := zero_cells T5.res
  have HTL := Lib.hid T5
  clear hsc hk T5
  go_wp2
  refine bodyPost_ret (v := tokV E 123 t.off K 1) (by simp [results, Tryd.results44, go_sem, z0, z1, z2, z3, z4, z5, z6, z7]) rfl ⟨rfl, HTL.out.store (by omega) _ _ _ _ _ _ _ _⟩

set_option maxHeartbeats 4000000 in
set_option maxRecDepth 100000 in
theorem c0_125 (E : Env) (hE : EnvOk E) (t : St) (w : World) (h : Sc E t w) (hcl : t.closed = false) (K : Nat) (hK : t.off ≤ K) (hl : K + 1 < E.text.length)
    (hsp : ∀ i, t.off ≤ i → i < K → E.at i = 32) (hc : E.at K = 125) :
    Calls Tryd.prog 44 #[.pointer (some ⟨E.S, 0, none⟩)] w (Moves E (mv E (tk t K) (K + 1)) (tokV E 125 t.off K 1) w) := by
  have l0 := h.lt
  have hlen := hE.len
  have hns : noSep (E.at K) ∧ E.at K ≠ 47 := by rw [hc]; unfold noSep; decide
  have hci : (E.at K : Int) = 125 := by omega
  have H := Lib.hid h
  have HE := Lib.hid hE
  have HC := Lib.hid hcl
  have HSP := Lib.hid hsp
  have HNS := Lib.hid hns
  have HCI := Lib.hid hci
  clear h hE hcl hsp hns hci hc
  go_enter Tryd.func44, Tryd.ntmps44
  go_wp2_with fail
  refine (scanSep_plain E HE.out t _ (H.out.alloc _) HC.out K hK (by omega) HSP.out HNS.out.1 HNS.out.2).mono ?_
  rintro e w1 ⟨rfl, hsc, hk⟩
  have p5 : w1.cell? ⟨E.S, 5, none⟩ = some (.int .u32 K) := hsc.cell 5
  have p7 : w1.cell? ⟨E.S, 7, none⟩ = some (.int .u32 t.src) := hsc.cell 7
  have pf := hsc.frozen
  have T1 := Lib.hid ((TokAt.start H.out).next H.out hsc hk)
  clear hsc hk
  go_wp2_with fail
  have T2 := Lib.hid (TokAt.setS H.out T1.out 7 (.int .u32 K) (T1.out.sc.set (s' := mv E (tk t K) K) 7 (.int .u32 K) rfl))
  refine (rune_lit E HE.out (tk t K) K _ _ 125 HCI.out _ T2.out.sc HC.out (by omega)).mono ?_
  rintro e w2 ⟨rfl, hsc, hk⟩
  have T3 := Lib.hid (T2.out.next H.out hsc hk)
  clear hsc hk p5 p7 pf
  go_wp2_with fail
  refine (shift_mv E HE.out (tk t K) (K) _ T3.out.sc HC.out (by omega)).mono ?_
  rintro e w3 ⟨rfl, hsc, hk⟩
  have T4 := Lib.hid (T3.out.next H.out hsc hk)
  clear hsc hk
  go_wp2_with fail
  refine (newTok_mv E HE.out (tk t K) (K + 1) _ T4.out.sc 125 1 rfl (by omega)).mono ?_
  rintro e w3 ⟨rfl, hsc, hk⟩
  have T5 := T4.out.next H.out hsc hk
  obtain ⟨z0, z1, z2, z3, z4, z5, z6, z7, zf⟩ := zero_cells T5.res
  have HTL := Lib.hid T5
  clear hsc hk T5
  go_wp2
  refine bodyPost_ret (v := tokV E 125 t.off K 1) (by simp [results, Tryd.results44, go_sem, z0, z1, z2, z3, z4, z5, z6, z7]) rfl ⟨rfl, HTL.out.store (by omega) _ _ _ _ _ _ _ _⟩

set_option maxHeartbeats 4000000 in
set_option maxRecDepth 100000 in
theorem c0_126 (E : Env) (hE : EnvOk E) (t : St) (w : World) (h : Sc E t w) (hcl : t.closed = false) (K : Nat) (hK : t.off ≤ K) (hl : K + 1 < E.text.length)
    (hsp : ∀ i, t.off ≤ i → i < K → E.at i = 32) (hc : E.at K = 126) :
    Calls Tryd.prog 44 #[.pointer (some ⟨E.S, 0, none⟩)] w (Moves E (mv E (tk t K) (K + 1)) (tokV E 126 t.off K 1) w) := by
  have l0 := h.lt
  have hlen := hE.len
  have hns : noSep (E.at K) ∧ E.at K ≠ 47 := by rw [hc]; unfold noSep; decide
  have hci : (E.at K : Int) = 126 := by omega
  have H := Lib.hid h
  have HE := Lib.hid hE
  have HC := Lib.hid hcl
  have HSP := Lib.hid hsp
  have HNS := Lib.hid hns
  have HCI := Lib.hid hci
  clear h hE hcl hsp hns hci hc
  go_enter Tryd.func44, Tryd.ntmps44
  go_wp2_with fail
  refine (scanSep_plain E HE.out t _ (H.out.alloc _) HC.out K hK (by omega) HSP.out HNS.out.1 HNS.out.2).mono ?_
  rintro e w1 ⟨rfl, hsc, hk⟩
  have p5 : w1.cell? ⟨E.S, 5, none⟩ = some (.int .u32 K) := hsc.cell 5
  have p7 : w1.cell? ⟨E.S, 7, none⟩ = some (.int .u32 t.src) := hsc.cell 7
  have pf := hsc.frozen
  have T1 := Lib.hid ((TokAt.start H.out).next H.out hsc hk)
  clear hsc hk
  go_wp2_with fail
  have T2 := Lib.hid (TokAt.setS H.out T1.out 7 (.int .u32 K) (T1.out.sc.set (s' := mv E (tk t K) K) 7 (.int .u32 K) rfl))
  refine (rune_lit E HE.out (tk t K) K _ _ 126 HCI.out _ T2.out.sc HC.out (by omega)).mono ?_
  rintro e w2 ⟨rfl, hsc, hk⟩
  have T3 := Lib.hid (T2.out.next H.out hsc hk)
  clear hsc hk p5 p7 pf
  go_wp2_with fail
  refine (shift_mv E HE.out (tk t K) (K) _ T3.out.sc HC.out (by omega)).mono ?_
  rintro e w3 ⟨rfl, hsc, hk⟩
  have T4 := Lib.hid (T3.out.next H.out hsc hk)
  clear hsc hk
  go_wp2_with fail
  refine (newTok_mv E HE.out (tk t K) (K + 1) _ T4.out.sc 126 1 rfl (by omega)).mono ?_
  rintro e w3 ⟨rfl, hsc, hk⟩
  have T5 := T4.out.next H.out hsc hk
  obtain ⟨z0, z1, z2, z3, z4, z5, z6, z7, zf⟩ := zero_cells T5.res
  have HTL := Lib.hid T5
  clear hsc hk T5
  go_wp2
  refine bodyPost_ret (v := tokV E 126 t.off K 1) (by simp [results, Tryd.results44, go_sem, z0, z1, z2, z3, z4, z5, z6, z7]) rfl ⟨rfl, HTL.out.store (by omega) _ _ _ _ _ _ _ _⟩

set_option maxHeartbeats 4000000 in
set_option maxRecDepth 100000 in
theorem c0_10e (E : Env) (hE : EnvOk E) (t : St) (w : World) (h : Sc E t w) (hcl : t.closed = false) (K : Nat) (hK : t.off ≤ K) (hl : K + 1 = E.text.length)
    (hsp : ∀ i, t.off ≤ i → i < K → E.at i = 32) (hc : E.at K = 10) :
    Calls Tryd.prog 44 #[.pointer (some ⟨E.S, 0, none⟩)] w (Moves E ({ ml (tk t K) (K + 1) (-1) 1 with closed := true }) (tokV E 10 t.off K 1) w) := by
  have l0 := h.lt
  have hlen := hE.len
  have hns : noSep (E.at K) ∧ E.at K ≠ 47 := by rw [hc]; unfold noSep; decide
  have hci : (E.at K : Int) = 10 := by omega
  have HL := Lib.hid hl
  have hlt : K < E.text.length := by omega
  have H := Lib.hid h
  have HE := Lib.hid hE
  have HC := Lib.hid hcl
  have HSP := Lib.hid hsp
  have HNS := Lib.hid hns
  have HCI := Lib.hid hci
  clear h hE hcl hsp hns hci hc
  clear hl
  go_enter Tryd.func44, Tryd.ntmps44
  go_wp2_with fail
  refine (scanSep_plain E HE.out t _ (H.out.alloc _) HC.out K hK (by omega) HSP.out HNS.out.1 HNS.out.2).mono ?_
  rintro e w1 ⟨rfl, hsc, hk⟩
  have p5 : w1.cell? ⟨E.S, 5, none⟩ = some (.int .u32 K) := hsc.cell 5
  have p7 : w1.cell? ⟨E.S, 7, none⟩ = some (.int .u32 t.src) := hsc.cell 7
  have pf := hsc.frozen
  have T1 := Lib.hid ((TokAt.start H.out).next H.out hsc hk)
  clear hsc hk
  go_wp2_with fail
  have T2 := Lib.hid (TokAt.setS H.out T1.out 7 (.int .u32 K) (T1.out.sc.set (s' := mv E (tk t K) K) 7 (.int .u32 K) rfl))
  refine (rune_lit E HE.out (tk t K) K _ _ 10 HCI.out _ T2.out.sc HC.out (by omega)).mono ?_
  rintro e w2 ⟨rfl, hsc, hk⟩
  have T3 := Lib.hid (T2.out.next H.out hsc hk)
  clear hsc hk p5 p7 pf
  go_wp2_with fail
  refine (shift_end_mv E HE.out (tk t K) K _ T3.out.sc HC.out HL.out).mono ?_
  rintro e w3 ⟨rfl, hsc, hk⟩
  have T4 := Lib.hid (T3.out.next H.out hsc hk)
  clear hsc hk
  go_wp2_with fail
  refine (newTok_end E HE.out (tk t K) (K + 1) _ T4.out.sc 10 1 rfl (Nat.le_of_eq HL.out)).mono ?_
  rintro e w3 ⟨rfl, hsc, hk⟩
  have T5 := T4.out.next H.out hsc hk
  obtain ⟨z0, z1, z2, z3, z4, z5, z6, z7, zf⟩ := zero_cells T5.res
  have HTL := Lib.hid T5
  clear hsc hk T5
  go_wp2
  refine bodyPost_ret (v := tokV E 10 t.off K 1) (by simp [results, Tryd.results44, go_sem, z0, z1, z2, z3, z4, z5, z6, z7]) rfl ⟨rfl, HTL.out.store (by omega) _ _ _ _ _ _ _ _⟩

set_option maxHeartbeats 4000000 in
set_option maxRecDepth 100000 in
theorem c0_42a (E : Env) (hE : EnvOk E) (t : St) (w : World) (h : Sc E t w) (hcl : t.closed = false) (K : Nat) (hK : t.off ≤ K) (hl : K + 1 < E.text.length)
    (hsp : ∀ i, t.off ≤ i → i < K → E.at i = 32) (hc : E.at K = 42) (hx : E.at (K + 1) ≠ 61) :
    Calls Tryd.prog 44 #[.pointer (some ⟨E.S, 0, none⟩)] w (Moves E (mv E (tk t K) (K + 1)) (tokV E 42 t.off K 1) w) := by
  have l0 := h.lt
  have hlen := hE.len
  have hns : noSep (E.at K) ∧ E.at K ≠ 47 := by rw [hc]; unfold noSep; decide
  have hci : (E.at K : Int) = 42 := by omega
  have b61 : ((E.at (K + 1) : Int) == 61) = false := by simp; omega
  have H := Lib.hid h
  have HE := Lib.hid hE
  have HC := Lib.hid hcl
  have HSP := Lib.hid hsp
  have HNS := Lib.hid hns
  have HCI := Lib.hid hci
  clear h hE hcl hsp hns hci hc
  clear hx
  go_enter Tryd.func44, Tryd.ntmps44
  go_wp2_with fail
  refine (scanSep_plain E HE.out t _ (H.out.alloc _) HC.out K hK (by omega) HSP.out HNS.out.1 HNS.out.2).mono ?_
  rintro e w1 ⟨rfl, hsc, hk⟩
  have p5 : w1.cell? ⟨E.S, 5, none⟩ = some (.int .u32 K) := hsc.cell 5
  have p7 : w1.cell? ⟨E.S, 7, none⟩ = some (.int .u32 t.src) := hsc.cell 7
  have pf := hsc.frozen
  have T1 := Lib.hid ((TokAt.start H.out).next H.out hsc hk)
  clear hsc hk
  go_wp2_with fail
  have T2 := Lib.hid (TokAt.setS H.out T1.out 7 (.int .u32 K) (T1.out.sc.set (s' := mv E (tk t K) K) 7 (.int .u32 K) rfl))
  refine (rune_lit E HE.out (tk t K) K _ _ 42 HCI.out _ T2.out.sc HC.out (by omega)).mono ?_
  rintro e w2 ⟨rfl, hsc, hk⟩
  have T3 := Lib.hid (T2.out.next H.out hsc hk)
  clear hsc hk p5 p7 pf
  go_wp2_with fail
  refine (shift_mv E HE.out (tk t K) (K) _ T3.out.sc HC.out (by omega)).mono ?_
  rintro e w3 ⟨rfl, hsc, hk⟩
  have T4 := Lib.hid (T3.out.next H.out hsc hk)
  clear hsc hk
  go_wp2_with fail
  refine (newTok_mv E HE.out (tk t K) (K + 1) _ T4.out.sc 42 1 rfl (by omega)).mono ?_
  rintro e w3 ⟨rfl, hsc, hk⟩
  have T5 := T4.out.next H.out hsc hk
  obtain ⟨z0, z1, z2, z3, z4, z5, z6, z7, zf⟩ := zero_cells T5.res
  have HTL := Lib.hid T5
  clear hsc hk T5
  go_wp2
  refine bodyPost_ret (v := tokV E 42 t.off K 1) (by simp [results, Tryd.results44, go_sem, z0, z1, z2, z3, z4, z5, z6, z7]) rfl ⟨rfl, HTL.out.store (by omega) _ _ _ _ _ _ _ _⟩

set_option maxHeartbeats 4000000 in
set_option maxRecDepth 100000 in
theorem c0_42b (E : Env) (hE : EnvOk E) (t : St) (w : World) (h : Sc E t w) (hcl : t.closed = false) (K : Nat) (hK : t.off ≤ K) (hl : K + 2 < E.text.length)
    (hsp : ∀ i, t.off ≤ i → i < K → E.at i = 32) (hc : E.at K = 42) (hx : E.at (K + 1) = 61) :
    Calls Tryd.prog 44 #[.pointer (some ⟨E.S, 0, none⟩)] w (Moves E (mv E (tk t K) (K + 2)) (tokV E 57410 t.off K 2) w) := by
  have l0 := h.lt
  have hlen := hE.len
  have hns : noSep (E.at K) ∧ E.at K ≠ 47 := by rw [hc]; unfold noSep; decide
  have hci : (E.at K : Int) = 42 := by omega
  have hxi : (E.at (K + 1) : Int) = 61 := by omega
  have HX := Lib.hid hxi
  have H := Lib.hid h
  have HE := Lib.hid hE
  have HC := Lib.hid hcl
  have HSP := Lib.hid hsp
  have HNS := Lib.hid hns
  have HCI := Lib.hid hci
  clear h hE hcl hsp hns hci hc
  clear hx hxi
  go_enter Tryd.func44, Tryd.ntmps44
  go_wp2_with fail
  refine (scanSep_plain E HE.out t _ (H.out.alloc _) HC.out K hK (by omega) HSP.out HNS.out.1 HNS.out.2).mono ?_
  rintro e w1 ⟨rfl, hsc, hk⟩
  have p5 : w1.cell? ⟨E.S, 5, none⟩ = some (.int .u32 K) := hsc.cell 5
  have p7 : w1.cell? ⟨E.S, 7, none⟩ = some (.int .u32 t.src) := hsc.cell 7
  have pf := hsc.frozen
  have T1 := Lib.hid ((TokAt.start H.out).next H.out hsc hk)
  clear hsc hk
  go_wp2_with fail
  have T2 := Lib.hid (TokAt.setS H.out T1.out 7 (.int .u32 K) (T1.out.sc.set (s' := mv E (tk t K) K) 7 (.int .u32 K) rfl))
  refine (rune_lit E HE.out (tk t K) K _ _ 42 HCI.out _ T2.out.sc HC.out (by omega)).mono ?_
  rintro e w2 ⟨rfl, hsc, hk⟩
  have T3 := Lib.hid (T2.out.next H.out hsc hk)
  clear hsc hk p5 p7 pf
  go_wp2_with fail
  refine (shift_lit E HE.out (tk t K) (K) 61 HX.out _ T3.out.sc HC.out (by omega)).mono ?_
  rintro e w3 ⟨rfl, hsc, hk⟩
  have T4 := Lib.hid (T3.out.next H.out hsc hk)
  clear hsc hk
  go_wp2_with fail
  refine (shift_mv E HE.out (tk t K) (K + 1) _ T4.out.sc HC.out (by omega)).mono ?_
  rintro e w3 ⟨rfl, hsc, hk⟩
  have T5 := Lib.hid (T4.out.next H.out hsc hk)
  clear hsc hk
  go_wp2_with fail
  refine (newTok_mv E HE.out (tk t K) (K + 1 + 1) _ T5.out.sc 57410 2 rfl (by omega)).mono ?_
  rintro e w3 ⟨rfl, hsc, hk⟩
  have T6 := T5.out.next H.out hsc hk
  obtain ⟨z0, z1, z2, z3, z4, z5, z6, z7, zf⟩ := zero_cells T6.res
  have HTL := Lib.hid T6
  clear hsc hk T6
  go_wp2
  refine bodyPost_ret (v := tokV E 57410 t.off K 2) (by simp [results, Tryd.results44, go_sem, z0, z1, z2, z3, z4, z5, z6, z7]) rfl ⟨rfl, HTL.out.store (by omega) _ _ _ _ _ _ _ _⟩

set_option maxHeartbeats 4000000 in
set_option maxRecDepth 100000 in
theorem c0_61a (E : Env) (hE : EnvOk E) (t : St) (w : World) (h : Sc E t w) (hcl : t.closed = false) (K : Nat) (hK : t.off ≤ K) (hl : K + 1 < E.text.length)
    (hsp : ∀ i, t.off ≤ i → i < K → E.at i = 32) (hc : E.at K = 61) (hx : E.at (K + 1) ≠ 61) :
    Calls Tryd.prog 44 #[.pointer (some ⟨E.S, 0, none⟩)] w (Moves E (mv E (tk t K) (K + 1)) (tokV E 61 t.off K 1) w) := by
  have l0 := h.lt
  have hlen := hE.len
  have hns : noSep (E.at K) ∧ E.at K ≠ 47 := by rw [hc]; unfold noSep; decide
  have hci : (E.at K : Int) = 61 := by omega
  have b61 : ((E.at (K + 1) : Int) == 61) = false := by simp; omega
  have H := Lib.hid h
  have HE := Lib.hid hE
  have HC := Lib.hid hcl
  have HSP := Lib.hid hsp
  have HNS := Lib.hid hns
  have HCI := Lib.hid hci
  clear h hE hcl hsp hns hci hc
  clear hx
  go_enter Tryd.func44, Tryd.ntmps44
  go_wp2_with fail
  refine (scanSep_plain E HE.out t _ (H.out.alloc _) HC.out K hK (by omega) HSP.out HNS.out.1 HNS.out.2).mono ?_
  rintro e w1 ⟨rfl, hsc, hk⟩
  have p5 : w1.cell? ⟨E.S, 5, none⟩ = some (.int .u32 K) := hsc.cell 5
  have p7 : w1.cell? ⟨E.S, 7, none⟩ = some (.int .u32 t.src) := hsc.cell 7
  have pf := hsc.frozen
  have T1 := Lib.hid ((TokAt.start H.out).next H.out hsc hk)
  clear hsc hk
  go_wp2_with fail
  have T2 := Lib.hid (TokAt.setS H.out T1.out 7 (.int .u32 K) (T1.out.sc.set (s' := mv E (tk t K) K) 7 (.int .u32 K) rfl))
  refine (rune_lit E HE.out (tk t K) K _ _ 61 HCI.out _ T2.out.sc HC.out (by omega)).mono ?_
  rintro e w2 ⟨rfl, hsc, hk⟩
  have T3 := Lib.hid (T2.out.next H.out hsc hk)
  clear hsc hk p5 p7 pf
  go_wp2_with fail
  refine (shift_mv E HE.out (tk t K) (K) _ T3.out.sc HC.out (by omega)).mono ?_
  rintro e w3 ⟨rfl, hsc, hk⟩
  have T4 := Lib.hid (T3.out.next H.out hsc hk)
  clear hsc hk
  go_wp2_with fail
  refine (newTok_mv E HE.out (tk t K) (K + 1) _ T4.out.sc 61 1 rfl (by omega)).mono ?_
  rintro e w3 ⟨rfl, hsc, hk⟩
  have T5 := T4.out.next H.out hsc hk
  obtain ⟨z0, z1, z2, z3, z4, z5, z6, z7, zf⟩ := zero_cells T5.res
  have HTL := Lib.hid T5
  clear hsc hk T5
  go_wp2
  refine bodyPost_ret (v := tokV E 61 t.off K 1) (by simp [results, Tryd.results44, go_sem, z0, z1, z2, z3, z4, z5, z6, z7]) rfl ⟨rfl, HTL.out.store (by omega) _ _ _ _ _ _ _ _⟩

set_option maxHeartbeats 4000000 in
set_option maxRecDepth 100000 in
theorem c0_61b (E : Env) (hE : EnvOk E) (t : St) (w : World) (h : Sc E t w) (hcl : t.closed = false) (K : Nat) (hK : t.off ≤ K) (hl : K + 2 < E.text.length)
    (hsp : ∀ i, t.off ≤ i → i < K → E.at i = 32) (hc : E.at K = 61) (hx : E.at (K + 1) = 61) :
    Calls Tryd.prog 44 #[.pointer (some ⟨E.S, 0, none⟩)] w (Moves E (mv E (tk t K) (K + 2)) (tokV E 57377 t.off K 2) w) := by
  have l0 := h.lt
  have hlen := hE.len
  have hns : noSep (E.at K) ∧ E.at K ≠ 47 := by rw [hc]; unfold noSep; decide
  have hci : (E.at K : Int) = 61 := by omega
  have hxi : (E.at (K + 1) : Int) = 61 := by omega
  have HX := Lib.hid hxi
  have H := Lib.hid h
  have HE := Lib.hid hE
  have HC := Lib.hid hcl
  have HSP := Lib.hid hsp
  have HNS := Lib.hid hns
  have HCI := Lib.hid hci
  clear h hE hcl hsp hns hci hc
  clear hx hxi
  go_enter Tryd.func44, Tryd.ntmps44
  go_wp2_with fail
  refine (scanSep_plain E HE.out t _ (H.out.alloc _) HC.out K hK (by omega) HSP.out HNS.out.1 HNS.out.2).mono ?_
  rintro e w1 ⟨rfl, hsc, hk⟩
  have p5 : w1.cell? ⟨E.S, 5, none⟩ = some (.int .u32 K) := hsc.cell 5
  have p7 : w1.cell? ⟨E.S, 7, none⟩ = some (.int .u32 t.src) := hsc.cell 7
  have pf := hsc.frozen
  have T1 := Lib.hid ((TokAt.start H.out).next H.out hsc hk)
  clear hsc hk
  go_wp2_with fail
  have T2 := Lib.hid (TokAt.setS H.out T1.out 7 (.int .u32 K) (T1.out.sc.set (s' := mv E (tk t K) K) 7 (.int .u32 K) rfl))
  refine (rune_lit E HE.out (tk t K) K _ _ 61 HCI.out _ T2.out.sc HC.out (by omega)).mono ?_
  rintro e w2 ⟨rfl, hsc, hk⟩
  have T3 := Lib.hid (T2.out.next H.out hsc hk)
  clear hsc hk p5 p7 pf
  go_wp2_with fail
  refine (shift_lit E HE.out (tk t K) (K) 61 HX.out _ T3.out.sc HC.out (by omega)).mono ?_
  rintro e w3 ⟨rfl, hsc, hk⟩
  have T4 := Lib.hid (T3.out.next H.out hsc hk)
  clear hsc hk
  go_wp2_with fail
  refine (shift_mv E HE.out (tk t K) (K + 1) _ T4.out.sc HC.out (by omega)).mono ?_
  rintro e w3 ⟨rfl, hsc, hk⟩
  have T5 := Lib.hid (T4.out.next H.out hsc hk)
  clear hsc hk
  go_wp2_with fail
  refine (newTok_mv E HE.out (tk t K) (K + 1 + 1) _ T5.out.sc 57377 2 rfl (by omega)).mono ?_
  rintro e w3 ⟨rfl, hsc, hk⟩
  have T6 := T5.out.next H.out hsc hk
  obtain ⟨z0, z1, z2, z3, z4, z5, z6, z7, zf⟩ := zero_cells T6.res
  have HTL := Lib.hid T6
  clear hsc hk T6
  go_wp2
  refine bodyPost_ret (v := tokV E 57377 t.off K 2) (by simp [results, Tryd.results44, go_sem, z0, z1, z2, z3, z4, z5, z6, z7]) rfl ⟨rfl, HTL.out.store (by omega) _ _ _ _ _ _ _ _⟩

set_option maxHeartbeats 4000000 in
set_option maxRecDepth 100000 in
theorem c0_94a (E : Env) (hE : EnvOk E) (t : St) (w : World) (h : Sc E t w) (hcl : t.closed = false) (K : Nat) (hK : t.off ≤ K) (hl : K + 1 < E.text.length)
    (hsp : ∀ i, t.off ≤ i → i < K → E.at i = 32) (hc : E.at K = 94) (hx : E.at (K + 1) ≠ 61) :
    Calls Tryd.prog 44 #[.pointer (some ⟨E.S, 0, none⟩)] w (Moves E (mv E (tk t K) (K + 1)) (tokV E 94 t.off K 1) w) := by
  have l0 := h.lt
  have hlen := hE.len
  have hns : noSep (E.at K) ∧ E.at K ≠ 47 := by rw [hc]; unfold noSep; decide
  have hci : (E.at K : Int) = 94 := by omega
  have b61 : ((E.at (K + 1) : Int) == 61) = false := by simp; omega
  have H := Lib.hid h
  have HE := Lib.hid hE
  have HC := Lib.hid hcl
  have HSP := Lib.hid hsp
  have HNS := Lib.hid hns
  have HCI := Lib.hid hci
  clear h hE hcl hsp hns hci hc
  clear hx
  go_enter Tryd.func44, Tryd.ntmps44
  go_wp2_with fail
  refine (scanSep_plain E HE.out t _ (H.out.alloc _) HC.out K hK (by omega) HSP.out HNS.out.1 HNS.out.2).mono ?_
  rintro e w1 ⟨rfl, hsc, hk⟩
  have p5 : w1.cell? ⟨E.S, 5, none⟩ = some (.int .u32 K) := hsc.cell 5
  have p7 : w1.cell? ⟨E.S, 7, none⟩ = some (.int .u32 t.src) := hsc.cell 7
  have pf := hsc.frozen
  have T1 := Lib.hid ((TokAt.start H.out).next H.out hsc hk)
  clear hsc hk
  go_wp2_with fail
  have T2 := Lib.hid (TokAt.setS H.out T1.out 7 (.int .u32 K) (T1.out.sc.set (s' := mv E (tk t K) K) 7 (.int .u32 K) rfl))
  refine (rune_lit E HE.out (tk t K) K _ _ 94 HCI.out _ T2.out.sc HC.out (by omega)).mono ?_
  rintro e w2 ⟨rfl, hsc, hk⟩
  have T3 := Lib.hid (T2.out.next H.out hsc hk)
  clear hsc hk p5 p7 pf
  go_wp2_with fail
  refine (shift_mv E HE.out (tk t K) (K) _ T3.out.sc HC.out (by omega)).mono ?_
  rintro e w3 ⟨rfl, hsc, hk⟩
  have T4 := Lib.hid (T3.out.next H.out hsc hk)
  clear hsc hk
  go_wp2_with fail
  refine (newTok_mv E HE.out (tk t K) (K + 1) _ T4.out.sc 94 1 rfl (by omega)).mono ?_
  rintro e w3 ⟨rfl, hsc, hk⟩
  have T5 := T4.out.next H.out hsc hk
  obtain ⟨z0, z1, z2, z3, z4, z5, z6, z7, zf⟩ := zero_cells T5.res
  have HTL := Lib.hid T5
  clear hsc hk T5
  go_wp2
  refine bodyPost_ret (v := tokV E 94 t.off K 1) (by simp [results, Tryd.results44, go_sem, z0, z1, z2, z3, z4, z5, z6, z7]) rfl ⟨rfl, HTL.out.store (by omega) _ _ _ _ _ _ _ _⟩

set_option maxHeartbeats 4000000 in
set_option maxRecDepth 100000 in
theorem c0_94b (E : Env) (hE : EnvOk E) (t : St) (w : World) (h : Sc E t w) (hcl : t.closed = false) (K : Nat) (hK : t.off ≤ K) (hl : K + 2 < E.text.length)
    (hsp : ∀ i, t.off ≤ i → i < K → E.at i = 32) (hc : E.at K = 94) (hx : E.at (K + 1) = 61) :
    Calls Tryd.prog 44 #[.pointer (some ⟨E.S, 0, none⟩)] w (Moves E (mv E (tk t K) (K + 2)) (tokV E 57443 t.off K 2) w) := by
  have l0 := h.lt
  have hlen := hE.len
  have hns : noSep (E.at K) ∧ E.at K ≠ 47 := by rw [hc]; unfold noSep; decide
  have hci : (E.at K : Int) = 94 := by omega
  have hxi : (E.at (K + 1) : Int) = 61 := by omega
  have HX := Lib.hid hxi
  have H := Lib.hid h
  have HE := Lib.hid hE
  have HC := Lib.hid hcl
  have HSP := Lib.hid hsp
  have HNS := Lib.hid hns
  have HCI := Lib.hid hci
  clear h hE hcl hsp hns hci hc
  clear hx hxi
  go_enter Tryd.func44, Tryd.ntmps44
  go_wp2_with fail
  refine (scanSep_plain E HE.out t _ (H.out.alloc _) HC.out K hK (by omega) HSP.out HNS.out.1 HNS.out.2).mono ?_
  rintro e w1 ⟨rfl, hsc, hk⟩
  have p5 : w1.cell? ⟨E.S, 5, none⟩ = some (.int .u32 K) := hsc.cell 5
  have p7 : w1.cell? ⟨E.S, 7, none⟩ = some (.int .u32 t.src) := hsc.cell 7
  have pf := hsc.frozen
  have T1 := Lib.hid ((TokAt.start H.out).next H.out hsc hk)
  clear hsc hk
  go_wp2_with fail
  have T2 := Lib.hid (TokAt.setS H.out T1.out 7 (.int .u32 K) (T1.out.sc.set (s' := mv E (tk t K) K) 7 (.int .u32 K) rfl))
  refine (rune_lit E HE.out (tk t K) K _ _ 94 HCI.out _ T2.out.sc HC.out (by omega)).mono ?_
  rintro e w2 ⟨rfl, hsc, hk⟩
  have T3 := Lib.hid (T2.out.next H.out hsc hk)
  clear hsc hk p5 p7 pf
  go_wp2_with fail
  refine (shift_lit E HE.out (tk t K) (K) 61 HX.out _ T3.out.sc HC.out (by omega)).mono ?_
  rintro e w3 ⟨rfl, hsc, hk⟩
  have T4 := Lib.hid (T3.out.next H.out hsc hk)
  clear hsc hk
  go_wp2_with fail
  refine (shift_mv E HE.out (tk t K) (K + 1) _ T4.out.sc HC.out (by omega)).mono ?_
  rintro e w3 ⟨rfl, hsc, hk⟩
  have T5 := Lib.hid (T4.out.next H.out hsc hk)
  clear hsc hk
  go_wp2_with fail
  refine (newTok_mv E HE.out (tk t K) (K + 1 + 1) _ T5.out.sc 57443 2 rfl (by omega)).mono ?_
  rintro e w3 ⟨rfl, hsc, hk⟩
  have T6 := T5.out.next H.out hsc hk
  obtain ⟨z0, z1, z2, z3, z4, z5, z6, z7, zf⟩ := zero_cells T6.res
  have HTL := Lib.hid T6
  clear hsc hk T6
  go_wp2
  refine bodyPost_ret (v := tokV E 57443 t.off K 2) (by simp [results, Tryd.results44, go_sem, z0, z1, z2, z3, z4, z5, z6, z7]) rfl ⟨rfl, HTL.out.store (by omega) _ _ _ _ _ _ _ _⟩

set_option maxHeartbeats 4000000 in
set_option maxRecDepth 100000 in
theorem c0_37a (E : Env) (hE : EnvOk E) (t : St) (w : World) (h : Sc E t w) (hcl : t.closed = false) (K : Nat) (hK : t.off ≤ K) (hl : K + 1 < E.text.length)
    (hsp : ∀ i, t.off ≤ i → i < K → E.at i = 32) (hc : E.at K = 37) (hx : E.at (K + 1) ≠ 61) :
    Calls Tryd.prog 44 #[.pointer (some ⟨E.S, 0, none⟩)] w (Moves E (mv E (tk t K) (K + 1)) (tokV E 37 t.off K 1) w) := by
  have l0 := h.lt
  have hlen := hE.len
  have hns : noSep (E.at K) ∧ E.at K ≠ 47 := by rw [hc]; unfold noSep; decide
  have hci : (E.at K : Int) = 37 := by omega
  have b61 : ((E.at (K + 1) : Int) == 61) = false := by simp; omega
  have H := Lib.hid h
  have HE := Lib.hid hE
  have HC := Lib.hid hcl
  have HSP := Lib.hid hsp
  have HNS := Lib.hid hns
  have HCI := Lib.hid hci
  clear h hE hcl hsp hns hci hc
  clear hx
  go_enter Tryd.func44, Tryd.ntmps44
  go_wp2_with fail
  refine (scanSep_plain E HE.out t _ (H.out.alloc _) HC.out K hK (by omega) HSP.out HNS.out.1 HNS.out.2).mono ?_
  rintro e w1 ⟨rfl, hsc, hk⟩
  have p5 : w1.cell? ⟨E.S, 5, none⟩ = some (.int .u32 K) := hsc.cell 5
  have p7 : w1.cell? ⟨E.S, 7, none⟩ = some (.int .u32 t.src) := hsc.cell 7
  have pf := hsc.frozen
  have T1 := Lib.hid ((TokAt.start H.out).next H.out hsc hk)
  clear hsc hk
  go_wp2_with fail
  have T2 := Lib.hid (TokAt.setS H.out T1.out 7 (.int .u32 K) (T1.out.sc.set (s' := mv E (tk t K) K) 7 (.int .u32 K) rfl))
  refine (rune_lit E HE.out (tk t K) K _ _ 37 HCI.out _ T2.out.sc HC.out (by omega)).mono ?_
  rintro e w2 ⟨rfl, hsc, hk⟩
  have T3 := Lib.hid (T2.out.next H.out hsc hk)
  clear hsc hk p5 p7 pf
  go_wp2_with fail
  refine (shift_mv E HE.out (tk t K) (K) _ T3.out.sc HC.out (by omega)).mono ?_
  rintro e w3 ⟨rfl, hsc, hk⟩
  have T4 := Lib.hid (T3.out.next H.out hsc hk)
  clear hsc hk
  go_wp2_with fail
  refine (newTok_mv E HE.out (tk t K) (K + 1) _ T4.out.sc 37 1 rfl (by omega)).mono ?_
  rintro e w3 ⟨rfl, hsc, hk⟩
  have T5 := T4.out.next H.out hsc hk
  obtain ⟨z0, z1, z2, z3, z4, z5, z6, z7, zf⟩ := zero_cells T5.res
  have HTL := Lib.hid T5
  clear hsc hk T5
  go_wp2
  refine bodyPost_ret (v := tokV E 37 t.off K 1) (by simp [results, Tryd.results44, go_sem, z0, z1, z2, z3, z4, z5, z6, z7]) rfl ⟨rfl, HTL.out.store (by omega) _ _ _ _ _ _ _ _⟩

set_option maxHeartbeats 4000000 in
set_option maxRecDepth 100000 in
theorem c0_37b (E : Env) (hE : EnvOk E) (t : St) (w : World) (h : Sc E t w) (hcl : t.closed = false) (K : Nat) (hK : t.off ≤ K) (hl : K + 2 < E.text.length)
    (hsp : ∀ i, t.off ≤ i → i < K → E.at i = 32) (hc : E.at K = 37) (hx : E.at (K + 1) = 61) :
    Calls Tryd.prog 44 #[.pointer (some ⟨E.S, 0, none⟩)] w (Moves E (mv E (tk t K) (K + 2)) (tokV E 57409 t.off K 2) w) := by
  have l0 := h.lt
  have hlen := hE.len
  have hns : noSep (E.at K) ∧ E.at K ≠ 47 := by rw [hc]; unfold noSep; decide
  have hci : (E.at K : Int) = 37 := by omega
  have hxi : (E.at (K + 1) : Int) = 61 := by omega
  have HX := Lib.hid hxi
  have H := Lib.hid h
  have HE := Lib.hid hE
  have HC := Lib.hid hcl
  have HSP := Lib.hid hsp
  have HNS := Lib.hid hns
  have HCI := Lib.hid hci
  clear h hE hcl hsp hns hci hc
  clear hx hxi
  go_enter Tryd.func44, Tryd.ntmps44
  go_wp2_with fail
  refine (scanSep_plain E HE.out t _ (H.out.alloc _) HC.out K hK (by omega) HSP.out HNS.out.1 HNS.out.2).mono ?_
  rintro e w1 ⟨rfl, hsc, hk⟩
  have p5 : w1.cell? ⟨E.S, 5, none⟩ = some (.int .u32 K) := hsc.cell 5
  have p7 : w1.cell? ⟨E.S, 7, none⟩ = some (.int .u32 t.src) := hsc.cell 7
  have pf := hsc.frozen
  have T1 := Lib.hid ((TokAt.start H.out).next H.out hsc hk)
  clear hsc hk
  go_wp2_with fail
  have T2 := Lib.hid (TokAt.setS H.out T1.out 7 (.int .u32 K) (T1.out.sc.set (s' := mv E (tk t K) K) 7 (.int .u32 K) rfl))
  refine (rune_lit E HE.out (tk t K) K _ _ 37 HCI.out _ T2.out.sc HC.out (by omega)).mono ?_
  rintro e w2 ⟨rfl, hsc, hk⟩
  have T3 := Lib.hid (T2.out.next H.out hsc hk)
  clear hsc hk p5 p7 pf
  go_wp2_with fail
  refine (shift_lit E HE.out (tk t K) (K) 61 HX.out _ T3.out.sc HC.out (by omega)).mono ?_
  rintro e w3 ⟨rfl, hsc, hk⟩
  have T4 := Lib.hid (T3.out.next H.out hsc hk)
  clear hsc hk
  go_wp2_with fail
  refine (shift_mv E HE.out (tk t K) (K + 1) _ T4.out.sc HC.out (by omega)).mono ?_
  rintro e w3 ⟨rfl, hsc, hk⟩
  have T5 := Lib.hid (T4.out.next H.out hsc hk)
  clear hsc hk
  go_wp2_with fail
  refine (newTok_mv E HE.out (tk t K) (K + 1 + 1) _ T5.out.sc 57409 2 rfl (by omega)).mono ?_
  rintro e w3 ⟨rfl, hsc, hk⟩
  have T6 := T5.out.next H.out hsc hk
  obtain ⟨z0, z1, z2, z3, z4, z5, z6, z7, zf⟩ := zero_cells T6.res
  have HTL := Lib.hid T6
  clear hsc hk T6
  go_wp2
  refine bodyPost_ret (v := tokV E 57409 t.off K 2) (by simp [results, Tryd.results44, go_sem, z0, z1, z2, z3, z4, z5, z6, z7]) rfl ⟨rfl, HTL.out.store (by omega) _ _ _ _ _ _ _ _⟩

set_option maxHeartbeats 4000000 in
set_option maxRecDepth 100000 in
theorem c0_33a (E : Env) (hE : EnvOk E) (t : St) (w : World) (h : Sc E t w) (hcl : t.closed = false) (K : Nat) (hK : t.off ≤ K) (hl : K + 1 < E.text.length)
    (hsp : ∀ i, t.off ≤ i → i < K → E.at i = 32) (hc : E.at K = 33) (hx : E.at (K + 1) ≠ 61) :
    Calls Tryd.prog 44 #[.pointer (some ⟨E.S, 0, none⟩)] w (Moves E (mv E (tk t K) (K + 1)) (tokV E 33 t.off K 1) w) := by
  have l0 := h.lt
  have hlen := hE.len
  have hns : noSep (E.at K) ∧ E.at K ≠ 47 := by rw [hc]; unfold noSep; decide
  have hci : (E.at K : Int) = 33 := by omega
  have b61 : ((E.at (K + 1) : Int) == 61) = false := by simp; omega
  have H := Lib.hid h
  have HE := Lib.hid hE
  have HC := Lib.hid hcl
  have HSP := Lib.hid hsp
  have HNS := Lib.hid hns
  have HCI := Lib.hid hci
  clear h hE hcl hsp hns hci hc
  clear hx
  go_enter Tryd.func44, Tryd.ntmps44
  go_wp2_with fail
  refine (scanSep_plain E HE.out t _ (H.out.alloc _) HC.out K hK (by omega) HSP.out HNS.out.1 HNS.out.2).mono ?_
  rintro e w1 ⟨rfl, hsc, hk⟩
  have p5 : w1.cell? ⟨E.S, 5, none⟩ = some (.int .u32 K) := hsc.cell 5
  have p7 : w1.cell? ⟨E.S, 7, none⟩ = some (.int .u32 t.src) := hsc.cell 7
  have pf := hsc.frozen
  have T1 := Lib.hid ((TokAt.start H.out).next H.out hsc hk)
  clear hsc hk
  go_wp2_with fail
  have T2 := Lib.hid (TokAt.setS H.out T1.out 7 (.int .u32 K) (T1.out.sc.set (s' := mv E (tk t K) K) 7 (.int .u32 K) rfl))
  refine (rune_lit E HE.out (tk t K) K _ _ 33 HCI.out _ T2.out.sc HC.out (by omega)).mono ?_
  rintro e w2 ⟨rfl, hsc, hk⟩
  have T3 := Lib.hid (T2.out.next H.out hsc hk)
  clear hsc hk p5 p7 pf
  go_wp2_with fail
  refine (shift_mv E HE.out (tk t K) (K) _ T3.out.sc HC.out (by omega)).mono ?_
  rintro e w3 ⟨rfl, hsc, hk⟩
  have T4 := Lib.hid (T3.out.next H.out hsc hk)
  clear hsc hk
  go_wp2_with fail
  refine (newTok_mv E HE.out (tk t K) (K + 1) _ T4.out.sc 33 1 rfl (by omega)).mono ?_
  rintro e w3 ⟨rfl, hsc, hk⟩
  have T5 := T4.out.next H.out hsc hk
  obtain ⟨z0, z1, z2, z3, z4, z5, z6, z7, zf⟩ := zero_cells T5.res
  have HTL := Lib.hid T5
  clear hsc hk T5
  go_wp2
  refine bodyPost_ret (v := tokV E 33 t.off K 1) (by simp [results, Tryd.results44, go_sem, z0, z1, z2, z3, z4, z5, z6, z7]) rfl ⟨rfl, HTL.out.store (by omega) _ _ _ _ _ _ _ _⟩

set_option maxHeartbeats 4000000 in
set_option maxRecDepth 100000 in
theorem c0_33b (E : Env) (hE : EnvOk E) (t : St) (w : World) (h : Sc E t w) (hcl : t.closed = false) (K : Nat) (hK : t.off ≤ K) (hl : K + 2 < E.text.length)
    (hsp : ∀ i, t.off ≤ i → i < K → E.at i = 32) (hc : E.at K = 33) (hx : E.at (K + 1) = 61) :
    Calls Tryd.prog 44 #[.pointer (some ⟨E.S, 0, none⟩)] w (Moves E (mv E (tk t K) (K + 2)) (tokV E 57411 t.off K 2) w) := by
  have l0 := h.lt
  have hlen := hE.len
  have hns : noSep (E.at K) ∧ E.at K ≠ 47 := by rw [hc]; unfold noSep; decide
  have hci : (E.at K : Int) = 33 := by omega
  have hxi : (E.at (K + 1) : Int) = 61 := by omega
  have HX := Lib.hid hxi
  have H := Lib.hid h
  have HE := Lib.hid hE
  have HC := Lib.hid hcl
  have HSP := Lib.hid hsp
  have HNS := Lib.hid hns
  have HCI := Lib.hid hci
  clear h hE hcl hsp hns hci hc
  clear hx hxi
  go_enter Tryd.func44, Tryd.ntmps44
  go_wp2_with fail
  refine (scanSep_plain E HE.out t _ (H.out.alloc _) HC.out K hK (by omega) HSP.out HNS.out.1 HNS.out.2).mono ?_
  rintro e w1 ⟨rfl, hsc, hk⟩
  have p5 : w1.cell? ⟨E.S, 5, none⟩ = some (.int .u32 K) := hsc.cell 5
  have p7 : w1.cell? ⟨E.S, 7, none⟩ = some (.int .u32 t.src) := hsc.cell 7
  have pf := hsc.frozen
  have T1 := Lib.hid ((TokAt.start H.out).next H.out hsc hk)
  clear hsc hk
  go_wp2_with fail
  have T2 := Lib.hid (TokAt.setS H.out T1.out 7 (.int .u32 K) (T1.out.sc.set (s' := mv E (tk t K) K) 7 (.int .u32 K) rfl))
  refine (rune_lit E HE.out (tk t K) K _ _ 33 HCI.out _ T2.out.sc HC.out (by omega)).mono ?_
  rintro e w2 ⟨rfl, hsc, hk⟩
  have T3 := Lib.hid (T2.out.next H.out hsc hk)
  clear hsc hk p5 p7 pf
  go_wp2_with fail
  refine (shift_lit E HE.out (tk t K) (K) 61 HX.out _ T3.out.sc HC.out (by omega)).mono ?_
  rintro e w3 ⟨rfl, hsc, hk⟩
  have T4 := Lib.hid (T3.out.next H.out hsc hk)
  clear hsc hk
  go_wp2_with fail
  refine (shift_mv E HE.out (tk t K) (K + 1) _ T4.out.sc HC.out (by omega)).mono ?_
  rintro e w3 ⟨rfl, hsc, hk⟩
  have T5 := Lib.hid (T4.out.next H.out hsc hk)
  clear hsc hk
  go_wp2_with fail
  refine (newTok_mv E HE.out (tk t K) (K + 1 + 1) _ T5.out.sc 57411 2 rfl (by omega)).mono ?_
  rintro e w3 ⟨rfl, hsc, hk⟩
  have T6 := T5.out.next H.out hsc hk
  obtain ⟨z0, z1, z2, z3, z4, z5, z6, z7, zf⟩ := zero_cells T6.res
  have HTL := Lib.hid T6
  clear hsc hk T6
  go_wp2
  refine bodyPost_ret (v := tokV E 57411 t.off K 2) (by simp [results, Tryd.results44, go_sem, z0, z1, z2, z3, z4, z5, z6, z7]) rfl ⟨rfl, HTL.out.store (by omega) _ _ _ _ _ _ _ _⟩

set_option maxHeartbeats 4000000 in
set_option maxRecDepth 100000 in
theorem c0_47a (E : Env) (hE : EnvOk E) (t : St) (w : World) (h : Sc E t w) (hcl : t.closed = false) (K : Nat) (hK : t.off ≤ K) (hl : K + 1 < E.text.length)
    (hsp : ∀ i, t.off ≤ i → i < K → E.at i = 32) (hc : E.at K = 47) (hx : E.at (K + 1) ≠ 61) (hx1 : E.at (K + 1) ≠ 42) (hx2 : E.at (K + 1) ≠ 47) :
    Calls Tryd.prog 44 #[.pointer (some ⟨E.S, 0, none⟩)] w (Moves E (mv E (tk t K) (K + 1)) (tokV E 47 t.off K 1) w) := by
  have l0 := h.lt
  have hlen := hE.len
  have hns : noSep (E.at K) := by rw [hc]; unfold noSep; decide
  have hci : (E.at K : Int) = 47 := by omega
  have b61 : ((E.at (K + 1) : Int) == 61) = false := by simp; omega
  have HX1 := Lib.hid hx1
  have HX2 := Lib.hid hx2
  have H := Lib.hid h
  have HE := Lib.hid hE
  have HC := Lib.hid hcl
  have HSP := Lib.hid hsp
  have HNS := Lib.hid hns
  have HCI := Lib.hid hci
  clear h hE hcl hsp hns hci hc
  clear hx hx1 hx2
  go_enter Tryd.func44, Tryd.ntmps44
  go_wp2_with fail
  refine (scanSep_slash E HE.out t _ (H.out.alloc _) HC.out K hK (by omega) HSP.out HNS.out (by have := HCI.out; omega) (by omega) HX1.out HX2.out).mono ?_
  rintro e w1 ⟨rfl, hsc, hk⟩
  have p5 : w1.cell? ⟨E.S, 5, none⟩ = some (.int .u32 K) := hsc.cell 5
  have p7 : w1.cell? ⟨E.S, 7, none⟩ = some (.int .u32 t.src) := hsc.cell 7
  have pf := hsc.frozen
  have T1 := Lib.hid ((TokAt.start H.out).next H.out hsc hk)
  clear hsc hk
  go_wp2_with fail
  have T2 := Lib.hid (TokAt.setS H.out T1.out 7 (.int .u32 K) (T1.out.sc.set (s' := ml (tk t K) K (-1) 1) 7 (.int .u32 K) rfl))
  refine (rune_lit E HE.out (tk t K) K _ _ 47 HCI.out _ T2.out.sc HC.out (by omega)).mono ?_
  rintro e w2 ⟨rfl, hsc, hk⟩
  have T3 := Lib.hid (T2.out.next H.out hsc hk)
  clear hsc hk p5 p7 pf
  go_wp2_with fail
  refine (shift_mv E HE.out (tk t K) (K) _ T3.out.sc HC.out (by omega)).mono ?_
  rintro e w3 ⟨rfl, hsc, hk⟩
  have T4 := Lib.hid (T3.out.next H.out hsc hk)
  clear hsc hk
  go_wp2_with fail
  refine (newTok_mv E HE.out (tk t K) (K + 1) _ T4.out.sc 47 1 rfl (by omega)).mono ?_
  rintro e w3 ⟨rfl, hsc, hk⟩
  have T5 := T4.out.next H.out hsc hk
  obtain ⟨z0, z1, z2, z3, z4, z5, z6, z7, zf⟩ := zero_cells T5.res
  have HTL := Lib.hid T5
  clear hsc hk T5
  go_wp2
  refine bodyPost_ret (v := tokV E 47 t.off K 1) (by simp [results, Tryd.results44, go_sem, z0, z1, z2, z3, z4, z5, z6, z7]) rfl ⟨rfl, HTL.out.store (by omega) _ _ _ _ _ _ _ _⟩

set_option maxHeartbeats 4000000 in
set_option maxRecDepth 100000 in
theorem c0_47b (E : Env) (hE : EnvOk E) (t : St) (w : World) (h : Sc E t w) (hcl : t.closed = false) (K : Nat) (hK : t.off ≤ K) (hl : K + 2 < E.text.length)
    (hsp : ∀ i, t.off ≤ i → i < K → E.at i = 32) (hc : E.at K = 47) (hx : E.at (K + 1) = 61) :
    Calls Tryd.prog 44 #[.pointer (some ⟨E.S, 0, none⟩)] w (Moves E (mv E (tk t K) (K + 2)) (tokV E 57372 t.off K 2) w) := by
  have l0 := h.lt
  have hlen := hE.len
  have hns : noSep (E.at K) := by rw [hc]; unfold noSep; decide
  have hci : (E.at K : Int) = 47 := by omega
  have hxi : (E.at (K + 1) : Int) = 61 := by omega
  have HX := Lib.hid hxi
  have hx1 : E.at (K + 1) ≠ 42 := by omega
  have hx2 : E.at (K + 1) ≠ 47 := by omega
  have HX1 := Lib.hid hx1
  have HX2 := Lib.hid hx2
  have H := Lib.hid h
  have HE := Lib.hid hE
  have HC := Lib.hid hcl
  have HSP := Lib.hid hsp
  have HNS := Lib.hid hns
  have HCI := Lib.hid hci
  clear h hE hcl hsp hns hci hc
  clear hx hxi hx1 hx2
  go_enter Tryd.func44, Tryd.ntmps44
  go_wp2_with fail
  refine (scanSep_slash E HE.out t _ (H.out.alloc _) HC.out K hK (by omega) HSP.out HNS.out (by have := HCI.out; omega) (by omega) HX1.out HX2.out).mono ?_
  rintro e w1 ⟨rfl, hsc, hk⟩
  have p5 : w1.cell? ⟨E.S, 5, none⟩ = some (.int .u32 K) := hsc.cell 5
  have p7 : w1.cell? ⟨E.S, 7, none⟩ = some (.int .u32 t.src) := hsc.cell 7
  have pf := hsc.frozen
  have T1 := Lib.hid ((TokAt.start H.out).next H.out hsc hk)
  clear hsc hk
  go_wp2_with fail
  have T2 := Lib.hid (TokAt.setS H.out T1.out 7 (.int .u32 K) (T1.out.sc.set (s' := ml (tk t K) K (-1) 1) 7 (.int .u32 K) rfl))
  refine (rune_lit E HE.out (tk t K) K _ _ 47 HCI.out _ T2.out.sc HC.out (by omega)).mono ?_
  rintro e w2 ⟨rfl, hsc, hk⟩
  have T3 := Lib.hid (T2.out.next H.out hsc hk)
  clear hsc hk p5 p7 pf
  go_wp2_with fail
  refine (shift_lit E HE.out (tk t K) (K) 61 HX.out _ T3.out.sc HC.out (by omega)).mono ?_
  rintro e w3 ⟨rfl, hsc, hk⟩
  have T4 := Lib.hid (T3.out.next H.out hsc hk)
  clear hsc hk
  go_wp2_with fail
  refine (shift_mv E HE.out (tk t K) (K + 1) _ T4.out.sc HC.out (by omega)).mono ?_
  rintro e w3 ⟨rfl, hsc, hk⟩
  have T5 := Lib.hid (T4.out.next H.out hsc hk)
  clear hsc hk
  go_wp2_with fail
  refine (newTok_mv E HE.out (tk t K) (K + 1 + 1) _ T5.out.sc 57372 2 rfl (by omega)).mono ?_
  rintro e w3 ⟨rfl, hsc, hk⟩
  have T6 := T5.out.next H.out hsc hk
  obtain ⟨z0, z1, z2, z3, z4, z5, z6, z7, zf⟩ := zero_cells T6.res
  have HTL := Lib.hid T6
  clear hsc hk T6
  go_wp2
  refine bodyPost_ret (v := tokV E 57372 t.off K 2) (by simp [results, Tryd.results44, go_sem, z0, z1, z2, z3, z4, z5, z6, z7]) rfl ⟨rfl, HTL.out.store (by omega) _ _ _ _ _ _ _ _⟩

set_option maxHeartbeats 4000000 in
set_option maxRecDepth 100000 in
theorem c0_43a (E : Env) (hE : EnvOk E) (t : St) (w : World) (h : Sc E t w) (hcl : t.closed = false) (K : Nat) (hK : t.off ≤ K) (hl : K + 1 < E.text.length)
    (hsp : ∀ i, t.off ≤ i → i < K → E.at i = 32) (hc : E.at K = 43) (hx : E.at (K + 1) ≠ 61) (hy : E.at (K + 1) ≠ 43) :
    Calls Tryd.prog 44 #[.pointer (some ⟨E.S, 0, none⟩)] w (Moves E (mv E (tk t K) (K + 1)) (tokV E 43 t.off K 1) w) := by
  have l0 := h.lt
  have hlen := hE.len
  have hns : noSep (E.at K) ∧ E.at K ≠ 47 := by rw [hc]; unfold noSep; decide
  have hci : (E.at K : Int) = 43 := by omega
  have b61 : ((E.at (K + 1) : Int) == 61) = false := by simp; omega
  have b43 : ((E.at (K + 1) : Int) == 43) = false := by simp; omega
  have H := Lib.hid h
  have HE := Lib.hid hE
  have HC := Lib.hid hcl
  have HSP := Lib.hid hsp
  have HNS := Lib.hid hns
  have HCI := Lib.hid hci
  clear h hE hcl hsp hns hci hc
  clear hx hy
  go_enter Tryd.func44, Tryd.ntmps44
  go_wp2_with fail
  refine (scanSep_plain E HE.out t _ (H.out.alloc _) HC.out K hK (by omega) HSP.out HNS.out.1 HNS.out.2).mono ?_
  rintro e w1 ⟨rfl, hsc, hk⟩
  have p5 : w1.cell? ⟨E.S, 5, none⟩ = some (.int .u32 K) := hsc.cell 5
  have p7 : w1.cell? ⟨E.S, 7, none⟩ = some (.int .u32 t.src) := hsc.cell 7
  have pf := hsc.frozen
  have T1 := Lib.hid ((TokAt.start H.out).next H.out hsc hk)
  clear hsc hk
  go_wp2_with fail
  have T2 := Lib.hid (TokAt.setS H.out T1.out 7 (.int .u32 K) (T1.out.sc.set (s' := mv E (tk t K) K) 7 (.int .u32 K) rfl))
  refine (rune_lit E HE.out (tk t K) K _ _ 43 HCI.out _ T2.out.sc HC.out (by omega)).mono ?_
  rintro e w2 ⟨rfl, hsc, hk⟩
  have T3 := Lib.hid (T2.out.next H.out hsc hk)
  clear hsc hk p5 p7 pf
  go_wp2_with fail
  refine (shift_mv E HE.out (tk t K) (K) _ T3.out.sc HC.out (by omega)).mono ?_
  rintro e w3 ⟨rfl, hsc, hk⟩
  have T4 := Lib.hid (T3.out.next H.out hsc hk)
  clear hsc hk
  go_wp2_with fail
  refine (newTok_mv E HE.out (tk t K) (K + 1) _ T4.out.sc 43 1 rfl (by omega)).mono ?_
  rintro e w3 ⟨rfl, hsc, hk⟩
  have T5 := T4.out.next H.out hsc hk
  obtain ⟨z0, z1, z2, z3, z4, z5, z6, z7, zf⟩ := zero_cells T5.res
  have HTL := Lib.hid T5
  clear hsc hk T5
  go_wp2
  refine bodyPost_ret (v := tokV E 43 t.off K 1) (by simp [results, Tryd.results44, go_sem, z0, z1, z2, z3, z4, z5, z6, z7]) rfl ⟨rfl, HTL.out.store (by omega) _ _ _ _ _ _ _ _⟩

set_option maxHeartbeats 4000000 in
set_option maxRecDepth 100000 in
theorem c0_43b (E : Env) (hE : EnvOk E) (t : St) (w : World) (h : Sc E t w) (hcl : t.closed = false) (K : Nat) (hK : t.off ≤ K) (hl : K + 2 < E.text.length)
    (hsp : ∀ i, t.off ≤ i → i < K → E.at i = 32) (hc : E.at K = 43) (hx : E.at (K + 1) = 61) :
    Calls Tryd.prog 44 #[.pointer (some ⟨E.S, 0, none⟩)] w (Moves E (mv E (tk t K) (K + 2)) (tokV E 57345 t.off K 2) w) := by
  have l0 := h.lt
  have hlen := hE.len
  have hns : noSep (E.at K) ∧ E.at K ≠ 47 := by rw [hc]; unfold noSep; decide
  have hci : (E.at K : Int) = 43 := by omega
  have hxi : (E.at (K + 1) : Int) = 61 := by omega
  have HX := Lib.hid hxi
  have H := Lib.hid h
  have HE := Lib.hid hE
  have HC := Lib.hid hcl
  have HSP := Lib.hid hsp
  have HNS := Lib.hid hns
  have HCI := Lib.hid hci
  clear h hE hcl hsp hns hci hc
  clear hx hxi
  go_enter Tryd.func44, Tryd.ntmps44
  go_wp2_with fail
  refine (scanSep_plain E HE.out t _ (H.out.alloc _) HC.out K hK (by omega) HSP.out HNS.out.1 HNS.out.2).mono ?_
  rintro e w1 ⟨rfl, hsc, hk⟩
  have p5 : w1.cell? ⟨E.S, 5, none⟩ = some (.int .u32 K) := hsc.cell 5
  have p7 : w1.cell? ⟨E.S, 7, none⟩ = some (.int .u32 t.src) := hsc.cell 7
  have pf := hsc.frozen
  have T1 := Lib.hid ((TokAt.start H.out).next H.out hsc hk)
  clear hsc hk
  go_wp2_with fail
  have T2 := Lib.hid (TokAt.setS H.out T1.out 7 (.int .u32 K) (T1.out.sc.set (s' := mv E (tk t K) K) 7 (.int .u32 K) rfl))
  refine (rune_lit E HE.out (tk t K) K _ _ 43 HCI.out _ T2.out.sc HC.out (by omega)).mono ?_
  rintro e w2 ⟨rfl, hsc, hk⟩
  have T3 := Lib.hid (T2.out.next H.out hsc hk)
  clear hsc hk p5 p7 pf
  go_wp2_with fail
  refine (shift_lit E HE.out (tk t K) (K) 61 HX.out _ T3.out.sc HC.out (by omega)).mono ?_
  rintro e w3 ⟨rfl, hsc, hk⟩
  have T4 := Lib.hid (T3.out.next H.out hsc hk)
  clear hsc hk
  go_wp2_with fail
  refine (shift_mv E HE.out (tk t K) (K + 1) _ T4.out.sc HC.out (by omega)).mono ?_
  rintro e w3 ⟨rfl, hsc, hk⟩
  have T5 := Lib.hid (T4.out.next H.out hsc hk)
  clear hsc hk
  go_wp2_with fail
  refine (newTok_mv E HE.out (tk t K) (K + 1 + 1) _ T5.out.sc 57345 2 rfl (by omega)).mono ?_
  rintro e w3 ⟨rfl, hsc, hk⟩
  have T6 := T5.out.next H.out hsc hk
  obtain ⟨z0, z1, z2, z3, z4, z5, z6, z7, zf⟩ := zero_cells T6.res
  have HTL := Lib.hid T6
  clear hsc hk T6
  go_wp2
  refine bodyPost_ret (v := tokV E 57345 t.off K 2) (by simp [results, Tryd.results44, go_sem, z0, z1, z2, z3, z4, z5, z6, z7]) rfl ⟨rfl, HTL.out.store (by omega) _ _ _ _ _ _ _ _⟩

set_option maxHeartbeats 4000000 in
set_option maxRecDepth 100000 in
theorem c0_43c (E : Env) (hE : EnvOk E) (t : St) (w : World) (h : Sc E t w) (hcl : t.closed = false) (K : Nat) (hK : t.off ≤ K) (hl : K + 2 < E.text.length)
    (hsp : ∀ i, t.off ≤ i → i < K → E.at i = 32) (hc : E.at K = 43) (hx : E.at (K + 1) = 43) :
    Calls Tryd.prog 44 #[.pointer (some ⟨E.S, 0, none⟩)] w (Moves E (mv E (tk t K) (K + 2)) (tokV E 57397 t.off K 2) w) := by
  have l0 := h.lt
  have hlen := hE.len
  have hns : noSep (E.at K) ∧ E.at K ≠ 47 := by rw [hc]; unfold noSep; decide
  have hci : (E.at K : Int) = 43 := by omega
  have hxi : (E.at (K + 1) : Int) = 43 := by omega
  have HX := Lib.hid hxi
  have H := Lib.hid h
  have HE := Lib.hid hE
  have HC := Lib.hid hcl
  have HSP := Lib.hid hsp
  have HNS := Lib.hid hns
  have HCI := Lib.hid hci
  clear h hE hcl hsp hns hci hc
  clear hx hxi
  go_enter Tryd.func44, Tryd.ntmps44
  go_wp2_with fail
  refine (scanSep_plain E HE.out t _ (H.out.alloc _) HC.out K hK (by omega) HSP.out HNS.out.1 HNS.out.2).mono ?_
  rintro e w1 ⟨rfl, hsc, hk⟩
  have p5 : w1.cell? ⟨E.S, 5, none⟩ = some (.int .u32 K) := hsc.cell 5
  have p7 : w1.cell? ⟨E.S, 7, none⟩ = some (.int .u32 t.src) := hsc.cell 7
  have pf := hsc.frozen
  have T1 := Lib.hid ((TokAt.start H.out).next H.out hsc hk)
  clear hsc hk
  go_wp2_with fail
  have T2 := Lib.hid (TokAt.setS H.out T1.out 7 (.int .u32 K) (T1.out.sc.set (s' := mv E (tk t K) K) 7 (.int .u32 K) rfl))
  refine (rune_lit E HE.out (tk t K) K _ _ 43 HCI.out _ T2.out.sc HC.out (by omega)).mono ?_
  rintro e w2 ⟨rfl, hsc, hk⟩
  have T3 := Lib.hid (T2.out.next H.out hsc hk)
  clear hsc hk p5 p7 pf
  go_wp2_with fail
  refine (shift_lit E HE.out (tk t K) (K) 43 HX.out _ T3.out.sc HC.out (by omega)).mono ?_
  rintro e w3 ⟨rfl, hsc, hk⟩
  have T4 := Lib.hid (T3.out.next H.out hsc hk)
  clear hsc hk
  go_wp2_with fail
  refine (shift_mv E HE.out (tk t K) (K + 1) _ T4.out.sc HC.out (by omega)).mono ?_
  rintro e w3 ⟨rfl, hsc, hk⟩
  have T5 := Lib.hid (T4.out.next H.out hsc hk)
  clear hsc hk
  go_wp2_with fail
  refine (newTok_mv E HE.out (tk t K) (K + 1 + 1) _ T5.out.sc 57397 2 rfl (by omega)).mono ?_
  rintro e w3 ⟨rfl, hsc, hk⟩
  have T6 := T5.out.next H.out hsc hk
  obtain ⟨z0, z1, z2, z3, z4, z5, z6, z7, zf⟩ := zero_cells T6.res
  have HTL := Lib.hid T6
  clear hsc hk T6
  go_wp2
  refine bodyPost_ret (v := tokV E 57397 t.off K 2) (by simp [results, Tryd.results44, go_sem, z0, z1, z2, z3, z4, z5, z6, z7]) rfl ⟨rfl, HTL.out.store (by omega) _ _ _ _ _ _ _ _⟩

set_option maxHeartbeats 4000000 in
set_option maxRecDepth 100000 in
theorem c0_38a (E : Env) (hE : EnvOk E) (t : St) (w : World) (h : Sc E t w) (hcl : t.closed = false) (K : Nat) (hK : t.off ≤ K) (hl : K + 1 < E.text.length)
    (hsp : ∀ i, t.off ≤ i → i < K → E.at i = 32) (hc : E.at K = 38) (hx : E.at (K + 1) ≠ 61) (hy : E.at (K + 1) ≠ 38) :
    Calls Tryd.prog 44 #[.pointer (some ⟨E.S, 0, none⟩)] w (Moves E (mv E (tk t K) (K + 1)) (tokV E 38 t.off K 1) w) := by
  have l0 := h.lt
  have hlen := hE.len
  have hns : noSep (E.at K) ∧ E.at K ≠ 47 := by rw [hc]; unfold noSep; decide
  have hci : (E.at K : Int) = 38 := by omega
  have b61 : ((E.at (K + 1) : Int) == 61) = false := by simp; omega
  have b38 : ((E.at (K + 1) : Int) == 38) = false := by simp; omega
  have H := Lib.hid h
  have HE := Lib.hid hE
  have HC := Lib.hid hcl
  have HSP := Lib.hid hsp
  have HNS := Lib.hid hns
  have HCI := Lib.hid hci
  clear h hE hcl hsp hns hci hc
  clear hx hy
  go_enter Tryd.func44, Tryd.ntmps44
  go_wp2_with fail
  refine (scanSep_plain E HE.out t _ (H.out.alloc _) HC.out K hK (by omega) HSP.out HNS.out.1 HNS.out.2).mono ?_
  rintro e w1 ⟨rfl, hsc, hk⟩
  have p5 : w1.cell? ⟨E.S, 5, none⟩ = some (.int .u32 K) := hsc.cell 5
  have p7 : w1.cell? ⟨E.S, 7, none⟩ = some (.int .u32 t.src) := hsc.cell 7
  have pf := hsc.frozen
  have T1 := Lib.hid ((TokAt.start H.out).next H.out hsc hk)
  clear hsc hk
  go_wp2_with fail
  have T2 := Lib.hid (TokAt.setS H.out T1.out 7 (.int .u32 K) (T1.out.sc.set (s' := mv E (tk t K) K) 7 (.int .u32 K) rfl))
  refine (rune_lit E HE.out (tk t K) K _ _ 38 HCI.out _ T2.out.sc HC.out (by omega)).mono ?_
  rintro e w2 ⟨rfl, hsc, hk⟩
  have T3 := Lib.hid (T2.out.next H.out hsc hk)
  clear hsc hk p5 p7 pf
  go_wp2_with fail
  refine (shift_mv E HE.out (tk t K) (K) _ T3.out.sc HC.out (by omega)).mono ?_
  rintro e w3 ⟨rfl, hsc, hk⟩
  have T4 := Lib.hid (T3.out.next H.out hsc hk)
  clear hsc hk
  go_wp2_with fail
  refine (newTok_mv E HE.out (tk t K) (K + 1) _ T4.out.sc 38 1 rfl (by omega)).mono ?_
  rintro e w3 ⟨rfl, hsc, hk⟩
  have T5 := T4.out.next H.out hsc hk
  obtain ⟨z0, z1, z2, z3, z4, z5, z6, z7, zf⟩ := zero_cells T5.res
  have HTL := Lib.hid T5
  clear hsc hk T5
  go_wp2
  refine bodyPost_ret (v := tokV E 38 t.off K 1) (by simp [results, Tryd.results44, go_sem, z0, z1, z2, z3, z4, z5, z6, z7]) rfl ⟨rfl, HTL.out.store (by omega) _ _ _ _ _ _ _ _⟩

set_option maxHeartbeats 4000000 in
set_option maxRecDepth 100000 in
theorem c0_38b (E : Env) (hE : EnvOk E) (t : St) (w : World) (h : Sc E t w) (hcl : t.closed = false) (K : Nat) (hK : t.off ≤ K) (hl : K + 2 < E.text.length)
    (hsp : ∀ i, t.off ≤ i → i < K → E.at i = 32) (hc : E.at K = 38) (hx : E.at (K + 1) = 61) :
    Calls Tryd.prog 44 #[.pointer (some ⟨E.S, 0, none⟩)] w (Moves E (mv E (tk t K) (K + 2)) (tokV E 57349 t.off K 2) w) := by
  have l0 := h.lt
  have hlen := hE.len
  have hns : noSep (E.at K) ∧ E.at K ≠ 47 := by rw [hc]; unfold noSep; decide
  have hci : (E.at K : Int) = 38 := by omega
  have hxi : (E.at (K + 1) : Int) = 61 := by omega
  have HX := Lib.hid hxi
  have H := Lib.hid h
  have HE := Lib.hid hE
  have HC := Lib.hid hcl
  have HSP := Lib.hid hsp
  have HNS := Lib.hid hns
  have HCI := Lib.hid hci
  clear h hE hcl hsp hns hci hc
  clear hx hxi
  go_enter Tryd.func44, Tryd.ntmps44
  go_wp2_with fail
  refine (scanSep_plain E HE.out t _ (H.out.alloc _) HC.out K hK (by omega) HSP.out HNS.out.1 HNS.out.2).mono ?_
  rintro e w1 ⟨rfl, hsc, hk⟩
  have p5 : w1.cell? ⟨E.S, 5, none⟩ = some (.int .u32 K) := hsc.cell 5
  have p7 : w1.cell? ⟨E.S, 7, none⟩ = some (.int .u32 t.src) := hsc.cell 7
  have pf := hsc.frozen
  have T1 := Lib.hid ((TokAt.start H.out).next H.out hsc hk)
  clear hsc hk
  go_wp2_with fail
  have T2 := Lib.hid (TokAt.setS H.out T1.out 7 (.int .u32 K) (T1.out.sc.set (s' := mv E (tk t K) K) 7 (.int .u32 K) rfl))
  refine (rune_lit E HE.out (tk t K) K _ _ 38 HCI.out _ T2.out.sc HC.out (by omega)).mono ?_
  rintro e w2 ⟨rfl, hsc, hk⟩
  have T3 := Lib.hid (T2.out.next H.out hsc hk)
  clear hsc hk p5 p7 pf
  go_wp2_with fail
  refine (shift_lit E HE.out (tk t K) (K) 61 HX.out _ T3.out.sc HC.out (by omega)).mono ?_
  rintro e w3 ⟨rfl, hsc, hk⟩
  have T4 := Lib.hid (T3.out.next H.out hsc hk)
  clear hsc hk
  go_wp2_with fail
  refine (shift_mv E HE.out (tk t K) (K + 1) _ T4.out.sc HC.out (by omega)).mono ?_
  rintro e w3 ⟨rfl, hsc, hk⟩
  have T5 := Lib.hid (T4.out.next H.out hsc hk)
  clear hsc hk
  go_wp2_with fail
  refine (newTok_mv E HE.out (tk t K) (K + 1 + 1) _ T5.out.sc 57349 2 rfl (by omega)).mono ?_
  rintro e w3 ⟨rfl, hsc, hk⟩
  have T6 := T5.out.next H.out hsc hk
  obtain ⟨z0, z1, z2, z3, z4, z5, z6, z7, zf⟩ := zero_cells T6.res
  have HTL := Lib.hid T6
  clear hsc hk T6
  go_wp2
  refine bodyPost_ret (v := tokV E 57349 t.off K 2) (by simp [results, Tryd.results44, go_sem, z0, z1, z2, z3, z4, z5, z6, z7]) rfl ⟨rfl, HTL.out.store (by omega) _ _ _ _ _ _ _ _⟩

set_option maxHeartbeats 4000000 in
set_option maxRecDepth 100000 in
theorem c0_38c (E : Env) (hE : EnvOk E) (t : St) (w : World) (h : Sc E t w) (hcl : t.closed = false) (K : Nat) (hK : t.off ≤ K) (hl : K + 2 < E.text.length)
    (hsp : ∀ i, t.off ≤ i → i < K → E.at i = 32) (hc : E.at K = 38) (hx : E.at (K + 1) = 38) :
    Calls Tryd.prog 44 #[.pointer (some ⟨E.S, 0, none⟩)] w (Moves E (mv E (tk t K) (K + 2)) (tokV E 57348 t.off K 2) w) := by
  have l0 := h.lt
  have hlen := hE.len
  have hns : noSep (E.at K) ∧ E.at K ≠ 47 := by rw [hc]; unfold noSep; decide
  have hci : (E.at K : Int) = 38 := by omega
  have hxi : (E.at (K + 1) : Int) = 38 := by omega
  have HX := Lib.hid hxi
  have H := Lib.hid h
  have HE := Lib.hid hE
  have HC := Lib.hid hcl
  have HSP := Lib.hid hsp
  have HNS := Lib.hid hns
  have HCI := Lib.hid hci
  clear h hE hcl hsp hns hci hc
  clear hx hxi
  go_enter Tryd.func44, Tryd.ntmps44
  go_wp2_with fail
  refine (scanSep_plain E HE.out t _ (H.out.alloc _) HC.out K hK (by omega) HSP.out HNS.out.1 HNS.out.2).mono ?_
  rintro e w1 ⟨rfl, hsc, hk⟩
  have p5 : w1.cell? ⟨E.S, 5, none⟩ = some (.int .u32 K) := hsc.cell 5
  have p7 : w1.cell? ⟨E.S, 7, none⟩ = some (.int .u32 t.src) := hsc.cell 7
  have pf := hsc.frozen
  have T1 := Lib.hid ((TokAt.start H.out).next H.out hsc hk)
  clear hsc hk
  go_wp2_with fail
  have T2 := Lib.hid (TokAt.setS H.out T1.out 7 (.int .u32 K) (T1.out.sc.set (s' := mv E (tk t K) K) 7 (.int .u32 K) rfl))
  refine (rune_lit E HE.out (tk t K) K _ _ 38 HCI.out _ T2.out.sc HC.out (by omega)).mono ?_
  rintro e w2 ⟨rfl, hsc, hk⟩
  have T3 := Lib.hid (T2.out.next H.out hsc hk)
  clear hsc hk p5 p7 pf
  go_wp2_with fail
  refine (shift_lit E HE.out (tk t K) (K) 38 HX.out _ T3.out.sc HC.out (by omega)).mono ?_
  rintro e w3 ⟨rfl, hsc, hk⟩
  have T4 := Lib.hid (T3.out.next H.out hsc hk)
  clear hsc hk
  go_wp2_with fail
  refine (shift_mv E HE.out (tk t K) (K + 1) _ T4.out.sc HC.out (by omega)).mono ?_
  rintro e w3 ⟨rfl, hsc, hk⟩
  have T5 := Lib.hid (T4.out.next H.out hsc hk)
  clear hsc hk
  go_wp2_with fail
  refine (newTok_mv E HE.out (tk t K) (K + 1 + 1) _ T5.out.sc 57348 2 rfl (by omega)).mono ?_
  rintro e w3 ⟨rfl, hsc, hk⟩
  have T6 := T5.out.next H.out hsc hk
  obtain ⟨z0, z1, z2, z3, z4, z5, z6, z7, zf⟩ := zero_cells T6.res
  have HTL := Lib.hid T6
  clear hsc hk T6
  go_wp2
  refine bodyPost_ret (v := tokV E 57348 t.off K 2) (by simp [results, Tryd.results44, go_sem, z0, z1, z2, z3, z4, z5, z6, z7]) rfl ⟨rfl, HTL.out.store (by omega) _ _ _ _ _ _ _ _⟩
end Go.Proofs.YtfooeinfgmfhpaaDoor
