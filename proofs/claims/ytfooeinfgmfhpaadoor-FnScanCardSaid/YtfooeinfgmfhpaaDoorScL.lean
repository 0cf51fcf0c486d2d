/- The scanner's cppScan: one token, and the state it leaves. -/
import Derived.Test.YtfooeinfgmfhpaaDoorScI
namespace Go.Proofs.YtfooeinfgmfhpaaDoor
open Go.RowKit

/-- A token has come back, its kind told by P. -/
def TokP (E : Env) (P : Int → Prop) (s : St) (sep src len : Nat) (w : World) (e : Ending) (w' : World) : Prop :=
  ∃ ch : Int, e = .returned (tokV E ch sep src len) ∧ P ch ∧ Sc E s w' ∧ Kept E w w'

theorem TokP.of_moves {E : Env} {P : Int → Prop} {s : St} {ch : Int} {sep src len : Nat} {w w' : World} {e : Ending} (h : Moves E s (tokV E ch sep src len) w e w') (hp : P ch) : TokP E P s sep src len w e w' :=
  ⟨ch, h.1, hp, h.2⟩

/-- Eight cells stored one behind the other. -/
abbrev nest8 (w : World) (k : Nat) (v0 v1 v2 v3 v4 v5 v6 v7 : Value) : World :=
  ((((((((w.setCell ⟨k, 0, none⟩ v0).setCell ⟨k, 1, none⟩ v1).setCell ⟨k, 2, none⟩ v2).setCell ⟨k, 3, none⟩ v3).setCell ⟨k, 4, none⟩ v4).setCell ⟨k, 5, none⟩ v5).setCell ⟨k, 6, none⟩ v6).setCell ⟨k, 7, none⟩ v7)

theorem store8 {E : Env} {s : St} {w wr : World} {k : Nat} (h : Sc E s wr) (hk : Kept E w wr) (q0 : Tk wr k 58) (h0 : 0 < k) (hw : w.heap.size ≤ k) (v0 v1 v2 v3 v4 v5 v6 v7 : Value) :
    Sc E s (nest8 wr k v0 v1 v2 v3 v4 v5 v6 v7) ∧ Kept E w (nest8 wr k v0 v1 v2 v3 v4 v5 v6 v7) ∧ Tk (nest8 wr k v0 v1 v2 v3 v4 v5 v6 v7) k 58 := by
  have q1 := q0.set ⟨k, 0, none⟩ rfl v0
  have q2 := q1.set ⟨k, 1, none⟩ rfl v1
  have q3 := q2.set ⟨k, 2, none⟩ rfl v2
  have q4 := q3.set ⟨k, 3, none⟩ rfl v3
  have q5 := q4.set ⟨k, 4, none⟩ rfl v4
  have q6 := q5.set ⟨k, 5, none⟩ rfl v5
  have q7 := q6.set ⟨k, 6, none⟩ rfl v6
  exact ⟨(((((((h.setT q0 h0 (by decide) _).setT q1 h0 (by decide) _).setT q2 h0 (by decide) _).setT q3 h0 (by decide) _).setT q4 h0 (by decide) _).setT q5 h0 (by decide) _).setT q6 h0 (by decide) _).setT q7 h0 (by decide) _,
    (((((((hk.setNew _ _ hw).setNew _ _ hw).setNew _ _ hw).setNew _ _ hw).setNew _ _ hw).setNew _ _ hw).setNew _ _ hw).setNew _ _ hw, q7.set ⟨k, 7, none⟩ rfl v7⟩

theorem Tk.setS {w : World} {k : Nat} {t : TypeId} (h : Tk w k t) (S i : Nat) (v : Value) : Tk (w.setCell ⟨S, i, none⟩ v) k t := h.set _ rfl v

/-- Stored, the scanner's state set, stored again. -/
theorem store_set_store {E : Env} {s : St} {w wr : World} (x : Int) (h : TokAt E s w wr) (h0 : 0 < w.heap.size) (v0 v1 v2 v3 v4 v5 v6 v7 u0 u1 u2 u3 u4 u5 u6 u7 : Value) :
    Sc E { s with state := x } (nest8 ((nest8 wr w.heap.size v0 v1 v2 v3 v4 v5 v6 v7).setCell ⟨E.S, 3, none⟩ (.int .i64 x)) w.heap.size u0 u1 u2 u3 u4 u5 u6 u7) ∧
      Kept E w (nest8 ((nest8 wr w.heap.size v0 v1 v2 v3 v4 v5 v6 v7).setCell ⟨E.S, 3, none⟩ (.int .i64 x)) w.heap.size u0 u1 u2 u3 u4 u5 u6 u7) := by
  obtain ⟨a1, a2, a3⟩ := store8 h.sc h.kept ⟨_, h.res⟩ h0 (Nat.le_refl _) v0 v1 v2 v3 v4 v5 v6 v7
  obtain ⟨b1, b2, _⟩ := store8 (a1.set (s' := { s with state := x }) 3 (.int .i64 x) rfl) (a2.setS 3 _) (a3.setS E.S 3 _) h0 (Nat.le_refl _) u0 u1 u2 u3 u4 u5 u6 u7
  exact ⟨b1, b2⟩

theorem nest8_heap {w : World} {k : Nat} {c0 c1 c2 c3 c4 c5 c6 c7 : Value} (h : w.heap[k]? = some (.cells #[c0, c1, c2, c3, c4, c5, c6, c7] 58 (0, 0))) (v0 v1 v2 v3 v4 v5 v6 v7 : Value) :
    (nest8 w k v0 v1 v2 v3 v4 v5 v6 v7).heap[k]? = some (.cells #[v0, v1, v2, v3, v4, v5, v6, v7] 58 (0, 0)) := by
  have q0 := heap_setCell_same w k 0 _ 58 v0 h
  simp only [List.setIfInBounds_toArray, List.set_cons_zero] at q0
  have q1 := heap_setCell_same _ k 1 _ 58 v1 q0
  simp only [List.setIfInBounds_toArray, List.set_cons_zero, List.set_cons_succ] at q1
  have q2 := heap_setCell_same _ k 2 _ 58 v2 q1
  simp only [List.setIfInBounds_toArray, List.set_cons_zero, List.set_cons_succ] at q2
  have q3 := heap_setCell_same _ k 3 _ 58 v3 q2
  simp only [List.setIfInBounds_toArray, List.set_cons_zero, List.set_cons_succ] at q3
  have q4 := heap_setCell_same _ k 4 _ 58 v4 q3
  simp only [List.setIfInBounds_toArray, List.set_cons_zero, List.set_cons_succ] at q4
  have q5 := heap_setCell_same _ k 5 _ 58 v5 q4
  simp only [List.setIfInBounds_toArray, List.set_cons_zero, List.set_cons_succ] at q5
  have q6 := heap_setCell_same _ k 6 _ 58 v6 q5
  simp only [List.setIfInBounds_toArray, List.set_cons_zero, List.set_cons_succ] at q6
  have q7 := heap_setCell_same _ k 7 _ 58 v7 q6
  simp only [List.setIfInBounds_toArray, List.set_cons_zero, List.set_cons_succ] at q7
  exact q7

theorem run_results38 (tmps : Array Value) (k : Nat) (w : World) (c0 c1 c2 c3 c4 c5 c6 c7 : Value) (ht : tmps[2]? = some (.pointer (some ⟨k, 0, none⟩)))
    (hb : w.heap[k]? = some (.cells #[c0, c1, c2, c3, c4, c5, c6, c7] 58 (0, 0))) : (results Tryd.f38 tmps).run Tryd.prog w = .ok (.agg #[c0, c1, c2, c3, c4, c5, c6, c7]) w := by
  have z0 : w.cell? ⟨k, 0, none⟩ = some c0 := cell_of_row w k 0 _ 58 (0, 0) hb
  have z1 : w.cell? ⟨k, 1, none⟩ = some c1 := cell_of_row w k 1 _ 58 (0, 0) hb
  have z2 : w.cell? ⟨k, 2, none⟩ = some c2 := cell_of_row w k 2 _ 58 (0, 0) hb
  have z3 : w.cell? ⟨k, 3, none⟩ = some c3 := cell_of_row w k 3 _ 58 (0, 0) hb
  have z4 : w.cell? ⟨k, 4, none⟩ = some c4 := cell_of_row w k 4 _ 58 (0, 0) hb
  have z5 : w.cell? ⟨k, 5, none⟩ = some c5 := cell_of_row w k 5 _ 58 (0, 0) hb
  have z6 : w.cell? ⟨k, 6, none⟩ = some c6 := cell_of_row w k 6 _ 58 (0, 0) hb
  have z7 : w.cell? ⟨k, 7, none⟩ = some c7 := cell_of_row w k 7 _ 58 (0, 0) hb
  simp [results, Tryd.results38, go_sem, ht, z0, z1, z2, z3, z4, z5, z6, z7]

/-- Stored twice. -/
theorem store_store {E : Env} {s : St} {w wr : World} (h : TokAt E s w wr) (h0 : 0 < w.heap.size) (v0 v1 v2 v3 v4 v5 v6 v7 u0 u1 u2 u3 u4 u5 u6 u7 : Value) :
    Sc E s (nest8 (nest8 wr w.heap.size v0 v1 v2 v3 v4 v5 v6 v7) w.heap.size u0 u1 u2 u3 u4 u5 u6 u7) ∧
      Kept E w (nest8 (nest8 wr w.heap.size v0 v1 v2 v3 v4 v5 v6 v7) w.heap.size u0 u1 u2 u3 u4 u5 u6 u7) := by
  obtain ⟨a1, a2, a3⟩ := store8 h.sc h.kept ⟨_, h.res⟩ h0 (Nat.le_refl _) v0 v1 v2 v3 v4 v5 v6 v7
  obtain ⟨b1, b2, _⟩ := store8 a1 a2 a3 h0 (Nat.le_refl _) u0 u1 u2 u3 u4 u5 u6 u7
  exact ⟨b1, b2⟩

set_option maxHeartbeats 2000000 in
set_option maxRecDepth 100000 in
theorem cpp_other0 (E : Env) (P : Int → Prop) (t s1 : St) (w : World) (h : Sc E t w) (hst : t.state = 0) (hs1 : s1.state = 0) (sep src len : Nat) (hp : ∀ ch, P ch → ch ≠ 10 ∧ ch ≠ 35)
    (hc : ∀ w : World, Sc E t w → Calls Tryd.prog 44 #[.pointer (some ⟨E.S, 0, none⟩)] w (TokP E P s1 sep src len w)) :
    Calls Tryd.prog 38 #[.pointer (some ⟨E.S, 0, none⟩)] w (TokP E P { s1 with state := 2 } sep src len w) := by
  have l0 := h.lt
  have h3 : w.cell? ⟨E.S, 3, none⟩ = some (.int .i64 0) := by rw [h.cell 3]; simp [St.cells, hst]
  have H := Lib.hid h
  have HC := Lib.hid hc
  have HP := Lib.hid hp
  have HS1 := Lib.hid hs1
  clear h hst hs1 hp hc
  go_enter Tryd.func38, Tryd.ntmps38
  go_wp2_with fail
  refine (HC.out _ (H.out.alloc _)).mono ?_
  rintro e w1 ⟨ch, rfl, hP, hsc, hk⟩
  have b10 : (ch == 10) = false := by simpa using (HP.out ch hP).1
  have b35 : (ch == 35) = false := by simpa using (HP.out ch hP).2
  have HPC := Lib.hid hP
  clear hP
  have T1 := (TokAt.start H.out).next H.out hsc hk
  have p3 : w1.cell? ⟨E.S, 3, none⟩ = some (.int .i64 0) := by rw [hsc.cell 3]; simp [St.cells, HS1.out]
  have pf := hsc.frozen
  obtain ⟨z0, z1, z2, z3, z4, z5, z6, z7, zf⟩ := zero_cells T1.res
  have HT1 := Lib.hid T1
  clear hsc hk T1 h3
  go_wp2
  refine bodyPost_ret (v := tokV E ch sep src len) (run_results38 _ w.heap.size _ _ _ _ _ _ _ _ _ rfl (nest8_heap ((heap_setCell_other _ ⟨E.S, 3, none⟩ w.heap.size _ (by simp; omega)).trans (nest8_heap HT1.out.res _ _ _ _ _ _ _ _)) _ _ _ _ _ _ _ _)) rfl ⟨ch, rfl, HPC.out, ?_⟩
  exact store_set_store 2 HT1.out (by omega) _ _ _ _ _ _ _ _ _ _ _ _ _ _ _ _

set_option maxHeartbeats 2000000 in
set_option maxRecDepth 100000 in
theorem cpp_other2 (E : Env) (P : Int → Prop) (t s1 : St) (w : World) (h : Sc E t w) (hst : t.state = 2) (hs1 : s1.state = 2) (sep src len : Nat) (hp : ∀ ch, P ch → ch ≠ 10)
    (hc : ∀ w : World, Sc E t w → Calls Tryd.prog 44 #[.pointer (some ⟨E.S, 0, none⟩)] w (TokP E P s1 sep src len w)) :
    Calls Tryd.prog 38 #[.pointer (some ⟨E.S, 0, none⟩)] w (TokP E P s1 sep src len w) := by
  have l0 := h.lt
  have h3 : w.cell? ⟨E.S, 3, none⟩ = some (.int .i64 2) := by rw [h.cell 3]; simp [St.cells, hst]
  have H := Lib.hid h
  have HC := Lib.hid hc
  have HP := Lib.hid hp
  have HS1 := Lib.hid hs1
  clear h hst hs1 hp hc
  go_enter Tryd.func38, Tryd.ntmps38
  go_wp2_with fail
  refine (HC.out _ (H.out.alloc _)).mono ?_
  rintro e w1 ⟨ch, rfl, hP, hsc, hk⟩
  have b10 : (ch == 10) = false := by simpa using HP.out ch hP
  have HPC := Lib.hid hP
  clear hP
  have T1 := (TokAt.start H.out).next H.out hsc hk
  have p3 : w1.cell? ⟨E.S, 3, none⟩ = some (.int .i64 2) := by rw [hsc.cell 3]; simp [St.cells, HS1.out]
  have pf := hsc.frozen
  obtain ⟨z0, z1, z2, z3, z4, z5, z6, z7, zf⟩ := zero_cells T1.res
  have HT1 := Lib.hid T1
  clear hsc hk T1 h3
  go_wp2
  refine bodyPost_ret (v := tokV E ch sep src len) (run_results38 _ w.heap.size _ _ _ _ _ _ _ _ _ rfl (nest8_heap (nest8_heap HT1.out.res _ _ _ _ _ _ _ _) _ _ _ _ _ _ _ _)) rfl ⟨ch, rfl, HPC.out, ?_⟩
  exact store_store HT1.out (by omega) _ _ _ _ _ _ _ _ _ _ _ _ _ _ _ _

set_option maxHeartbeats 2000000 in
set_option maxRecDepth 100000 in
theorem cpp_nl0 (E : Env) (P : Int → Prop) (t s1 : St) (w : World) (h : Sc E t w) (hst : t.state = 0) (hs1 : s1.state = 0) (sep src len : Nat) (hp : ∀ ch, P ch → ch = 10)
    (hc : ∀ w : World, Sc E t w → Calls Tryd.prog 44 #[.pointer (some ⟨E.S, 0, none⟩)] w (TokP E P s1 sep src len w)) :
    Calls Tryd.prog 38 #[.pointer (some ⟨E.S, 0, none⟩)] w (TokP E P { s1 with state := 0 } sep src len w) := by
  have l0 := h.lt
  have h3 : w.cell? ⟨E.S, 3, none⟩ = some (.int .i64 0) := by rw [h.cell 3]; simp [St.cells, hst]
  have H := Lib.hid h
  have HC := Lib.hid hc
  have HP := Lib.hid hp
  have HS1 := Lib.hid hs1
  clear h hst hs1 hp hc
  go_enter Tryd.func38, Tryd.ntmps38
  go_wp2_with fail
  refine (HC.out _ (H.out.alloc _)).mono ?_
  rintro e w1 ⟨ch, rfl, hP, hsc, hk⟩
  have b10 : (ch == 10) = true := by simpa using HP.out ch hP
  have HPC := Lib.hid hP
  clear hP
  have T1 := (TokAt.start H.out).next H.out hsc hk
  have p3 : w1.cell? ⟨E.S, 3, none⟩ = some (.int .i64 0) := by rw [hsc.cell 3]; simp [St.cells, HS1.out]
  have pf := hsc.frozen
  obtain ⟨z0, z1, z2, z3, z4, z5, z6, z7, zf⟩ := zero_cells T1.res
  have HT1 := Lib.hid T1
  clear hsc hk T1 h3
  go_wp2
  refine bodyPost_ret (v := tokV E ch sep src len) (run_results38 _ w.heap.size _ _ _ _ _ _ _ _ _ rfl (nest8_heap ((heap_setCell_other _ ⟨E.S, 3, none⟩ w.heap.size _ (by simp; omega)).trans (nest8_heap HT1.out.res _ _ _ _ _ _ _ _)) _ _ _ _ _ _ _ _)) rfl ⟨ch, rfl, HPC.out, ?_⟩
  exact store_set_store 0 HT1.out (by omega) _ _ _ _ _ _ _ _ _ _ _ _ _ _ _ _

set_option maxHeartbeats 2000000 in
set_option maxRecDepth 100000 in
theorem cpp_nl2 (E : Env) (P : Int → Prop) (t s1 : St) (w : World) (h : Sc E t w) (hst : t.state = 2) (hs1 : s1.state = 2) (sep src len : Nat) (hp : ∀ ch, P ch → ch = 10)
    (hc : ∀ w : World, Sc E t w → Calls Tryd.prog 44 #[.pointer (some ⟨E.S, 0, none⟩)] w (TokP E P s1 sep src len w)) :
    Calls Tryd.prog 38 #[.pointer (some ⟨E.S, 0, none⟩)] w (TokP E P { s1 with state := 0 } sep src len w) := by
  have l0 := h.lt
  have h3 : w.cell? ⟨E.S, 3, none⟩ = some (.int .i64 2) := by rw [h.cell 3]; simp [St.cells, hst]
  have H := Lib.hid h
  have HC := Lib.hid hc
  have HP := Lib.hid hp
  have HS1 := Lib.hid hs1
  clear h hst hs1 hp hc
  go_enter Tryd.func38, Tryd.ntmps38
  go_wp2_with fail
  refine (HC.out _ (H.out.alloc _)).mono ?_
  rintro e w1 ⟨ch, rfl, hP, hsc, hk⟩
  have b10 : (ch == 10) = true := by simpa using HP.out ch hP
  have HPC := Lib.hid hP
  clear hP
  have T1 := (TokAt.start H.out).next H.out hsc hk
  have p3 : w1.cell? ⟨E.S, 3, none⟩ = some (.int .i64 2) := by rw [hsc.cell 3]; simp [St.cells, HS1.out]
  have pf := hsc.frozen
  obtain ⟨z0, z1, z2, z3, z4, z5, z6, z7, zf⟩ := zero_cells T1.res
  have HT1 := Lib.hid T1
  clear hsc hk T1 h3
  go_wp2
  refine bodyPost_ret (v := tokV E ch sep src len) (run_results38 _ w.heap.size _ _ _ _ _ _ _ _ _ rfl (nest8_heap ((heap_setCell_other _ ⟨E.S, 3, none⟩ w.heap.size _ (by simp; omega)).trans (nest8_heap HT1.out.res _ _ _ _ _ _ _ _)) _ _ _ _ _ _ _ _)) rfl ⟨ch, rfl, HPC.out, ?_⟩
  exact store_set_store 0 HT1.out (by omega) _ _ _ _ _ _ _ _ _ _ _ _ _ _ _ _
end Go.Proofs.YtfooeinfgmfhpaaDoor
