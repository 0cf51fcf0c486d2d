/- The scanner's newToken, over its memory. -/
import Derived.Test.YtfooeinfgmfhpaaDoorScB
import Derived.StillTailTactics
namespace Go.Proofs.YtfooeinfgmfhpaaDoor
open Go.RowKit

theorem still_tail_drew {P : Program} {id : Nat} {Q : Exit → Act → World → Prop} {a : Act} {w : World} {l : List Oper} (n : Nat) (hm : P.follows .mixedOrders = true) (hB : Region.lexTailB .any l.toArray n = true)
    (h : wpStill P l.toArray w.drew (fun a' => wpList P l.toArray Q (l.drop n) a' w.drew) (l.take n) a) : (Code.region id l.toArray true).wp P Q a w :=
  wp_region_still_tail n hm hB h

/-- The block bears cells of this type. -/
def Tk (w : World) (k : Nat) (t : TypeId) : Prop := ∃ c, w.heap[k]? = some (.cells c t (0, 0))

theorem Tk.set {w : World} {k : Nat} {t : TypeId} (h : Tk w k t) (a : Addr) (ha : a.spot = none) (v : Value) : Tk (w.setCell a v) k t := by
  obtain ⟨c, hc⟩ := h
  by_cases e : k = a.block
  · subst e
    obtain ⟨b, o, sp⟩ := a
    cases ha
    exact ⟨_, heap_setCell_same w b o c t v hc⟩
  · exact ⟨c, (heap_setCell_other w a k v e).trans hc⟩

theorem Sc.setT {E : Env} {s : St} {w : World} (h : Sc E s w) {k i : Nat} {t : TypeId} (hT : Tk w k t) (hk0 : 0 < k) (ht : t ∉ [84, 96, 5, 110, 3]) (v : Value) : Sc E s (w.setCell ⟨k, i, none⟩ v) := by
  obtain ⟨c, hc⟩ := hT
  simp only [List.mem_cons, List.mem_nil_iff, or_false, not_or] at ht
  obtain ⟨t1, t2, t3, t4, t5⟩ := ht
  obtain ⟨lv, pre, last, hf, ho, h1, h2⟩ := h.hF
  have hg : w.grownBy (w.setCell ⟨k, i, none⟩ v) (some k) := ⟨rfl, rfl, rfl, by simp, fun j _ hk => heap_setCell_other w _ j v (by intro e; exact hk (by simp [e]))⟩
  have ne : ∀ (j : Nat) (c' : Array Value) (t' : TypeId) (fr : Nat × Nat), w.heap[j]? = some (Obj.cells c' t' fr) → t' ≠ t → (w.setCell ⟨k, i, none⟩ v).heap[j]? = w.heap[j]? := by
    intro j c' t' fr hj htt
    refine heap_setCell_other w _ j v ?_
    intro e
    simp at e
    rw [e, hc] at hj; simp at hj; exact htt hj.2.1.symm
  refine ⟨(ne _ _ _ _ h.hS (Ne.symm t1)).trans h.hS, (ne _ _ _ _ h.hSS (Ne.symm t2)).trans h.hSS, ?_, ⟨lv, pre, last, (ne _ _ _ _ hf (Ne.symm t4)).trans hf, ?_, h1, h2⟩, fun i' hi => ?_, h.hP⟩
  · obtain ⟨cur, fr, hb, hcc⟩ := h.hB
    exact ⟨cur, fr, (ne _ _ _ _ hb (Ne.symm t3)).trans hb, hcc⟩
  · refine ho.kept hg (Or.inr ?_)
    intro e
    rcases ho.2 with ⟨rfl, _⟩ | ⟨g, cap, cur, rfl, _, hgg, _⟩
    · simp [Value.ownBlock] at e
    · simp [Value.ownBlock] at e
      subst e
      rw [hc] at hgg; simp at hgg; exact t5 hgg.2
  · rw [← h.hG i' hi]
    exact World.cell?_of_block (heap_setCell_other w _ 0 v (by simpa using Nat.ne_of_lt hk0))

/-- A token as a value. -/
abbrev tokV (E : Env) (ch : Int) (sep src len : Nat) : Value :=
  .agg #[.pointer (some ⟨E.SS, 0, none⟩), .int .i32 ch, .int .u32 src, .int .i32 0, .int .u32 sep, .int .u32 src, .int .u32 len, .pointer none]

set_option maxHeartbeats 400000 in
set_option maxRecDepth 20000 in
theorem newToken0 (E : Env) (s : St) (w : World) (h : Sc E s w) (ch : Int) (sep src len : Nat) (hs : src ≤ 1000000) :
    Calls Tryd.prog 70 #[.pointer (some ⟨E.SS, 0, none⟩), .int .i32 ch, .int .u32 sep, .int .u32 src, .int .u32 len] w (Moves E s (tokV E ch sep src len) w) := by
  have g3 : w.cell? ⟨E.SS, 3, none⟩ = some (.int .i32 0) := h.scell 3
  have l1 : E.SS < w.heap.size := (Array.getElem?_eq_some_iff.1 h.hSS).1
  have H := Lib.hid h
  clear h
  go_enter Tryd.func70, Tryd.ntmps70
  go_wp2
  exact bodyPost_ret (v := tokV E ch sep src len) (by simp [results, Tryd.results70, go_sem]) rfl ⟨rfl, H.out.alloc _, (Kept.refl _ _).alloc _⟩

def zeroTok : Array Value := #[.pointer none, .int .i32 0, .int .u32 0, .int .i32 0, .int .u32 0, .int .u32 0, .int .u32 0, .pointer none]

theorem Kept.blk {E : Env} {s : St} {w w1 w2 : World} (h : Sc E s w) {k : Nat} {c : Array Value} {t : TypeId} {fr : Nat × Nat} (hk : Kept E w1 w2) (hb : w1.heap[k]? = some (.cells c t fr)) (ht : t ≠ 3) (hw : w.heap.size ≤ k) :
    w2.heap[k]? = some (.cells c t fr) := by
  obtain ⟨_, _, _, hf, _⟩ := h.hF
  rw [hk.block k (Array.getElem?_eq_some_iff.1 hb).1 (by have := h.lt; omega) (by have := (Array.getElem?_eq_some_iff.1 hf).1; omega) (Or.inr (by intro c' fr' e; rw [hb] at e; simp at e; exact ht e.2.1))]
  exact hb

set_option maxHeartbeats 1000000 in
set_option maxRecDepth 20000 in
theorem newToken_any (E : Env) (hE : EnvOk E) (s : St) (w : World) (h : Sc E s w) (ch : Int) (len : Nat) (ho : s.off = s.src + len) (hl : s.off ≤ E.text.length) :
    Calls Tryd.prog 56 #[.pointer (some ⟨E.S, 0, none⟩), .int .i32 ch] w (Moves E s (tokV E ch s.sep s.src len) w) := by
  have h0 : w.cell? ⟨E.S, 0, none⟩ = some (.pointer (some ⟨E.SS, 0, none⟩)) := h.cell 0
  have h5 : w.cell? ⟨E.S, 5, none⟩ = some (.int .u32 s.off) := h.cell 5
  have h6 : w.cell? ⟨E.S, 6, none⟩ = some (.int .u32 s.sep) := h.cell 6
  have h7 : w.cell? ⟨E.S, 7, none⟩ = some (.int .u32 s.src) := h.cell 7
  have h9 : w.cell? ⟨E.S, 9, none⟩ = some (.bool false) := h.cell 9
  have l0 := h.lt
  have hlen := hE.len
  have H := Lib.hid h
  have HO := Lib.hid ho
  have hs : s.src ≤ 1000000 := by omega
  have hs2 : s.src ≤ s.off := by omega
  clear h hE ho
  go_enter Tryd.func56, Tryd.ntmps56
  go_wp2
  refine still_tail_drew 22 (by kernel_rfl) (by kernel_rfl) ?_
  simp only [List.take_succ_cons, List.take_zero, List.drop_succ_cons, List.drop_zero]
  repeat still_step
  refine wpStill_nil ?_
  go_wp2_with fail
  rw [show (s.off : Int) - s.src = (len : Int) by have := HO.out; omega, show IntKind.u32.wrap (len : Int) = (len : Int) from IntWalk.u32_in _ (by have := HO.out; omega)]
  refine (newToken0 E s _ (((H.out).alloc _).drew) ch s.sep s.src len hs).mono ?_
  rintro e w1 ⟨rfl, hsc, hk⟩
  have hb := hk.blk H.out (k := w.heap.size) (c := zeroTok) (t := 58) (fr := (0, 0)) (heap_alloc_new w _) (by decide) (Nat.le_refl _)
  have z0 : w1.cell? ⟨w.heap.size, 0, none⟩ = some (.pointer none) := cell_of_row w1 _ 0 _ 58 (0, 0) hb
  have z1 : w1.cell? ⟨w.heap.size, 1, none⟩ = some (.int .i32 0) := cell_of_row w1 _ 1 _ 58 (0, 0) hb
  have z2 : w1.cell? ⟨w.heap.size, 2, none⟩ = some (.int .u32 0) := cell_of_row w1 _ 2 _ 58 (0, 0) hb
  have z3 : w1.cell? ⟨w.heap.size, 3, none⟩ = some (.int .i32 0) := cell_of_row w1 _ 3 _ 58 (0, 0) hb
  have z4 : w1.cell? ⟨w.heap.size, 4, none⟩ = some (.int .u32 0) := cell_of_row w1 _ 4 _ 58 (0, 0) hb
  have z5 : w1.cell? ⟨w.heap.size, 5, none⟩ = some (.int .u32 0) := cell_of_row w1 _ 5 _ 58 (0, 0) hb
  have z6 : w1.cell? ⟨w.heap.size, 6, none⟩ = some (.int .u32 0) := cell_of_row w1 _ 6 _ 58 (0, 0) hb
  have z7 : w1.cell? ⟨w.heap.size, 7, none⟩ = some (.pointer none) := cell_of_row w1 _ 7 _ 58 (0, 0) hb
  have zf : ∀ i, w1.frozen? ⟨w.heap.size, i, none⟩ = false := fun i => by simp [World.frozen?, hb]
  have hT : Tk w1 w.heap.size 58 := ⟨_, hb⟩
  have HK := Lib.hid hk
  have HS := Lib.hid hsc
  clear h0 h5 h6 h7 h9 hk hsc hb
  have HT := Lib.hid hT
  clear hT
  go_wp2
  refine bodyPost_ret (v := tokV E ch s.sep s.src len) (by simp [results, Tryd.results56, go_sem, z0, z1, z2, z3, z4, z5, z6, z7]) rfl ⟨rfl, ?_, ?_⟩
  · have q0 := HT.out
    have hk0 : 0 < w.heap.size := by omega
    have q1 := q0.set ⟨w.heap.size, 0, none⟩ rfl (.pointer (some ⟨E.SS, 0, none⟩))
    have q2 := q1.set ⟨w.heap.size, 1, none⟩ rfl (.int .i32 ch)
    have q3 := q2.set ⟨w.heap.size, 2, none⟩ rfl (.int .u32 s.src)
    have q4 := q3.set ⟨w.heap.size, 3, none⟩ rfl (.int .i32 0)
    have q5 := q4.set ⟨w.heap.size, 4, none⟩ rfl (.int .u32 s.sep)
    have q6 := q5.set ⟨w.heap.size, 5, none⟩ rfl (.int .u32 s.src)
    have q7 := q6.set ⟨w.heap.size, 6, none⟩ rfl (.int .u32 len)
    exact (((((((HS.out.setT q0 hk0 (by decide) _).setT q1 hk0 (by decide) _).setT q2 hk0 (by decide) _).setT q3 hk0 (by decide) _).setT q4 hk0 (by decide) _).setT q5 hk0 (by decide) _).setT q6 hk0 (by decide) _).setT q7 hk0 (by decide) _
  · have k0 : Kept E w w1 := (((Kept.refl E w).alloc _).drew).trans HK.out
    exact (((((((k0.setNew _ _ (Nat.le_refl _)).setNew _ _ (Nat.le_refl _)).setNew _ _ (Nat.le_refl _)).setNew _ _ (Nat.le_refl _)).setNew _ _ (Nat.le_refl _)).setNew _ _ (Nat.le_refl _)).setNew _ _ (Nat.le_refl _)).setNew _ _ (Nat.le_refl _)
end Go.Proofs.YtfooeinfgmfhpaaDoor
