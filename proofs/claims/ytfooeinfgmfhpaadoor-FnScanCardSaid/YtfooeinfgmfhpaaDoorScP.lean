/- newScannerSource: what it makes. -/
import Derived.Test.YtfooeinfgmfhpaaDoorScO
import Derived.Lib.ConvBytes
import Derived.Outline
namespace Go.Proofs.YtfooeinfgmfhpaaDoor
open Go.RowKit

theorem conv_text (w : World) (FS : Nat) (nm text : ByteArray) (c : Array Value) (t : TypeId) (hS : w.heap[FS]? = some (.cells c t (0, 0))) :
    ∃ (W2 : World) (cap : Nat), (convert 9 77 (.string text)).run Tryd.prog ((w.alloc (.cells #[.string nm, .string text, .pointer none] 72)).alloc (.cells #[.slice none 0 0, .pointer none, .pointer (some ⟨FS, 0, none⟩), .int .i32 0, .int .u32 0, .int .i64 0] 96)) =
        .ok (.slice (some ⟨w.heap.size + 2, 0, none⟩) text.size cap) W2 ∧ text.size ≤ cap ∧ w.heap.size + 2 < W2.heap.size ∧ W2.heap[FS]? = some (.cells c t (0, 0)) ∧
      W2.heap[w.heap.size]? = some (.cells #[.string nm, .string text, .pointer none] 72 (0, 0)) ∧
      W2.heap[w.heap.size + 1]? = some (.cells #[.slice none 0 0, .pointer none, .pointer (some ⟨FS, 0, none⟩), .int .i32 0, .int .u32 0, .int .i64 0] 96 (0, 0)) ∧
      (∃ cur fr, W2.heap[w.heap.size + 2]? = some (.cells cur 5 fr) ∧ ∀ i, i < text.size → cur[i]? = some (.int .u8 (text.data.toList[i]?.getD 0).toNat)) ∧ w.grownBy W2 none := by
  have hlt : FS < w.heap.size := (Array.getElem?_eq_some_iff.1 hS).1
  have hz : ((w.alloc (.cells #[.string nm, .string text, .pointer none] 72)).alloc (.cells #[.slice none 0 0, .pointer none, .pointer (some ⟨FS, 0, none⟩), .int .i32 0, .int .u32 0, .int .i64 0] 96)).heap.size = w.heap.size + 2 := by simp
  have b0 : ((w.alloc (.cells #[.string nm, .string text, .pointer none] 72)).alloc (.cells #[.slice none 0 0, .pointer none, .pointer (some ⟨FS, 0, none⟩), .int .i32 0, .int .u32 0, .int .i64 0] 96)).heap[w.heap.size]? = some (.cells #[.string nm, .string text, .pointer none] 72 (0, 0)) := by
    rw [heap_alloc_old _ _ (by simp)]; exact heap_alloc_new w _
  have b1 : ((w.alloc (.cells #[.string nm, .string text, .pointer none] 72)).alloc (.cells #[.slice none 0 0, .pointer none, .pointer (some ⟨FS, 0, none⟩), .int .i32 0, .int .u32 0, .int .i64 0] 96)).heap[w.heap.size + 1]? = some (.cells #[.slice none 0 0, .pointer none, .pointer (some ⟨FS, 0, none⟩), .int .i32 0, .int .u32 0, .int .i64 0] 96 (0, 0)) := by
    have := heap_alloc_new (w.alloc (.cells #[.string nm, .string text, .pointer none] 72)) (.cells #[.slice none 0 0, .pointer none, .pointer (some ⟨FS, 0, none⟩), .int .i32 0, .int .u32 0, .int .i64 0] 96)
    simpa using this
  have bo : ∀ k, k < w.heap.size → ((w.alloc (.cells #[.string nm, .string text, .pointer none] 72)).alloc (.cells #[.slice none 0 0, .pointer none, .pointer (some ⟨FS, 0, none⟩), .int .i32 0, .int .u32 0, .int .i64 0] 96)).heap[k]? = w.heap[k]? := by
    intro k hk; rw [heap_alloc_old _ _ (by simp; omega), heap_alloc_old _ _ hk]
  have hgW : w.grownBy ((w.alloc (.cells #[.string nm, .string text, .pointer none] 72)).alloc (.cells #[.slice none 0 0, .pointer none, .pointer (some ⟨FS, 0, none⟩), .int .i32 0, .int .u32 0, .int .i64 0] 96)) none := grown_trans (World.grownBy_alloc _ _ _) (World.grownBy_alloc _ _ _)
  generalize ((w.alloc (.cells #[.string nm, .string text, .pointer none] 72)).alloc (.cells #[.slice none 0 0, .pointer none, .pointer (some ⟨FS, 0, none⟩), .int .i32 0, .int .u32 0, .int .i64 0] 96)) = W at *
  refine ⟨Lib.bytesWorld W 5 text, grownCap W text.size 0 5, ?_, grownCap_ge _ _ _ _, ?_, ?_, ?_, ?_, ⟨Lib.bytesCells W 5 text, ((Lib.bytesCells W 5 text).size, (Lib.bytesCells W 5 text).size + 1), ?_, ?_⟩, ?_⟩
  · rw [← hz]; exact Lib.run_convert_string_bytes W 9 77 5 text (u := .string) Tryd.underlying9 Tryd.underlying77 Tryd.underlying5
  · rw [Lib.bytesWorld_size]; omega
  · rw [Lib.bytesWorld_at_old _ _ _ _ (by omega), bo _ hlt]; exact hS
  · rw [Lib.bytesWorld_at_old _ _ _ _ (by omega)]; exact b0
  · rw [Lib.bytesWorld_at_old _ _ _ _ (by omega)]; exact b1
  · rw [← hz]; exact Lib.bytesWorld_at_new W 5 text
  · intro i hi
    have := Lib.bytesWorld_cell W 5 text i hi
    rw [cell_of_row _ _ i _ 5 _ (Lib.bytesWorld_at_new W 5 text)] at this
    rw [this]; simp [List.getD]
  · exact grown_trans hgW ⟨by simp [Lib.bytesWorld, World.freeze, World.alloc, World.drew, -World.alloc_eq, -World.drew_eq], by simp [Lib.bytesWorld, World.freeze, World.alloc, World.drew, -World.alloc_eq, -World.drew_eq],
      by simp [Lib.bytesWorld, World.freeze, World.alloc, World.drew, -World.alloc_eq, -World.drew_eq], by rw [Lib.bytesWorld_size]; omega, fun k hk _ => Lib.bytesWorld_at_old W 5 text k hk⟩

/-- The world while the source is made: its blocks, the source's cells c. -/
structure SrcW (w : World) (FS : Nat) (nm text : ByteArray) (c : Array Value) (W : World) : Prop where
  fs : W.heap[FS]? = some (.cells #[.slice none 0 0, .int .i32 0] 88 (0, 0))
  b72 : W.heap[w.heap.size]? = some (.cells #[.string nm, .string text, .pointer none] 72 (0, 0))
  ss : W.heap[w.heap.size + 1]? = some (.cells c 96 (0, 0))
  bb : ∃ cur fr, W.heap[w.heap.size + 2]? = some (.cells cur 5 fr) ∧ ∀ i, i < text.size → cur[i]? = some (.int .u8 (text.data.toList[i]?.getD 0).toNat)
  gr : w.grownBy W none
  lt : w.heap.size + 2 < W.heap.size
  fl : FS < w.heap.size

section
variable {w W : World} {FS : Nat} {nm text : ByteArray} {c : Array Value}
theorem SrcW.grown (h : SrcW w FS nm text c W) {W' : World} (hg : W.grownBy W' none) : SrcW w FS nm text c W' :=
  have e : ∀ k, k < W.heap.size → W'.heap[k]? = W.heap[k]? := fun k hk => hg.block k hk (by simp)
  ⟨(e _ (by have := h.lt; have := h.fl; omega)).trans h.fs, (e _ (by have := h.lt; omega)).trans h.b72, (e _ (by have := h.lt; omega)).trans h.ss,
    by rw [e _ h.lt]; exact h.bb, grown_trans h.gr hg, Nat.lt_of_lt_of_le h.lt hg.size, h.fl⟩
theorem SrcW.set (h : SrcW w FS nm text c W) (i : Nat) (v : Value) : SrcW w FS nm text (c.setIfInBounds i v) (W.setCell ⟨w.heap.size + 1, i, none⟩ v) := by
  have e : ∀ k, k ≠ w.heap.size + 1 → (W.setCell ⟨w.heap.size + 1, i, none⟩ v).heap[k]? = W.heap[k]? := fun k hk => heap_setCell_other W _ k v (by simpa using hk)
  refine ⟨(e _ (by have := h.fl; omega)).trans h.fs, (e _ (by omega)).trans h.b72, heap_setCell_same W _ i c 96 v h.ss, by rw [e _ (by omega)]; exact h.bb, ?_, by simpa using h.lt, h.fl⟩
  exact ⟨h.gr.os, h.gr.tape, h.gr.output, by simpa using h.gr.size, fun k hk hr => (e k (by omega)).trans (h.gr.block k hk hr)⟩
theorem SrcW.cell (h : SrcW w FS nm text c W) (i : Nat) : W.cell? ⟨w.heap.size + 1, i, none⟩ = c[i]? := cell_of_row _ _ i _ 96 (0, 0) h.ss
theorem SrcW.frozen (h : SrcW w FS nm text c W) (i : Nat) : W.frozen? ⟨w.heap.size + 1, i, none⟩ = false := by simp [World.frozen?, h.ss]
end

theorem cell_two {W : World} {a : Addr} {v : Value} {o o' : Obj} (h : W.cell? a = some v) (hl : a.block < W.heap.size) : ((W.alloc o).alloc o').drew.cell? a = some v := by
  show ((W.alloc o).alloc o').cell? a = some v
  rw [World.cell?_alloc_lt _ _ _ (by simp; omega), World.cell?_alloc_lt _ _ _ hl]; exact h

theorem SrcW.file {w W : World} {FS : Nat} {nm text : ByteArray} {c : Array Value} (h : SrcW w FS nm text c W) (v : Value) (a b : Obj) :
    SrcW w FS nm text (c.setIfInBounds 1 v) (((W.setCell ⟨w.heap.size + 1, 1, none⟩ v).alloc a).alloc b).drew ∧ (((W.setCell ⟨w.heap.size + 1, 1, none⟩ v).alloc a).alloc b).drew.heap[W.heap.size]? = some a ∧
      (((W.setCell ⟨w.heap.size + 1, 1, none⟩ v).alloc a).alloc b).drew.heap[W.heap.size + 1]? = some b := by
  refine ⟨(h.set 1 v).grown (grown_trans (grown_trans (World.grownBy_alloc _ _ _) (World.grownBy_alloc _ _ _)) (grown_drew _ _)), ?_, ?_⟩
  · show (((W.setCell ⟨w.heap.size + 1, 1, none⟩ v).alloc a).alloc b).heap[W.heap.size]? = some a
    rw [heap_alloc_old _ _ (by simp)]
    simpa using heap_alloc_new (W.setCell ⟨w.heap.size + 1, 1, none⟩ v) a
  · show (((W.setCell ⟨w.heap.size + 1, 1, none⟩ v).alloc a).alloc b).heap[W.heap.size + 1]? = some b
    simpa using heap_alloc_new ((W.setCell ⟨w.heap.size + 1, 1, none⟩ v).alloc a) b

/-- What newScannerSource leaves. -/
structure SrcDone (w : World) (FS : Nat) (nm text : ByteArray) (W : World) : Prop where
  ss : ∃ F cap, W.heap[w.heap.size + 1]? = some (.cells #[.slice (some ⟨w.heap.size + 2, 0, none⟩) text.size cap, .pointer (some ⟨F, 0, none⟩), .pointer (some ⟨FS, 0, none⟩), .int .i32 0, .int .u32 text.size, .int .i64 1] 96 (0, 0)) ∧
    text.size ≤ cap ∧ w.heap.size + 2 < F ∧ W.heap[F]? = some (.cells #[.string nm, .int .i64 text.size, .slice (some ⟨F - 1, 0, none⟩) 1 1, .slice none 0 0] 110 (0, 0)) ∧ W.heap[F - 1]? = some (.cells #[.int .i64 0] 3 (0, 0))
  bb : ∃ cur fr, W.heap[w.heap.size + 2]? = some (.cells cur 5 fr) ∧ ∀ i, i < text.size → cur[i]? = some (.int .u8 (text.data.toList[i]?.getD 0).toNat)
  gr : w.grownBy W (some FS)

set_option maxHeartbeats 4000000 in
set_option maxRecDepth 100000 in
theorem source_any (FS : Nat) (nm text : ByteArray) (w : World) (hs : text.size ≤ 1000000) (hlast : text.size = 0 ∨ (text.data.toList[text.size - 1]?.getD 0).toNat = 10) (hS : w.heap[FS]? = some (.cells #[.slice none 0 0, .int .i32 0] 88 (0, 0))) :
    Calls Tryd.prog 42 #[.pointer (some ⟨FS, 0, none⟩), .agg #[.string nm, .string text, .pointer none]] w fun e w' => e = .returned (.tuple #[.pointer (some ⟨w.heap.size + 1, 0, none⟩), .nilIface]) ∧ SrcDone w FS nm text w' := by
  have l1 : FS < w.heap.size := (Array.getElem?_eq_some_iff.1 hS).1
  obtain ⟨W2, cap, hcv, hcap, hz2, m1, m2, m3, m4, m5⟩ := conv_text w FS nm text _ _ hS
  have hW : SrcW w FS nm text #[.slice none 0 0, .pointer none, .pointer (some ⟨FS, 0, none⟩), .int .i32 0, .int .u32 0, .int .i64 0] W2 := ⟨m1, m2, m3, m4, m5, hz2, l1⟩
  have s0 : W2.cell? ⟨w.heap.size + 1, 0, none⟩ = some (.slice none 0 0) := hW.cell 0
  have s4 : W2.cell? ⟨w.heap.size + 1, 4, none⟩ = some (.int .u32 0) := hW.cell 4
  have sf : ∀ i, W2.frozen? ⟨w.heap.size + 1, i, none⟩ = false := hW.frozen
  have HW := Lib.hid hW
  have HS := Lib.hid hs
  have HC := Lib.hid hcap
  have HL := Lib.hid hlast
  have hq1 : decide ((4294967295 : Int) ≤ (text.size : Int)) = false := by rw [decide_eq_false_iff_not]; omega
  have hq2 : decide (4294967295 ≤ text.size) = false := by rw [decide_eq_false_iff_not]; omega
  clear hS m1 m2 m3 m4 m5 hlast hW hz2
  have hq3 : IntKind.u32.wrap (text.size : Int) = (text.size : Int) := IntWalk.u32_in _ (by omega)
  by_cases h0 : text.size = 0
  · have g1 : ((text.size : Int) != 0) = false := by rw [h0]; rfl
    have h0' : 0 ≤ text.size := by omega
    clear h0
    go_enter Tryd.func42, Tryd.ntmps42
    go_wp2_with fail
    clear hq1 hq2
    go_quiet (fail)
    go_wp2_with fail
    have hW3 := ((HW.out.set 0 (.slice (some ⟨w.heap.size + 2, 0, none⟩) text.size cap)).grown (grown_drewN _ nq none)).set 4 (.int .u32 text.size)
    have p4 := hW3.cell 4
    have p1 := hW3.cell 1
    have pf := hW3.frozen
    have p72 := cell_of_row _ _ 0 _ 72 (0, 0) hW3.b72
    have HW3 := Lib.hid hW3
    simp only [List.setIfInBounds_toArray, List.set_cons_zero, List.set_cons_succ] at p4 p1
    clear s0 s4 sf hW3 hcv
    generalize (((W2.setCell ⟨w.heap.size + 1, 0, none⟩ (.slice (some ⟨w.heap.size + 2, 0, none⟩) text.size cap)).drewN nq).setCell ⟨w.heap.size + 1, 4, none⟩ (.int .u32 text.size)) = w3 at *
    have hq4 : IntKind.i64.wrap (text.size : Int) = (text.size : Int) := IntWalk.i64_in _ (by omega)
    have z1 : w.heap.size + 1 < w3.heap.size := by have := HW3.out.lt; omega
    have z4 : w.heap.size < w3.heap.size := by omega
    have z2 : ¬ (w.heap.size + 1 = w3.heap.size) := by omega
    have z3 : ¬ (w.heap.size = w3.heap.size) := by omega
    clear HL hcap g1 h0' hs l1 hq3
    go_region_held3 (fun w' => w'.cell? ⟨w.heap.size, 0, none⟩ = some (.string nm) ∧ w'.cell? ⟨w.heap.size + 1, 4, none⟩ = some (.int .u32 text.size))
      (first | assumption | (refine ⟨?_, ?_⟩ <;> (go_simp; done)) | go_keep | exact ⟨cell_two (by go_keep) (by go_keep), cell_two (by go_keep) (by go_keep)⟩) ((go_at_call 50; (try rw [hq4]); refine (newFile_any nm text.size _).mono ?_; rintro e w' ⟨rfl, rfl⟩))
    go_wp2_with fail
    refine (filePos_any _ _).mono ?_
    rintro e w' ⟨rfl, rfl⟩
    obtain ⟨hW4, hL, hF⟩ := HW3.out.file (.pointer (some ⟨w3.heap.size + 1, 0, none⟩)) (.cells #[.int .i64 0] 3) (.cells #[.string nm, .int .i64 text.size, .slice (some ⟨w3.heap.size, 0, none⟩) 1 1, .slice none 0 0] 110)
    simp only [List.setIfInBounds_toArray, List.set_cons_zero, List.set_cons_succ] at hW4
    have hk1 : w.heap.size + 2 < w3.heap.size := HW3.out.lt
    have v1 := hW4.cell 1
    have v3 := hW4.cell 3
    have v5 := hW4.cell 5
    have vf := hW4.frozen
    have HW4 := Lib.hid hW4
    have HF := Lib.hid hF
    have HL := Lib.hid hL
    clear hW4 hF hL HW3 p1 p4 pf p72 z1 z2 z3 z4
    generalize (((w3.setCell ⟨w.heap.size + 1, 1, none⟩ (.pointer (some ⟨w3.heap.size + 1, 0, none⟩))).alloc (.cells #[.int .i64 0] 3)).alloc (.cells #[.string nm, .int .i64 text.size, .slice (some ⟨w3.heap.size, 0, none⟩) 1 1, .slice none 0 0] 110)).drew = w4 at *
    generalize w3.heap.size = k at *
    go_wp2_with fail
    have hW5 := HW4.out.set 5 (.int .i64 1)
    simp only [List.setIfInBounds_toArray, List.set_cons_zero, List.set_cons_succ] at hW5
    have o5 : ∀ j, j ≠ w.heap.size + 1 → (w4.setCell ⟨w.heap.size + 1, 5, none⟩ (.int .i64 1)).heap[j]? = w4.heap[j]? := fun j hj => heap_setCell_other w4 _ j _ (by simpa using hj)
    have hF5 := (o5 (k + 1) (by omega)).trans HF.out
    have hL5 := (o5 k (by omega)).trans HL.out
    clear v1 v3 v5 vf HW4 HF HL o5
    generalize w4.setCell ⟨w.heap.size + 1, 5, none⟩ (.int .i64 1) = w5 at *
    refine (add_any FS (k + 1) text.size HS.out w5 (cell_of_row _ _ 1 _ 110 (0, 0) hF5) hW5.fs).mono ?_
    rintro e w6 ⟨rfl, hg⟩
    have hlt : ∀ j, w.heap.size ≤ j → j < w5.heap.size → w6.heap[j]? = w5.heap[j]? := fun j h1 h2 => hg.block j h2 (by have := hW5.fl; intro e; injection e with e; omega)
    have kS := (hlt (w.heap.size + 1) (by omega) (by have := hW5.lt; omega)).trans hW5.ss
    have kB := hlt (w.heap.size + 2) (by omega) hW5.lt
    have kF := (hlt (k + 1) (by omega) (Array.getElem?_eq_some_iff.1 hF5).1).trans hF5
    have kL := (hlt k (by omega) (Array.getElem?_eq_some_iff.1 hL5).1).trans hL5
    have kc : w6.cell? ⟨w.heap.size + 1, 3, none⟩ = some (.int .i32 0) := cell_of_row _ _ 3 _ 96 (0, 0) kS
    have kf : w6.frozen? ⟨w.heap.size + 1, 3, none⟩ = false := by simp [World.frozen?, kS]
    have HD : Hid (SrcDone w FS nm text (w6.setCell ⟨w.heap.size + 1, 3, none⟩ (.int .i32 0))) := by
      have o6 : ∀ j, j ≠ w.heap.size + 1 → (w6.setCell ⟨w.heap.size + 1, 3, none⟩ (.int .i32 0)).heap[j]? = w6.heap[j]? := fun j hj => heap_setCell_other w6 _ j _ (by simpa using hj)
      refine ⟨⟨k + 1, cap, ?_, HC.out, by omega, (o6 _ (by omega)).trans kF, by rw [Nat.add_sub_cancel]; exact (o6 _ (by omega)).trans kL⟩, ?_, ?_⟩
      · have := heap_setCell_same w6 _ 3 _ 96 (.int .i32 0) kS
        simpa only [List.setIfInBounds_toArray, List.set_cons_zero, List.set_cons_succ] using this
      · obtain ⟨cur, fr, hb, hc⟩ := hW5.bb
        exact ⟨cur, fr, (o6 _ (by omega)).trans (kB.trans hb), hc⟩
      · have h1 := grown_trans (grown_weaken hW5.gr (some FS)) hg
        exact ⟨h1.os, h1.tape, h1.output, by simpa using h1.size, fun j hj hr => (o6 j (by omega)).trans (h1.block j hj hr)⟩
    clear hW5 hF5 hL5 hg hlt kS kB kF kL
    go_wp2
    go_ret2
    exact ⟨rfl, HD.out⟩
  · have g1 : ((text.size : Int) != 0) = true := by rw [bne_iff_ne]; omega
    have hb : W2.cell? ⟨w.heap.size + 2, text.size - 1, none⟩ = some (.int .u8 10) := by
      obtain ⟨cur, fr, hb, hc⟩ := HW.out.bb
      rw [cell_of_row _ _ (text.size - 1) cur 5 fr hb, hc (text.size - 1) (by omega)]
      rcases HL.out with h | h
      · omega
      · rw [h]; rfl
    have h0' : 0 < text.size := by omega
    clear h0
    go_enter Tryd.func42, Tryd.ntmps42
    go_wp2_with fail
    clear hq1 hq2
    have hA : IntKind.i64.wrap ((text.size : Int) - 1) = (text.size : Int) - 1 := IntWalk.i64_in _ (by omega)
    have hB : (0 : Int) ≤ (text.size : Int) - 1 := by omega
    have hB2 : (1 : Int) ≤ (text.size : Int) := by omega
    have hC : ((text.size : Int) - 1).toNat = text.size - 1 := by omega
    have hD : (text.size : Int) - 1 < (text.size : Int) := by omega
    go_quiet (fail)
    clear hA hB hB2 hC hD hb
    go_wp2_with fail
    have hW3 := ((HW.out.set 0 (.slice (some ⟨w.heap.size + 2, 0, none⟩) text.size cap)).grown (grown_drewN _ nq none)).set 4 (.int .u32 text.size)
    have p4 := hW3.cell 4
    have p1 := hW3.cell 1
    have pf := hW3.frozen
    have p72 := cell_of_row _ _ 0 _ 72 (0, 0) hW3.b72
    have HW3 := Lib.hid hW3
    simp only [List.setIfInBounds_toArray, List.set_cons_zero, List.set_cons_succ] at p4 p1
    clear s0 s4 sf hW3 hcv
    generalize (((W2.setCell ⟨w.heap.size + 1, 0, none⟩ (.slice (some ⟨w.heap.size + 2, 0, none⟩) text.size cap)).drewN nq).setCell ⟨w.heap.size + 1, 4, none⟩ (.int .u32 text.size)) = w3 at *
    have hq4 : IntKind.i64.wrap (text.size : Int) = (text.size : Int) := IntWalk.i64_in _ (by omega)
    have z1 : w.heap.size + 1 < w3.heap.size := by have := HW3.out.lt; omega
    have z4 : w.heap.size < w3.heap.size := by omega
    have z2 : ¬ (w.heap.size + 1 = w3.heap.size) := by omega
    have z3 : ¬ (w.heap.size = w3.heap.size) := by omega
    clear HL hcap g1 h0' hs l1 hq3
    go_region_held3 (fun w' => w'.cell? ⟨w.heap.size, 0, none⟩ = some (.string nm) ∧ w'.cell? ⟨w.heap.size + 1, 4, none⟩ = some (.int .u32 text.size))
      (first | assumption | (refine ⟨?_, ?_⟩ <;> (go_simp; done)) | go_keep | exact ⟨cell_two (by go_keep) (by go_keep), cell_two (by go_keep) (by go_keep)⟩) ((go_at_call 50; (try rw [hq4]); refine (newFile_any nm text.size _).mono ?_; rintro e w' ⟨rfl, rfl⟩))
    go_wp2_with fail
    refine (filePos_any _ _).mono ?_
    rintro e w' ⟨rfl, rfl⟩
    obtain ⟨hW4, hL, hF⟩ := HW3.out.file (.pointer (some ⟨w3.heap.size + 1, 0, none⟩)) (.cells #[.int .i64 0] 3) (.cells #[.string nm, .int .i64 text.size, .slice (some ⟨w3.heap.size, 0, none⟩) 1 1, .slice none 0 0] 110)
    simp only [List.setIfInBounds_toArray, List.set_cons_zero, List.set_cons_succ] at hW4
    have hk1 : w.heap.size + 2 < w3.heap.size := HW3.out.lt
    have v1 := hW4.cell 1
    have v3 := hW4.cell 3
    have v5 := hW4.cell 5
    have vf := hW4.frozen
    have HW4 := Lib.hid hW4
    have HF := Lib.hid hF
    have HL := Lib.hid hL
    clear hW4 hF hL HW3 p1 p4 pf p72 z1 z2 z3 z4
    generalize (((w3.setCell ⟨w.heap.size + 1, 1, none⟩ (.pointer (some ⟨w3.heap.size + 1, 0, none⟩))).alloc (.cells #[.int .i64 0] 3)).alloc (.cells #[.string nm, .int .i64 text.size, .slice (some ⟨w3.heap.size, 0, none⟩) 1 1, .slice none 0 0] 110)).drew = w4 at *
    generalize w3.heap.size = k at *
    go_wp2_with fail
    have hW5 := HW4.out.set 5 (.int .i64 1)
    simp only [List.setIfInBounds_toArray, List.set_cons_zero, List.set_cons_succ] at hW5
    have o5 : ∀ j, j ≠ w.heap.size + 1 → (w4.setCell ⟨w.heap.size + 1, 5, none⟩ (.int .i64 1)).heap[j]? = w4.heap[j]? := fun j hj => heap_setCell_other w4 _ j _ (by simpa using hj)
    have hF5 := (o5 (k + 1) (by omega)).trans HF.out
    have hL5 := (o5 k (by omega)).trans HL.out
    clear v1 v3 v5 vf HW4 HF HL o5
    generalize w4.setCell ⟨w.heap.size + 1, 5, none⟩ (.int .i64 1) = w5 at *
    refine (add_any FS (k + 1) text.size HS.out w5 (cell_of_row _ _ 1 _ 110 (0, 0) hF5) hW5.fs).mono ?_
    rintro e w6 ⟨rfl, hg⟩
    have hlt : ∀ j, w.heap.size ≤ j → j < w5.heap.size → w6.heap[j]? = w5.heap[j]? := fun j h1 h2 => hg.block j h2 (by have := hW5.fl; intro e; injection e with e; omega)
    have kS := (hlt (w.heap.size + 1) (by omega) (by have := hW5.lt; omega)).trans hW5.ss
    have kB := hlt (w.heap.size + 2) (by omega) hW5.lt
    have kF := (hlt (k + 1) (by omega) (Array.getElem?_eq_some_iff.1 hF5).1).trans hF5
    have kL := (hlt k (by omega) (Array.getElem?_eq_some_iff.1 hL5).1).trans hL5
    have kc : w6.cell? ⟨w.heap.size + 1, 3, none⟩ = some (.int .i32 0) := cell_of_row _ _ 3 _ 96 (0, 0) kS
    have kf : w6.frozen? ⟨w.heap.size + 1, 3, none⟩ = false := by simp [World.frozen?, kS]
    have HD : Hid (SrcDone w FS nm text (w6.setCell ⟨w.heap.size + 1, 3, none⟩ (.int .i32 0))) := by
      have o6 : ∀ j, j ≠ w.heap.size + 1 → (w6.setCell ⟨w.heap.size + 1, 3, none⟩ (.int .i32 0)).heap[j]? = w6.heap[j]? := fun j hj => heap_setCell_other w6 _ j _ (by simpa using hj)
      refine ⟨⟨k + 1, cap, ?_, HC.out, by omega, (o6 _ (by omega)).trans kF, by rw [Nat.add_sub_cancel]; exact (o6 _ (by omega)).trans kL⟩, ?_, ?_⟩
      · have := heap_setCell_same w6 _ 3 _ 96 (.int .i32 0) kS
        simpa only [List.setIfInBounds_toArray, List.set_cons_zero, List.set_cons_succ] using this
      · obtain ⟨cur, fr, hb, hc⟩ := hW5.bb
        exact ⟨cur, fr, (o6 _ (by omega)).trans (kB.trans hb), hc⟩
      · have h1 := grown_trans (grown_weaken hW5.gr (some FS)) hg
        exact ⟨h1.os, h1.tape, h1.output, by simpa using h1.size, fun j hj hr => (o6 j (by omega)).trans (h1.block j hj hr)⟩
    clear hW5 hF5 hL5 hg hlt kS kB kF kL
    go_wp2
    go_ret2
    exact ⟨rfl, HD.out⟩
end Go.Proofs.YtfooeinfgmfhpaaDoor
