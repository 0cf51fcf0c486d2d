/- The scanner's making: newFset, newFile, add, newScannerSource, newScanner. -/
import Derived.Test.YtfooeinfgmfhpaaDoorScI
import Derived.Deep.AppendLies
import Derived.Deep.RegionLaw
namespace Go.Proofs.YtfooeinfgmfhpaaDoor
open Go.RowKit

set_option maxHeartbeats 400000 in
set_option maxRecDepth 100000 in
theorem newFset_any (w : World) : Calls Tryd.prog 36 #[] w fun e w' => e = .returned (.pointer (some ⟨w.heap.size, 0, none⟩)) ∧ w.alloc (.cells #[.slice none 0 0, .int .i32 0] 88) = w' := by
  go_enter Tryd.func36, Tryd.ntmps36
  go_wp2
  go_ret
  exact ⟨rfl, rfl⟩

set_option maxHeartbeats 400000 in
set_option maxRecDepth 100000 in
theorem newFile_any (nm : ByteArray) (n : Nat) (w : World) : Calls Tryd.prog 50 #[.string nm, .int .i64 n] w fun e w' => e = .returned (.pointer (some ⟨w.heap.size + 1, 0, none⟩)) ∧
    (w.alloc (.cells #[.int .i64 0] 3)).alloc (.cells #[.string nm, .int .i64 n, .slice (some ⟨w.heap.size, 0, none⟩) 1 1, .slice none 0 0] 110) = w' := by
  go_enter Tryd.func50, Tryd.ntmps50
  go_wp2
  go_ret
  exact ⟨rfl, rfl⟩

set_option maxHeartbeats 400000 in
set_option maxRecDepth 100000 in
theorem filePos_any (a : Option Addr) (w : World) : Calls Tryd.prog 51 #[.pointer a, .int .i64 0] w fun e w' => e = .returned (.int .i64 1) ∧ w = w' := by
  go_enter Tryd.func51, Tryd.ntmps51
  go_wp2
  go_ret
  exact ⟨rfl, rfl⟩

set_option maxHeartbeats 400000 in
set_option maxRecDepth 100000 in
theorem fileSize_any (F : Nat) (n : Nat) (w : World) (h : w.cell? ⟨F, 1, none⟩ = some (.int .i64 n)) : Calls Tryd.prog 65 #[.pointer (some ⟨F, 0, none⟩)] w fun e w' => e = .returned (.int .i64 n) ∧ w' = w := by
  go_enter Tryd.func65, Tryd.ntmps65
  go_wp2
  go_ret
  exact ⟨rfl, rfl⟩

theorem grown_trans {a b c : World} {r : Option Nat} (h : a.grownBy b r) (k : b.grownBy c r) : a.grownBy c r :=
  ⟨k.os.trans h.os, k.tape.trans h.tape, k.output.trans h.output, Nat.le_trans h.size k.size, fun i hi hr => (k.block i (Nat.lt_of_lt_of_le hi h.size) hr).trans (h.block i hi hr)⟩
theorem grown_weaken {a b : World} (h : a.grownBy b none) (r : Option Nat) : a.grownBy b r := ⟨h.os, h.tape, h.output, h.size, fun i hi _ => h.block i hi (by simp)⟩
theorem grown_set (w : World) (B i : Nat) (v : Value) : w.grownBy (w.setCell ⟨B, i, none⟩ v) (some B) :=
  ⟨rfl, rfl, rfl, by simp, fun k _ hk => heap_setCell_other w _ k v (by intro e; exact hk (by simp [e]))⟩
theorem grown_drew (w : World) (r : Option Nat) : w.grownBy w.drew r := ⟨rfl, rfl, rfl, Nat.le_refl _, fun _ _ _ => rfl⟩
theorem grown_drewN (w : World) (n : Nat) (r : Option Nat) : w.grownBy (w.drewN n) r := ⟨rfl, rfl, rfl, Nat.le_refl _, fun _ _ _ => rfl⟩
theorem grown_refl (w : World) (r : Option Nat) : w.grownBy w r := ⟨rfl, rfl, rfl, Nat.le_refl _, fun _ _ _ => rfl⟩

theorem grown_chain {w w2 w3 w4 : World} {FS : Nat} {o : Obj} (hg : w.grownBy w2 (some FS)) (hw3 : w2.grownBy w3 none) (hgrow : (w3.alloc o).drew.grownBy w4 none) (v0 v1 : Value) :
    w.grownBy ((w4.setCell ⟨FS, 0, none⟩ v0).setCell ⟨FS, 1, none⟩ v1) (some FS) :=
  grown_trans (grown_trans (grown_trans (grown_trans (grown_trans (grown_trans hg (grown_weaken hw3 _)) (World.grownBy_alloc _ _ _)) (grown_drew _ _)) (grown_weaken hgrow _)) (grown_set _ _ _ _)) (grown_set _ _ _ _)

theorem info113 : (Tryd.prog.info? 113).map (fun i => (i.zero, i.size, i.bytes)) = some (some (.agg #[.pointer none, .int .i32 0, .int .i32 0]), 3, 16) := by kernel_rfl

set_option maxHeartbeats 2000000 in
set_option maxRecDepth 100000 in
theorem add_any (FS F : Nat) (n : Nat) (hn : n ≤ 1000000) (w : World) (hF : w.cell? ⟨F, 1, none⟩ = some (.int .i64 n)) (hS : w.heap[FS]? = some (.cells #[.slice none 0 0, .int .i32 0] 88 (0, 0))) :
    Calls Tryd.prog 52 #[.pointer (some ⟨FS, 0, none⟩), .pointer (some ⟨F, 0, none⟩)] w fun e w' => e = .returned (.tuple #[.int .i32 0, .nilIface]) ∧ w.grownBy w' (some FS) := by
  have s0 : w.cell? ⟨FS, 0, none⟩ = some (.slice none 0 0) := cell_of_row w FS 0 _ 88 (0, 0) hS
  have s1 : w.cell? ⟨FS, 1, none⟩ = some (.int .i32 0) := cell_of_row w FS 1 _ 88 (0, 0) hS
  have sf : ∀ i, w.frozen? ⟨FS, i, none⟩ = false := fun i => by simp [World.frozen?, hS]
  have l1 : FS < w.heap.size := (Array.getElem?_eq_some_iff.1 hS).1
  have l2 := World.block_lt_of_cell? w _ hF
  simp at l2
  have HS := Lib.hid hS
  clear hS
  go_enter Tryd.func52, Tryd.ntmps52
  go_wp2_with fail
  go_quiet ((go_at_call 65; exact Calls.quiet_of_same (fileSize_any F n _ hF)))
  have hq1 : (0 : Int) < (n : Int) + 1 := by omega
  have hq2 : (n : Int) + 1 ≤ 2147483647 := by omega
  go_wp2_with (fail)
  refine (fileSize_any F n (w.drewN nq) hF).mono ?_
  rintro e w1 ⟨rfl, rfl⟩
  clear hq1 hq2
  have hg : Hid (w.grownBy (w.drewN nq) (some FS)) := ⟨rfl, rfl, rfl, Nat.le_refl _, fun _ _ _ => rfl⟩
  have a0 : (w.drewN nq).cell? ⟨FS, 0, none⟩ = some (.slice none 0 0) := s0
  have a1 : (w.drewN nq).cell? ⟨FS, 1, none⟩ = some (.int .i32 0) := s1
  have af : ∀ i, (w.drewN nq).frozen? ⟨FS, i, none⟩ = false := sf
  have b1 : FS < (w.drewN nq).heap.size := l1
  have hz : Hid ((w.drewN nq).heap.size = w.heap.size) := rfl
  clear s0 s1 sf l1 l2 hF HS
  generalize w.drewN nq = w2 at *
  go_wp2_with (fail)
  have hw3 : Hid (w2.grownBy (w2.alloc (.cells #[.pointer (some ⟨F, 0, none⟩), .int .i32 0, .int .i32 n] 113)) none) := World.grownBy_alloc _ _ _
  have d0 : (w2.alloc (.cells #[.pointer (some ⟨F, 0, none⟩), .int .i32 0, .int .i32 n] 113)).cell? ⟨FS, 0, none⟩ = some (.slice none 0 0) := by rw [World.cell?_alloc_lt _ _ _ b1]; exact a0
  have d1 : (w2.alloc (.cells #[.pointer (some ⟨F, 0, none⟩), .int .i32 0, .int .i32 n] 113)).cell? ⟨FS, 1, none⟩ = some (.int .i32 0) := by rw [World.cell?_alloc_lt _ _ _ b1]; exact a1
  have df : ∀ i, (w2.alloc (.cells #[.pointer (some ⟨F, 0, none⟩), .int .i32 0, .int .i32 n] 113)).frozen? ⟨FS, i, none⟩ = false := fun i => by rw [World.frozen?_alloc_old _ _ _ (Nat.ne_of_lt b1)]; exact af i
  have e0 : (w2.alloc (.cells #[.pointer (some ⟨F, 0, none⟩), .int .i32 0, .int .i32 n] 113)).cell? ⟨w2.heap.size, 0, none⟩ = some (.pointer (some ⟨F, 0, none⟩)) := cell_of_row _ _ 0 _ 113 (0, 0) (heap_alloc_new _ _)
  have e1 : (w2.alloc (.cells #[.pointer (some ⟨F, 0, none⟩), .int .i32 0, .int .i32 n] 113)).cell? ⟨w2.heap.size, 1, none⟩ = some (.int .i32 0) := cell_of_row _ _ 1 _ 113 (0, 0) (heap_alloc_new _ _)
  have e2 : (w2.alloc (.cells #[.pointer (some ⟨F, 0, none⟩), .int .i32 0, .int .i32 n] 113)).cell? ⟨w2.heap.size, 2, none⟩ = some (.int .i32 n) := cell_of_row _ _ 2 _ 113 (0, 0) (heap_alloc_new _ _)
  have b3 : FS < (w2.alloc (.cells #[.pointer (some ⟨F, 0, none⟩), .int .i32 0, .int .i32 n] 113)).heap.size := by simp; omega
  have b4 : w2.heap.size < (w2.alloc (.cells #[.pointer (some ⟨F, 0, none⟩), .int .i32 0, .int .i32 n] 113)).heap.size := by simp
  generalize w2.alloc (.cells #[.pointer (some ⟨F, 0, none⟩), .int .i32 0, .int .i32 n] 113) = w3 at *
  have b5 : ¬ FS = w2.heap.size := by omega
  clear a0 a1 af b1
  generalize w2.heap.size = k at *
  obtain ⟨i0, hi0, hz0, hz1, hz2⟩ := info_parts info113
  go_region_law
    ((refine step_append_lies _ (by rfl) _ _ _ (by rfl) 0 113 i0 _ 3 16 Tryd.underlying86 hi0 hz0 hz1 hz2 rfl (by omega) (.slice none 0 0) 0 [] (by rfl) (World.ownsRow_nil _ _ _ _)
        ⟨w3.heap.size, 0, none⟩ 1 1 [.pointer (some ⟨F, 0, none⟩), .int .i32 0, .int .i32 n] (by rfl) (by rfl) (World.news_of_block (cs := #[.pointer (some ⟨F, 0, none⟩), .int .i32 0, .int .i32 n]) (t := 113) (fr := (0, 0)) (heap_alloc_new w3 _)) (by simp [Value.oneCell'])
        (by omega) (by unfold maxLen; omega) (by omega) (by simp) (w3.heap.size + 1) (by simp) ?_; intro gg cap w4 hown1 hgrow hat hlt;
      have q0 : w4.cell? ⟨FS, 0, none⟩ = some (.slice none 0 0) := (by rw [hgrow.cell_far _ (by simp; omega) (by simp [Value.ownBlock])]; go_simp);
      have q1 : w4.cell? ⟨FS, 1, none⟩ = some (.int .i32 0) := (by rw [hgrow.cell_far _ (by simp; omega) (by simp [Value.ownBlock])]; go_simp);
      have q2 : w4.frozen? ⟨FS, 0, none⟩ = false := (by rw [hgrow.frozen_far _ (by simp; omega) (by simp [Value.ownBlock])]; rw [World.frozen?_drew, World.frozen?_alloc_old _ _ _ (by simp; omega)]; exact df 0);
      have q3 : w4.frozen? ⟨FS, 1, none⟩ = false := (by rw [hgrow.frozen_far _ (by simp; omega) (by simp [Value.ownBlock])]; rw [World.frozen?_drew, World.frozen?_alloc_old _ _ _ (by simp; omega)]; exact df 1)))
  all_goals
    have hfin : Hid (∀ v0 v1 : Value, w.grownBy ((w4.setCell ⟨FS, 0, none⟩ v0).setCell ⟨FS, 1, none⟩ v1) (some FS)) := grown_chain hg.out hw3.out hgrow
    clear d0 d1 df e0 e1 e2 b4 hown1 hgrow hat hlt hi0 hz0 hz1 hz2
    go_wp2
    go_ret2
    exact ⟨rfl, hfin.out _ _⟩
end Go.Proofs.YtfooeinfgmfhpaaDoor
