/- newScanner: the scanner at the start of a text. -/
import Derived.Test.YtfooeinfgmfhpaaDoorScP
namespace Go.Proofs.YtfooeinfgmfhpaaDoor
open Go.RowKit

/-- A text that the scanner may be given: short, of ASCII bytes, no backslash, and ended by a new line if it is not empty. -/
structure TextOk (text : ByteArray) : Prop where
  len : text.size ≤ 1000000
  asc : ∀ i, i < text.size → (text.data.toList[i]?.getD 0).toNat < 128
  bsl : ∀ i, i < text.size → (text.data.toList[i]?.getD 0).toNat ≠ 92
  last : text.size = 0 ∨ (text.data.toList[text.size - 1]?.getD 0).toNat = 10

theorem len_toList (text : ByteArray) : text.data.toList.length = text.size := Array.length_toList

theorem ownsRow_one {w : World} {F : Nat} {b : Nat} (h : w.heap[F]? = some (.cells #[.int .i64 0] 3 (0, 0))) (hb : b ≤ F) : w.ownsRow b 3 1 (.slice (some ⟨F, 0, none⟩) 1 1) 1 [.int .i64 0] :=
  ⟨rfl, Or.inr ⟨F, 1, #[.int .i64 0], rfl, hb, h, by decide, by unfold maxLen; omega, rfl, rfl⟩⟩

theorem sc_made {FS : Nat} {nm text : ByteArray} {w w1 w2 : World} (eh : Value) (ht : TextOk text) (hw : w.grownBy w1 none) (hd : SrcDone w1 FS nm text w2) (h0 : 0 < w.heap.size) (hFS : 0 < FS)
    (hG : ∀ i, i < 128 → w.cell? ⟨0, i, none⟩ = some (.int .u8 (tbl i))) :
    ∃ E : Env, EnvOk E ∧ E.text = text.data.toList ∧ E.base = w.heap.size ∧ E.S = w2.heap.size ∧ E.SS = w1.heap.size + 1 ∧ w.heap.size ≤ E.F ∧ E.F ≠ E.S ∧ w.grownBy (w2.alloc (.cells #[.pointer (some ⟨w1.heap.size + 1, 0, none⟩), eh, .int .i64 0, .int .i64 0, .int .i32 (-1), .int .u32 0, .int .u32 0, .int .u32 0, .bool false, .bool false] 84)) (some FS) ∧
      Sc E ⟨0, -1, 0, 0, 0, 0, false⟩ (w2.alloc (.cells #[.pointer (some ⟨w1.heap.size + 1, 0, none⟩), eh, .int .i64 0, .int .i64 0, .int .i32 (-1), .int .u32 0, .int .u32 0, .int .u32 0, .bool false, .bool false] 84)) := by
  obtain ⟨F, cap, hss, hcap, hF, hfb, hlb⟩ := hd.ss
  obtain ⟨cur, fr, hb, hc⟩ := hd.bb
  have hz : w.heap.size ≤ w1.heap.size := hw.size
  have lF := (Array.getElem?_eq_some_iff.1 hfb).1
  have lS := (Array.getElem?_eq_some_iff.1 hss).1
  have lB := (Array.getElem?_eq_some_iff.1 hb).1
  have hgr := grown_trans (grown_trans (grown_weaken hw (some FS)) hd.gr) (World.grownBy_alloc w2 (.cells #[.pointer (some ⟨w1.heap.size + 1, 0, none⟩), eh, .int .i64 0, .int .i64 0, .int .i32 (-1), .int .u32 0, .int .u32 0, .int .u32 0, .bool false, .bool false] 84) _)
  refine ⟨⟨w2.heap.size, w1.heap.size + 1, F, w1.heap.size + 2, cap, w.heap.size, eh, .pointer (some ⟨FS, 0, none⟩), nm, text.data.toList⟩, ?_, rfl, rfl, rfl, rfl, by show w.heap.size ≤ F; omega, by show F ≠ w2.heap.size; omega, hgr, ?_⟩
  · have e := len_toList text
    refine ⟨by show text.data.toList.length ≤ _; rw [e]; exact ht.len, by show text.data.toList.length ≤ _; rw [e]; exact hcap, fun i hi => ht.asc i (by rw [← e]; exact hi), fun i hi => ht.bsl i (by rw [← e]; exact hi), fun h => ?_⟩
    have := ht.last
    show (text.data.toList[text.data.toList.length - 1]?.getD 0).toNat = 10
    have h' : 0 < text.data.toList.length := h
    rw [e] at h' ⊢
    rcases this with h | h
    · omega
    · exact h
  · have e := len_toList text
    refine ⟨heap_alloc_new _ _, ?_, ⟨cur, fr, (heap_alloc_old _ _ lB).trans hb, fun i hi => hc i (by rw [← e]; exact hi)⟩, ⟨.slice (some ⟨F - 1, 0, none⟩) 1 1, [], 0, ?_, ?_, by simp, by simp⟩, fun i hi => ?_, ?_⟩
    · show _ = some (Obj.cells (#[.slice (some ⟨w1.heap.size + 2, 0, none⟩) text.data.toList.length cap, _, _, _, .int .u32 text.data.toList.length, _]) _ _)
      rw [e]; exact (heap_alloc_old _ _ lS).trans hss
    · show _ = some (Obj.cells (#[_, .int .i64 text.data.toList.length, _, _]) _ _)
      rw [e]; exact (heap_alloc_old _ _ lF).trans hfb
    · exact ownsRow_one ((heap_alloc_old _ _ (by omega)).trans hlb) (by show w.heap.size ≤ F - 1; omega)
    · rw [← hG i hi]
      exact World.cell?_of_block (hgr.block 0 h0 (by intro e; injection e with e; omega))
    · refine ⟨by show 0 < w2.heap.size; omega, by show 0 < F; omega, h0⟩

theorem peek0 (E : Env) (HE : EnvOk E) (s : St) (w : World) (h : Sc E s w) (hs : s.off = 0) :
    Calls Tryd.prog 43 #[.pointer (some ⟨E.S, 0, none⟩), .int .u32 0] w fun e w' => ∃ (v : Int) (n : Nat), e = .returned (.int .i64 v) ∧ (v == 239) = false ∧ w' = w.drewN n := by
  by_cases hl : 0 < E.text.length
  · refine (peek_in E HE s w h 0 (by omega)).mono ?_
    rintro e w' ⟨rfl, n, rfl⟩
    have := HE.asc (s.off + 0) (by omega)
    exact ⟨_, n, rfl, by rw [beq_eq_false_iff_ne]; omega, rfl⟩
  · refine (peek_out E s w h 0 (by omega) (by omega)).mono ?_
    rintro e w' ⟨rfl, n, rfl⟩
    exact ⟨_, n, rfl, rfl, rfl⟩

set_option maxHeartbeats 4000000 in
set_option maxRecDepth 100000 in
theorem newScanner_any (FS : Nat) (nm text : ByteArray) (fn : Fn) (a1 a2 : Array Value) (w : World) (ht : TextOk text) (hS : w.heap[FS]? = some (.cells #[.slice none 0 0, .int .i32 0] 88 (0, 0))) (hFS : 0 < FS)
    (hG : ∀ i, i < 128 → w.cell? ⟨0, i, none⟩ = some (.int .u8 (tbl i))) :
    Calls Tryd.prog 35 #[.pointer (some ⟨FS, 0, none⟩), .agg #[.string nm, .string text, .pointer none], .func fn a1 a2] w fun e w' =>
      ∃ E : Env, e = .returned (.tuple #[.pointer (some ⟨E.S, 0, none⟩), .nilIface]) ∧ EnvOk E ∧ E.text = text.data.toList ∧ E.base = w.heap.size ∧ w.heap.size ≤ E.S ∧ w.heap.size ≤ E.F ∧ w.grownBy w' (some FS) ∧ Sc E ⟨0, -1, 0, 0, 0, 0, false⟩ w' := by
  have l1 : FS < w.heap.size := (Array.getElem?_eq_some_iff.1 hS).1
  have hl : Hid (w.grownBy (w.alloc (.cells #[.string nm, .string text, .pointer none] 72)) none) := World.grownBy_alloc _ _ _
  have hS1 : (w.alloc (.cells #[.string nm, .string text, .pointer none] 72)).heap[FS]? = some (.cells #[.slice none 0 0, .int .i32 0] 88 (0, 0)) := (heap_alloc_old _ _ l1).trans hS
  have HT := Lib.hid ht
  have HG := Lib.hid hG
  clear hS ht hG
  go_enter Tryd.func35, Tryd.ntmps35
  go_wp2_with fail
  refine (source_any FS nm text _ HT.out.len HT.out.last hS1).mono ?_
  rintro e w2 ⟨rfl, hd⟩
  obtain ⟨E, hE, ht, hb, hs, hss, hF, hFS', hg, hsc⟩ := sc_made (.func fn a1 a2) HT.out hl.out hd (by omega) hFS HG.out
  have hz1 : (w.alloc (.cells #[.string nm, .string text, .pointer none] 72)).heap.size = w.heap.size + 1 := by simp
  rw [hz1] at hg hsc hss
  have hz := hd.gr.size
  have hz' := hl.out.size
  have HD := Lib.hid (And.intro hb (And.intro hF (And.intro (Nat.le_trans hz' hz) hg)))
  have HE := Lib.hid hE
  have HT2 := Lib.hid ht
  have HSC := Lib.hid hsc
  have HS := Lib.hid hs
  have HSS := Lib.hid hss
  clear hE ht hb hs hss hF hFS' hg hsc hz hz' hd hS1 HG hl l1 hFS hz1
  go_wp2_with fail
  generalize w2.alloc (.cells #[.pointer (some ⟨w.heap.size + 1 + 1, 0, none⟩), .func fn a1 a2, .int .i64 0, .int .i64 0, .int .i32 (-1), .int .u32 0, .int .u32 0, .int .u32 0, .bool false, .bool false] 84) = w3 at *
  rw [← HS.out]
  refine (peek0 E HE.out _ w3 HSC.out rfl).mono ?_
  rintro e w4 ⟨v, n, rfl, hv, rfl⟩
  have HV := Lib.hid (And.intro HE.out (And.intro HT2.out (And.intro HD.out.1 (And.intro (Nat.le_trans HD.out.2.2.1 (Nat.le_of_eq HS.out.symm)) (And.intro HD.out.2.1 (And.intro (grown_trans HD.out.2.2.2 (grown_drewN w3 n _)) (HSC.out.drewN n)))))))
  clear HE HT2 HD HSC HSS HT
  go_wp2
  refine bodyPost_ret (v := .tuple #[.pointer (some ⟨E.S, 0, none⟩), .nilIface]) (by simp [results, Tryd.results35, go_sem]) rfl ⟨E, rfl, HV.out⟩
end Go.Proofs.YtfooeinfgmfhpaaDoor
