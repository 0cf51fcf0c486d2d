/- Clear. -/
import Derived.Test.YtfooeinfgmfhpaaDoorFsH
namespace Go.Proofs.YtfooeinfgmfhpaaDoor
open Go.RowKit

/-- Whether white space is ahead of token i behind Clear. -/
def clr (T : Nat → ByteArray) (B : Nat → Bool) (i : Nat) : Bool := if 0 < i ∧ glueB (T (i - 1)) (T i) = true then true else B i

/-- A store into the call's own new block. -/
theorem Own.setNew {w wr w3 : World} {e z n k : Nat} {xs : List Value} {out : Value} (h : Own w e z n xs out wr) (h3 : Own w e z n xs out w3) (hk : wr.heap.size ≤ k) (i : Nat) (v : Value) : Own w e z n xs out (w3.setCell ⟨k, i, none⟩ v) := by
  refine ⟨h3.row.kept (grown_set w3 k i v) ?_, ?_⟩
  · cases hb : out.ownBlock with
    | none => exact Or.inl rfl
    | some g =>
      right
      intro e
      injection e with e
      have := (h.row.lt g hb).2
      omega
  · have hz := h.gr.size
    exact ⟨h3.gr.os, h3.gr.tape, h3.gr.output, by simpa using h3.gr.size, fun j hj hr => (heap_setCell_other w3 _ j v (by simp; omega)).trans (h3.gr.block j hj hr)⟩

set_option maxHeartbeats 4000000 in
set_option maxRecDepth 100000 in
theorem clear_any (A : Option Addr) (n cap : Nat) (T : Nat → ByteArray) (B : Nat → Bool) (w : World) (h : ToksAt w A n T B) (hn : n ≤ 40) :
    Calls Tryd.prog 34 #[.slice A n cap] w fun e w' => ∃ v, e = .returned v ∧ Own w 44 2 n (tokL T (clr T B) n) v w' := by
  have H := Lib.hid h
  have HN := Lib.hid hn
  clear h hn
  go_enter Tryd.func34, Tryd.ntmps34
  go_wp2_with fail
  have hL0 : Hid (Own w 44 2 0 (tokL T (clr T B) 0) (.slice (some ⟨w.heap.size, 0, none⟩) 0 0) (w.alloc (.cells #[] 44))) := ⟨ownsRow_zero' (heap_alloc_new _ _) (Nat.le_refl _), World.grownBy_alloc _ _ _⟩
  generalize w.alloc (.cells #[] 44) = w1 at *
  go_loopg [3, 9] n (fun g v c wr => ∃ i : Nat, i ≤ n ∧ c = .int .i64 i ∧ g = n - i ∧ Own w 44 2 i (tokL T (clr T B) i) v wr)
  case atStart => exact ⟨0, Nat.zero_le _, rfl, rfl, hL0.out⟩
  case round =>
    obtain ⟨i, hi, rfl, hg, hO⟩ := hrel
    have HG := Lib.hid hg
    have HO := Lib.hid hO
    clear hg hO hL0
    by_cases hk : i < n
    · obtain ⟨a, rfl, hc0, hc1⟩ := H.out.grown HO.out.gr i hk
      have hw : IntKind.i64.wrap ((i : Int) + 1) = (i : Int) + 1 := IntWalk.i64_in _ (by have := HN.out; omega)
      have hc1' : wr.cell? ⟨(a.add (i * 2)).block, (a.add (i * 2)).off + 1, none⟩ = some (.bool (B i)) := by rw [add_c1]; exact hc1
      clear hc1
      have hO2 := HO.out.grown (World.grownBy_alloc wr (.cells #[.string (T i), .bool (B i)] 44) none)
      have HO2 := Lib.hid hO2
      have hT2 := H.out.grown hO2.gr
      have hb := heap_alloc_new wr (.cells #[.string (T i), .bool (B i)] 44)
      by_cases h0 : 0 < i
      · obtain ⟨a', ha', hp0, _⟩ := hT2 (i - 1) (by omega)
        obtain rfl : a = a' := by injection ha'
        have t0 : (wr.alloc (.cells #[.string (T i), .bool (B i)] 44)).cell? ⟨wr.heap.size, 0, none⟩ = some (.string (T i)) := cell_of_row _ _ 0 _ 44 (0, 0) hb
        have t1 : (wr.alloc (.cells #[.string (T i), .bool (B i)] 44)).cell? ⟨wr.heap.size, 1, none⟩ = some (.bool (B i)) := cell_of_row _ _ 1 _ 44 (0, 0) hb
        have hd0 : decide ((0 : Int) < (i : Int)) = true := by simp; omega
        have b1 : IntKind.i64.wrap ((i : Int) - 1) = (i : Int) - 1 := IntWalk.i64_in _ (by have := HN.out; omega)
        have b2 : (0 : Int) ≤ (i : Int) - 1 := by omega
        have b3 : ((i : Int) - 1).toNat = i - 1 := by omega
        have b4 : (i : Int) - 1 < (n : Int) := by omega
        have b5 : (1 : Int) ≤ (i : Int) := by omega
        have HB := Lib.hid hb
        clear hO2 hT2 ha' hb
        go_wp2_with fail
        generalize wr.alloc (.cells #[.string (T i), .bool (B i)] 44) = w2 at *
        go_quiet ((go_at_call 41; exact Calls.quiet_of_same (glue_any _ _ _)))
        have HB3 : Hid ((w2.drewN nq).heap[wr.heap.size]? = some (.cells #[.string (T i), .bool (B i)] 44 (0, 0))) := HB.out
        have HO3 := Lib.hid (HO2.out.grown (grown_drewN w2 nq none))
        clear t0 t1 hp0 hc0 hc1' HB HO2
        generalize w2.drewN nq = w3 at *
        cases hgl : glueB (T (i - 1)) (T i) with
        | true =>
          have HClr : Hid (clr T B i = true) := by unfold Hid clr; rw [if_pos ⟨h0, hgl⟩]
          have t1 : w3.cell? ⟨wr.heap.size, 1, none⟩ = some (.bool (B i)) := cell_of_row _ _ 1 _ 44 (0, 0) HB3.out
          have tf : w3.frozen? ⟨wr.heap.size, 1, none⟩ = false := by simp [World.frozen?, HB3.out]
          have HB4 : Hid ((w3.setCell ⟨wr.heap.size, 1, none⟩ (.bool true)).heap[wr.heap.size]? = some (.cells #[.string (T i), .bool true] 44 (0, 0))) := by
            have := heap_setCell_same w3 wr.heap.size 1 _ 44 (.bool true) HB3.out
            simpa only [Hid, List.setIfInBounds_toArray, List.set_cons_zero, List.set_cons_succ] using this
          have HO4 := Lib.hid (HO.out.setNew HO3.out (Nat.le_refl _) 1 (.bool true))
          have t0 : w3.cell? ⟨wr.heap.size, 0, none⟩ = some (.string (T i)) := cell_of_row _ _ 0 _ 44 (0, 0) HB3.out
          have hO5 := HO4.out.grown (World.grownBy_alloc (w3.setCell ⟨wr.heap.size, 1, none⟩ (.bool true)) (.cells #[.string (T i), .bool true] 44) none)
          have HO5 := Lib.hid hO5
          have hown := hO5.row
          have q1 := Lib.hid (World.news_of_block (heap_alloc_new (w3.setCell ⟨wr.heap.size, 1, none⟩ (.bool true)) (.cells #[.string (T i), .bool true] 44)))
          have q2 : Hid (∀ x ∈ [Value.string (T i), .bool true], x.oneCell' = true) := fun x hx => by simp only [List.mem_cons, List.mem_nil_iff, or_false] at hx; rcases hx with rfl | rfl <;> rfl
          have q3 : Hid (i + 1 ≤ maxLen) := by have := HN.out; unfold Hid maxLen; omega
          have q4 : Hid ((i + 1) * 24 ≤ 140737488355328) := by have := HN.out; unfold Hid; omega
          have q5 : Hid (((w3.setCell ⟨wr.heap.size, 1, none⟩ (.bool true)).alloc (.cells #[.string (T i), .bool true] 44)).heap.size = w3.heap.size + 1) := by unfold Hid; simp
          have q6 := Lib.hid hO5.gr.size
          obtain ⟨i0, hi0, hz0, hz1, hz2⟩ := info_parts info44
          clear hO5
          rw [show (w3.setCell ⟨wr.heap.size, 1, none⟩ (.bool true)).heap.size = w3.heap.size by simp] at q1
          go_wp2_with (at_builtin; go_loud (refine wpList_append_lies _ rfl _ _ 40 rfl w.heap.size 44 i0 (.agg #[.string ByteArray.empty, .bool false]) 2 24 Tryd.underlying40 hi0 hz0 hz1 hz2 rfl (by decide) _ i _ rfl hown ⟨w3.heap.size, 0, none⟩ 1 1 [.string (T i), .bool true] rfl rfl q1.out q2.out (by decide) q3.out q4.out q6.out (w3.heap.size + 1) q5.out ?_))
          intro g' cap' w5 hown' hgrow _ _
          have HH := Lib.hid (HO5.out.more (by rw [← HClr.out, ← tokL_succ] at hown'; exact hown') hgrow)
          clear hown' hgrow hown hi0 hz0 hz1 hz2
          go_wp2
          go_roundg (n - (i + 1))
          case measure => have := HG.out; omega
          case rel => exact ⟨i + 1, hk, rfl, rfl, HH.out⟩
        | false =>
          have HClr : Hid (clr T B i = B i) := by unfold Hid clr; rw [if_neg (by rintro ⟨_, h⟩; rw [hgl] at h; simp at h)]
          have HB4 := HB3
          have HO4 := HO3
          generalize w3 = w4 at *
          have c0 : w4.cell? ⟨wr.heap.size, 0, none⟩ = some (.string (T i)) := cell_of_row _ _ 0 _ 44 (0, 0) HB4.out
          have c1 : w4.cell? ⟨wr.heap.size, 1, none⟩ = some (.bool (B i)) := cell_of_row _ _ 1 _ 44 (0, 0) HB4.out
          have hO5 := HO4.out.grown (World.grownBy_alloc w4 (.cells #[.string (T i), .bool (B i)] 44) none)
          have HO5 := Lib.hid hO5
          have hown := hO5.row
          have q1 := Lib.hid (World.news_of_block (heap_alloc_new w4 (.cells #[.string (T i), .bool (B i)] 44)))
          have q2 : Hid (∀ x ∈ [Value.string (T i), .bool (B i)], x.oneCell' = true) := fun x hx => by simp only [List.mem_cons, List.mem_nil_iff, or_false] at hx; rcases hx with rfl | rfl <;> rfl
          have q3 : Hid (i + 1 ≤ maxLen) := by have := HN.out; unfold Hid maxLen; omega
          have q4 : Hid ((i + 1) * 24 ≤ 140737488355328) := by have := HN.out; unfold Hid; omega
          have q5 : Hid ((w4.alloc (.cells #[.string (T i), .bool (B i)] 44)).heap.size = w4.heap.size + 1) := by unfold Hid; simp
          have q6 := Lib.hid hO5.gr.size
          obtain ⟨i0, hi0, hz0, hz1, hz2⟩ := info_parts info44
          clear hO5
          go_wp2_with (at_builtin; go_loud (refine wpList_append_lies _ rfl _ _ 40 rfl w.heap.size 44 i0 (.agg #[.string ByteArray.empty, .bool false]) 2 24 Tryd.underlying40 hi0 hz0 hz1 hz2 rfl (by decide) _ i _ rfl hown ⟨w4.heap.size, 0, none⟩ 1 1 [.string (T i), .bool (B i)] rfl rfl q1.out q2.out (by decide) q3.out q4.out q6.out (w4.heap.size + 1) q5.out ?_))
          intro g' cap' w5 hown' hgrow _ _
          have HH := Lib.hid (HO5.out.more (by rw [← HClr.out, ← tokL_succ] at hown'; exact hown') hgrow)
          clear hown' hgrow hown hi0 hz0 hz1 hz2
          go_wp2
          go_roundg (n - (i + 1))
          case measure => have := HG.out; omega
          case rel => exact ⟨i + 1, hk, rfl, rfl, HH.out⟩
      · have hd0 : decide ((0 : Int) < (i : Int)) = false := by simp; omega
        have hd0' : ¬ (0 : Int) < (i : Int) := by omega
        have HB := Lib.hid hb
        clear hO2 hT2 hb
        go_wp2_with fail
        generalize wr.alloc (.cells #[.string (T i), .bool (B i)] 44) = w2 at *
        go_quiet (fail)
        have HB4 : Hid ((w2.drewN nq).heap[wr.heap.size]? = some (.cells #[.string (T i), .bool (B i)] 44 (0, 0))) := HB.out
        have HO4 := Lib.hid (HO2.out.grown (grown_drewN w2 nq none))
        have HClr : Hid (clr T B i = B i) := by unfold Hid clr; rw [if_neg (by omega)]
        clear hc0 hc1' HB HO2
        generalize w2.drewN nq = w4 at *
        have c0 : w4.cell? ⟨wr.heap.size, 0, none⟩ = some (.string (T i)) := cell_of_row _ _ 0 _ 44 (0, 0) HB4.out
        have c1 : w4.cell? ⟨wr.heap.size, 1, none⟩ = some (.bool (B i)) := cell_of_row _ _ 1 _ 44 (0, 0) HB4.out
        have hO5 := HO4.out.grown (World.grownBy_alloc w4 (.cells #[.string (T i), .bool (B i)] 44) none)
        have HO5 := Lib.hid hO5
        have hown := hO5.row
        have q1 := Lib.hid (World.news_of_block (heap_alloc_new w4 (.cells #[.string (T i), .bool (B i)] 44)))
        have q2 : Hid (∀ x ∈ [Value.string (T i), .bool (B i)], x.oneCell' = true) := fun x hx => by simp only [List.mem_cons, List.mem_nil_iff, or_false] at hx; rcases hx with rfl | rfl <;> rfl
        have q3 : Hid (i + 1 ≤ maxLen) := by have := HN.out; unfold Hid maxLen; omega
        have q4 : Hid ((i + 1) * 24 ≤ 140737488355328) := by have := HN.out; unfold Hid; omega
        have q5 : Hid ((w4.alloc (.cells #[.string (T i), .bool (B i)] 44)).heap.size = w4.heap.size + 1) := by unfold Hid; simp
        have q6 := Lib.hid hO5.gr.size
        obtain ⟨i0, hi0, hz0, hz1, hz2⟩ := info_parts info44
        clear hO5
        go_wp2_with (at_builtin; go_loud (refine wpList_append_lies _ rfl _ _ 40 rfl w.heap.size 44 i0 (.agg #[.string ByteArray.empty, .bool false]) 2 24 Tryd.underlying40 hi0 hz0 hz1 hz2 rfl (by decide) _ i _ rfl hown ⟨w4.heap.size, 0, none⟩ 1 1 [.string (T i), .bool (B i)] rfl rfl q1.out q2.out (by decide) q3.out q4.out q6.out (w4.heap.size + 1) q5.out ?_))
        intro g' cap' w5 hown' hgrow _ _
        have HH := Lib.hid (HO5.out.more (by rw [← HClr.out, ← tokL_succ] at hown'; exact hown') hgrow)
        clear hown' hgrow hown hi0 hz0 hz1 hz2
        go_wp2
        go_roundg (n - (i + 1))
        case measure => have := HG.out; omega
        case rel => exact ⟨i + 1, hk, rfl, rfl, HH.out⟩
    · have hk' : i = n := by omega
      subst hk'
      go_wp2
      go_ret
      exact ⟨_, rfl, HO.out⟩
end Go.Proofs.YtfooeinfgmfhpaaDoor
