/- Lines of tokens; zzFits6; laws.tokens, laws.lines: the reference's lists. -/
import Derived.Test.YtfooeinfgmfhpaaDoorFsA
import Derived.Test.YtfooeinfgmfhpaaDoorLgC
namespace Go.Proofs.YtfooeinfgmfhpaaDoor
open Go.RowKit

theorem info44 : (Tryd.prog.info? 44).map (fun i => (i.zero, i.size, i.bytes)) = some (some (.agg #[.string ByteArray.empty, .bool false]), 2, 24) := by kernel_rfl
theorem info40 : (Tryd.prog.info? 40).map (fun i => (i.zero, i.size, i.bytes)) = some (some (.slice none 0 0), 1, 24) := by kernel_rfl

/-- A line: where its tokens lie, and what they are. -/
structure Ln where
  A : Option Addr
  n : Nat
  c : Nat
  T : Nat → ByteArray
  B : Nat → Bool

def LinesAt (w : World) (A : Option Addr) (n : Nat) (X : Nat → Ln) : Prop :=
  ∀ i, i < n → ∃ a, A = some a ∧ w.cell? (a.add i) = some (.slice (X i).A (X i).n (X i).c) ∧ ToksAt w (X i).A (X i).n (X i).T (X i).B ∧ (X i).n ≤ 9223372036854775807

theorem LinesAt.grown {w w' : World} {A : Option Addr} {n : Nat} {X : Nat → Ln} (h : LinesAt w A n X) (hg : w.grownBy w' none) : LinesAt w' A n X := by
  intro i hi
  obtain ⟨a, hA, h1, h2, h3⟩ := h i hi
  exact ⟨a, hA, by rw [World.cell?_of_block (w := w) (hg.block _ (World.block_lt_of_cell? w _ h1) (by simp))]; exact h1, h2.grown hg, h3⟩

set_option maxHeartbeats 4000000 in
set_option maxRecDepth 100000 in
theorem zzFits6_any (A : Option Addr) (n cap : Nat) (X : Nat → Ln) (w : World) (h : LinesAt w A n X) (hn : n ≤ 9223372036854775807) :
    Calls Tryd.prog 12 #[.slice A n cap] w fun e w' => ∃ b : Bool, e = .returned (.bool b) ∧ w.grownBy w' none ∧ (b = true → n ≤ 2147483647 ∧ ∀ i, i < n → (X i).n ≤ 2147483647) := by
  have H := Lib.hid h
  have HN := Lib.hid hn
  clear h hn
  by_cases hb : 2147483647 < n
  · have q1 : decide ((2147483647 : Int) < (n : Int)) = true := by rw [decide_eq_true_iff]; omega
    have q2 : decide (2147483647 < n) = true := by rw [decide_eq_true_iff]; omega
    have HB := Lib.hid hb
    clear hb
    go_enter Tryd.func12, Tryd.ntmps12
    go_wp2
    go_ret
    exact ⟨false, rfl, grown_refl _ _, by simp⟩
  · have q1 : decide ((2147483647 : Int) < (n : Int)) = false := by rw [decide_eq_false_iff_not]; omega
    have q2 : decide (2147483647 < n) = false := by rw [decide_eq_false_iff_not]; omega
    have HB := Lib.hid hb
    clear hb
    go_enter Tryd.func12, Tryd.ntmps12
    go_wp2_with fail
    go_loopg [10] n (fun g c wr => ∃ i : Nat, i ≤ n ∧ c = .int .i64 i ∧ g = n - i ∧ w.grownBy wr none ∧ ∀ j, j < i → (X j).n ≤ 2147483647)
    case atStart => exact ⟨0, Nat.zero_le _, rfl, rfl, grown_refl _ _, fun j hj => by omega⟩
    case round =>
      obtain ⟨i, hi, rfl, hg, hgr, hall⟩ := hrel
      have HG := Lib.hid hg
      have HGR := Lib.hid hgr
      have HA := Lib.hid hall
      clear hg q1 q2 hgr hall
      by_cases hk : i < n
      · obtain ⟨a, rfl, hc0, hT, hL⟩ := H.out.grown HGR.out i hk
        have hw : IntKind.i64.wrap ((i : Int) + 1) = (i : Int) + 1 := IntWalk.i64_in _ (by have := HN.out; omega)
        have HC := Lib.hid (zzFits4_any (X i).A (X i).n (X i).c (X i).T (X i).B wr hT hL)
        clear hT hL
        go_wp2_with fail
        refine HC.out.mono ?_
        rintro e w2 ⟨r, rfl, hg2, hr⟩
        have HG2 := Lib.hid (grown_trans HGR.out hg2)
        cases r with
        | false =>
          clear hr hg2
          go_wp2
          go_ret
          exact ⟨false, rfl, HG2.out, by simp⟩
        | true =>
          have HR := Lib.hid (hr rfl).1
          clear hr hg2
          go_wp2
          go_roundg (n - (i + 1))
          case measure => have := HG.out; omega
          case rel => exact ⟨i + 1, hk, rfl, rfl, HG2.out, fun j hj => by
            rcases Nat.lt_succ_iff_lt_or_eq.1 hj with h | rfl
            · exact HA.out j h
            · exact HR.out⟩
      · have hk' : i = n := by omega
        subst hk'
        go_wp2
        go_ret
        exact ⟨true, rfl, HGR.out, fun _ => ⟨by have := HB.out; omega, HA.out⟩⟩

/-- The first k tokens' cells. -/
def tokL (T : Nat → ByteArray) (B : Nat → Bool) (k : Nat) : List Value := (List.range k).flatMap fun i => [.string (T i), .bool (B i)]
theorem tokL_succ (T : Nat → ByteArray) (B : Nat → Bool) (k : Nat) : tokL T B (k + 1) = tokL T B k ++ [.string (T k), .bool (B k)] := by
  unfold tokL; rw [List.range_succ, List.flatMap_append]; simp
theorem tokL_len (T : Nat → ByteArray) (B : Nat → Bool) (k : Nat) : (tokL T B k).length = k * 2 := by
  induction k with
  | zero => rfl
  | succ k ih => rw [tokL_succ, List.length_append, ih]; simp; omega
theorem tokL_at (T : Nat → ByteArray) (B : Nat → Bool) : ∀ (k i : Nat), i < k → (tokL T B k)[i * 2]? = some (.string (T i)) ∧ (tokL T B k)[i * 2 + 1]? = some (.bool (B i)) := by
  intro k
  induction k with
  | zero => intro i hi; omega
  | succ k ih =>
    intro i hi
    rw [tokL_succ]
    have hl := tokL_len T B k
    rcases Nat.lt_or_ge i k with h | h
    · rw [List.getElem?_append_left (by omega), List.getElem?_append_left (by omega)]; exact ih i h
    · have : i = k := by omega
      subst this
      rw [List.getElem?_append_right (by omega), List.getElem?_append_right (by omega), hl]
      simp

theorem toks_of_row {w : World} {b n cap : Nat} {A : Option Addr} {T : Nat → ByteArray} {B : Nat → Bool} (h : w.ownsRow b 44 2 (.slice A n cap) n (tokL T B n)) : ToksAt w A n T B := by
  intro i hi
  rcases h.2 with ⟨_, h0⟩ | ⟨q, cap', cur, hv, _⟩
  · omega
  · have hA : A = some ⟨q, 0, none⟩ := by injection hv
    subst hA
    exact ⟨_, rfl, h.cells (g := q) rfl _ _ (tokL_at T B n i hi).1, h.cells (g := q) rfl _ _ (tokL_at T B n i hi).2⟩

theorem ownsRow_zero' {w : World} {g b e z : Nat} (h : w.heap[g]? = some (.cells #[] e (0, 0))) (hb : b ≤ g) : w.ownsRow b e z (.slice (some ⟨g, 0, none⟩) 0 0) 0 [] :=
  ⟨by simp, Or.inr ⟨g, 0, #[], rfl, hb, h, by decide, by unfold maxLen; omega, by simp, by simp⟩⟩

/-- While a row of the call's own grows. -/
structure Own (w : World) (e z n : Nat) (xs : List Value) (out : Value) (wr : World) : Prop where
  row : wr.ownsRow w.heap.size e z out n xs
  gr : w.grownBy wr none

theorem Own.grown {w wr w' : World} {e z n : Nat} {xs : List Value} {out : Value} (h : Own w e z n xs out wr) (hg : wr.grownBy w' none) : Own w e z n xs out w' := ⟨own_grown0 h.row hg, grown_trans h.gr hg⟩
theorem Own.more {w wr w' : World} {e z n n' : Nat} {xs xs' : List Value} {out out' : Value} (h : Own w e z n xs out wr) (ho : w'.ownsRow w.heap.size e z out' n' xs') (hg : wr.grownBy w' out.ownBlock) : Own w e z n' xs' out' w' :=
  ⟨ho, ⟨hg.os.trans h.gr.os, hg.tape.trans h.gr.tape, hg.output.trans h.gr.output, Nat.le_trans h.gr.size hg.size, fun k hk _ => (hg.block k (Nat.lt_of_lt_of_le hk h.gr.size) (fun e => by have := h.row.lt k e.symm; omega)).trans (h.gr.block k hk (by simp))⟩⟩

set_option maxHeartbeats 4000000 in
set_option maxRecDepth 100000 in
theorem lawTokens_any (A : Option Addr) (n cap : Nat) (T : Nat → ByteArray) (B : Nat → Bool) (w : World) (h : ToksAt w A n T B) (hn : n ≤ 2147483647) :
    Calls Tryd.prog 23 #[.slice A n cap] w fun e w' => ∃ v, e = .returned v ∧ Own w 44 2 n (tokL T B n) v w' := by
  have H := Lib.hid h
  have HN := Lib.hid hn
  clear h hn
  go_enter Tryd.func23, Tryd.ntmps23
  go_wp2_with fail
  have hL0 : Hid (Own w 44 2 0 (tokL T B 0) (.slice (some ⟨w.heap.size, 0, none⟩) 0 0) (w.alloc (.cells #[] 44))) := ⟨ownsRow_zero' (heap_alloc_new _ _) (Nat.le_refl _), World.grownBy_alloc _ _ _⟩
  generalize w.alloc (.cells #[] 44) = w1 at *
  go_loopg [3, 9] n (fun g v c wr => ∃ i : Nat, i ≤ n ∧ c = .int .i64 i ∧ g = n - i ∧ Own w 44 2 i (tokL T B i) v wr)
  case atStart => exact ⟨0, Nat.zero_le _, rfl, rfl, hL0.out⟩
  case round =>
    obtain ⟨i, hi, rfl, hg, hO⟩ := hrel
    have HG := Lib.hid hg
    have HO := Lib.hid hO
    clear hg hO hL0
    by_cases hk : i < n
    · obtain ⟨a, rfl, hc0, hc1⟩ := H.out.grown HO.out.gr i hk
      have hw : IntKind.i64.wrap ((i : Int) + 1) = (i : Int) + 1 := IntWalk.i64_in _ (by have := HN.out; omega)
      have hc1' : wr.cell? ⟨(a.add (i * 2)).block, (a.add (i * 2)).off + 1, none⟩ = some (.bool (B i)) := by rw [add_c1]; exact hc1
      clear hc1
      have hO2 := (HO.out.grown (World.grownBy_alloc wr (.cells #[.string (T i), .bool (B i)] 60) none)).grown (World.grownBy_alloc (wr.alloc (.cells #[.string (T i), .bool (B i)] 60)) (.cells #[.string (T i), .bool (B i)] 44) none)
      have HO2 := Lib.hid hO2
      have hown := hO2.row
      have q1 := Lib.hid (World.news_of_block (heap_alloc_new (wr.alloc (.cells #[.string (T i), .bool (B i)] 60)) (.cells #[.string (T i), .bool (B i)] 44)))
      have q2 : Hid (∀ x ∈ [Value.string (T i), .bool (B i)], x.oneCell' = true) := fun x hx => by simp only [List.mem_cons, List.mem_nil_iff, or_false] at hx; rcases hx with rfl | rfl <;> rfl
      have q3 : Hid (i + 1 ≤ maxLen) := by have := HN.out; unfold Hid maxLen; omega
      have q4 : Hid ((i + 1) * 24 ≤ 140737488355328) := by have := HN.out; unfold Hid; omega
      have q5 : Hid (((wr.alloc (.cells #[.string (T i), .bool (B i)] 60)).alloc (.cells #[.string (T i), .bool (B i)] 44)).heap.size = wr.heap.size + 2) := by unfold Hid; simp
      have q6 := Lib.hid hO2.gr.size
      have q7 : Hid ((wr.alloc (.cells #[.string (T i), .bool (B i)] 60)).heap.size = wr.heap.size + 1) := by unfold Hid; simp
      rw [q7.out] at q1
      obtain ⟨i0, hi0, hz0, hz1, hz2⟩ := info_parts info44
      clear hO2
      go_wp2_with (at_builtin; go_loud (refine wpList_append_lies _ rfl _ _ 40 rfl w.heap.size 44 i0 (.agg #[.string ByteArray.empty, .bool false]) 2 24 Tryd.underlying40 hi0 hz0 hz1 hz2 rfl (by decide) _ i _ rfl hown ⟨wr.heap.size + 1, 0, none⟩ 1 1 [.string (T i), .bool (B i)] rfl rfl q1.out q2.out (by decide) q3.out q4.out q6.out (wr.heap.size + 2) q5.out ?_))
      intro g' cap' w5 hown' hgrow _ _
      have HH := Lib.hid (HO2.out.more (by rw [← tokL_succ] at hown'; exact hown') hgrow)
      clear hown' hgrow hown hi0 hz0 hz1 hz2
      go_wp2
      go_roundg (n - (i + 1))
      case measure => have := HG.out; omega
      case rel => exact ⟨i + 1, hk, rfl, rfl, HH.out⟩
    · have hk' : i = n := by omega
      subst hk'
      go_wp2
      go_ret
      exact ⟨_, rfl, HO.out⟩
end Go.Proofs.YtfooeinfgmfhpaaDoor
