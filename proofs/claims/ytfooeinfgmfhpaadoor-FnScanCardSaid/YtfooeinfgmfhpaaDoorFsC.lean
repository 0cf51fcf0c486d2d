/- laws.lines. -/
import Derived.Test.YtfooeinfgmfhpaaDoorFsB
namespace Go.Proofs.YtfooeinfgmfhpaaDoor
open Go.RowKit

def Ln.v (y : Ln) : Value := .slice y.A y.n y.c
def Ln.like (y x : Ln) : Prop := y.n = x.n ∧ y.T = x.T ∧ y.B = x.B

theorem own_base {w : World} {b b' e z n : Nat} {v : Value} {xs : List Value} (h : w.ownsRow b e z v n xs) (hb : b' ≤ b) : w.ownsRow b' e z v n xs := by
  refine ⟨h.1, ?_⟩
  rcases h.2 with h2 | ⟨g, cap, cur, h1, h2, h3⟩
  · exact Or.inl h2
  · exact Or.inr ⟨g, cap, cur, h1, by omega, h3⟩

/-- The rows of the lines that have been made. -/
def Made (w : World) (X Y : Nat → Ln) (i : Nat) (wr : World) : Prop :=
  ∀ j, j < i → (Y j).like (X j) ∧ wr.ownsRow w.heap.size 44 2 (Y j).v (Y j).n (tokL (Y j).T (Y j).B (Y j).n)

theorem lines_at {w wr : World} {X Y : Nat → Ln} {n c b : Nat} {A : Option Addr} (h : Made w X Y n wr) (hX : ∀ i, i < n → (X i).n ≤ 2147483647) (ho : wr.ownsRow b 40 1 (.slice A n c) n ((List.range n).map fun j => (Y j).v)) : LinesAt wr A n Y := by
  intro i hi
  obtain ⟨hl, hr⟩ := h i hi
  rcases ho.2 with ⟨_, h0⟩ | ⟨q, cap', cur, hv, _⟩
  · omega
  · have hA : A = some ⟨q, 0, none⟩ := by injection hv
    subst hA
    refine ⟨_, rfl, ho.cells (g := q) rfl i _ ?_, toks_of_row hr, by rw [hl.1]; have := hX i hi; omega⟩
    rw [List.getElem?_map, List.getElem?_range hi]
    rfl

set_option maxHeartbeats 4000000 in
set_option maxRecDepth 100000 in
theorem lawLines_any (A : Option Addr) (n cap : Nat) (X : Nat → Ln) (w : World) (h : LinesAt w A n X) (hn : n ≤ 2147483647) (hX : ∀ i, i < n → (X i).n ≤ 2147483647) :
    Calls Tryd.prog 13 #[.slice A n cap] w fun e w' => ∃ (A' : Option Addr) (c : Nat) (Y : Nat → Ln), e = .returned (.slice A' n c) ∧ LinesAt w' A' n Y ∧ (∀ j, j < n → (Y j).like (X j)) ∧ w.grownBy w' none := by
  have H := Lib.hid h
  have HN := Lib.hid hn
  have HX := Lib.hid hX
  clear h hn hX
  go_enter Tryd.func13, Tryd.ntmps13
  go_wp2_with fail
  have hL0 : Hid (Own w 40 1 0 [] (.slice (some ⟨w.heap.size, 0, none⟩) 0 0) (w.alloc (.cells #[] 40))) := ⟨ownsRow_zero' (heap_alloc_new _ _) (Nat.le_refl _), World.grownBy_alloc _ _ _⟩
  generalize w.alloc (.cells #[] 40) = w1 at *
  go_loopg [3, 9] n (fun g v c wr => ∃ (i : Nat) (Y : Nat → Ln), i ≤ n ∧ c = .int .i64 i ∧ g = n - i ∧ Own w 40 1 i ((List.range i).map fun j => (Y j).v) v wr ∧ Made w X Y i wr)
  case atStart => exact ⟨0, X, Nat.zero_le _, rfl, rfl, hL0.out, fun j hj => by omega⟩
  case round =>
    obtain ⟨i, Y, hi, rfl, hg, hO, hM⟩ := hrel
    have HG := Lib.hid hg
    have HO := Lib.hid hO
    have HM := Lib.hid hM
    clear hg hO hL0 hM
    by_cases hk : i < n
    · obtain ⟨a, rfl, hc0, hT, _⟩ := H.out.grown HO.out.gr i hk
      have hw : IntKind.i64.wrap ((i : Int) + 1) = (i : Int) + 1 := IntWalk.i64_in _ (by have := HN.out; omega)
      have HC := Lib.hid (lawTokens_any (X i).A (X i).n (X i).c (X i).T (X i).B wr hT (HX.out i hk))
      clear hT
      go_wp2_with fail
      refine HC.out.mono ?_
      rintro e w2 ⟨v2, rfl, hT2⟩
      obtain ⟨A2, c2, rfl, _⟩ := row_form hT2.row
      have hO2 := (HO.out.grown hT2.gr).grown (World.grownBy_alloc w2 (.cells #[.slice A2 (X i).n c2] 40) none)
      have HO2 := Lib.hid hO2
      have HT2 := Lib.hid hT2
      have hown := hO2.row
      have q1 := Lib.hid (World.news_of_block (heap_alloc_new w2 (.cells #[.slice A2 (X i).n c2] 40)))
      have q2 : Hid (∀ x ∈ [Value.slice A2 (X i).n c2], x.oneCell' = true) := fun x hx => by simp only [List.mem_cons, List.mem_nil_iff, or_false] at hx; subst hx; rfl
      have q3 : Hid (i + 1 ≤ maxLen) := by have := HN.out; unfold Hid maxLen; omega
      have q4 : Hid ((i + 1) * 24 ≤ 140737488355328) := by have := HN.out; unfold Hid; omega
      have q5 : Hid ((w2.alloc (.cells #[.slice A2 (X i).n c2] 40)).heap.size = w2.heap.size + 1) := by unfold Hid; simp
      have q6 := Lib.hid hO2.gr.size
      obtain ⟨i0, hi0, hz0, hz1, hz2⟩ := info_parts info40
      clear hO2 hT2 HC
      go_wp2_with (at_builtin; go_loud (refine wpList_append_lies _ rfl _ _ 31 rfl w.heap.size 40 i0 (.slice none 0 0) 1 24 Tryd.underlying31 hi0 hz0 hz1 hz2 rfl (by decide) _ i _ rfl hown ⟨w2.heap.size, 0, none⟩ 1 1 [.slice A2 (X i).n c2] rfl rfl q1.out q2.out (by decide) q3.out q4.out q6.out (w2.heap.size + 1) q5.out ?_))
      intro g' cap' w5 hown' hgrow _ _
      have HH := Lib.hid (HO2.out.more hown' hgrow)
      have HM2 : Hid (Made w X (fun j => if j = i then ⟨A2, (X i).n, c2, (X i).T, (X i).B⟩ else Y j) (i + 1) w5) := by
        intro j hj
        have hkeep : ∀ {v : Value} {m : Nat} {xs : List Value}, w2.ownsRow w.heap.size 44 2 v m xs → w5.ownsRow w.heap.size 44 2 v m xs := fun h => own_other (own_grown0 h (World.grownBy_alloc w2 _ none)) hown (by decide) hgrow
        by_cases e : j = i
        · subst e
          simp only [if_pos]
          exact ⟨⟨rfl, rfl, rfl⟩, hkeep (own_base HT2.out.row HO.out.gr.size)⟩
        · simp only [if_neg e]
          obtain ⟨h1, h2⟩ := HM.out j (by omega)
          exact ⟨h1, hkeep (own_grown0 h2 HT2.out.gr)⟩
      clear hown' hgrow hown hi0 hz0 hz1 hz2
      go_wp2
      go_roundg (n - (i + 1))
      case measure => have := HG.out; omega
      case rel =>
        refine ⟨i + 1, _, hk, rfl, rfl, ?_, HM2.out⟩
        have := HH.out
        rw [List.range_succ, List.map_append]
        have e1 : ((List.range i).map fun j => (if j = i then (⟨A2, (X i).n, c2, (X i).T, (X i).B⟩ : Ln) else Y j).v) = (List.range i).map fun j => (Y j).v := List.map_congr_left fun j hj => by
          have := List.mem_range.1 hj
          rw [if_neg (by omega)]
        rw [e1]
        simpa [Ln.v] using this
    · have hk' : i = n := by omega
      subst hk'
      obtain ⟨A2, c2, rfl, _⟩ := row_form HO.out.row
      go_wp2
      go_ret
      exact ⟨A2, c2, Y, rfl, lines_at HM.out HX.out HO.out.row, fun j hj => (HM.out j hj).1, HO.out.gr⟩
end Go.Proofs.YtfooeinfgmfhpaaDoor
