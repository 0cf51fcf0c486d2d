/- Texts. -/
import Derived.Test.YtfooeinfgmfhpaaDoorFsK
namespace Go.Proofs.YtfooeinfgmfhpaaDoor
open Go.RowKit

/-- The texts of the first j tokens of a line, of the first i lines. -/
def lnT (x : Ln) (j : Nat) : List ByteArray := (List.range j).map x.T
def allT (X : Nat → Ln) : Nat → List ByteArray
  | 0 => []
  | i + 1 => allT X i ++ lnT (X i) (X i).n

theorem lnT_succ (x : Ln) (j : Nat) : lnT x (j + 1) = lnT x j ++ [x.T j] := by unfold lnT; rw [List.range_succ, List.map_append]; rfl
theorem lnT_len (x : Ln) (j : Nat) : (lnT x j).length = j := by unfold lnT; simp
theorem allT_len {X : Nat → Ln} {n : Nat} (h : LinesP n X) : ∀ i, i ≤ n → (allT X i).length ≤ 40 * i := by
  intro i
  induction i with
  | zero => intro _; exact Nat.le_refl 0
  | succ i ih =>
    intro hi
    have h1 := ih (by omega)
    have h2 := (h.2 i (by omega)).1.1
    unfold allT
    rw [List.length_append, lnT_len]
    omega

set_option maxHeartbeats 4000000 in
set_option maxRecDepth 100000 in
theorem texts_law (A : Option Addr) (n cap : Nat) (X : Nat → Ln) (w : World) (h : LinesAt w A n X) (hP : LinesP n X) :
    Calls Tryd.prog 16 #[.slice A n cap] w fun e w' => ∃ v, e = .returned v ∧ Own w 9 1 (allT X n).length ((allT X n).map Value.string) v w' := by
  have H := Lib.hid h
  have HP := Lib.hid hP
  have HZ := Lib.hid (allT_len hP)
  have HN := Lib.hid hP.1
  clear h hP
  go_enter Tryd.func16, Tryd.ntmps16
  go_wp2_with fail
  have hL0 : Hid (Own w 9 1 (allT X 0).length ((allT X 0).map Value.string) (.slice (some ⟨w.heap.size, 0, none⟩) 0 0) (w.alloc (.cells #[] 9))) := ⟨ownsRow_zero' (heap_alloc_new _ _) (Nat.le_refl _), World.grownBy_alloc _ _ _⟩
  generalize w.alloc (.cells #[] 9) = w1 at *
  go_loopg [3, 11] n (fun g v c wr => ∃ i : Nat, i ≤ n ∧ c = .int .i64 i ∧ g = n - i ∧ Own w 9 1 (allT X i).length ((allT X i).map Value.string) v wr)
  case atStart => exact ⟨0, Nat.zero_le _, rfl, rfl, hL0.out⟩
  case round =>
    obtain ⟨i, hi, rfl, hg, hO⟩ := hrel
    have HG := Lib.hid hg
    have HO := Lib.hid hO
    clear hg hO hL0
    by_cases hk : i < n
    · obtain ⟨a, rfl, hc0, _, _⟩ := H.out.grown HO.out.gr i hk
      have hw : IntKind.i64.wrap ((i : Int) + 1) = (i : Int) + 1 := IntWalk.i64_in _ (by have := HN.out; omega)
      have HTk := Lib.hid (HP.out.2 i hk).1
      have HZi := Lib.hid (HZ.out i (by omega))
      go_wp2_with fail
      go_loopg [3, 17] (X i).n (fun g v c wr => ∃ j : Nat, j ≤ (X i).n ∧ c = .int .i64 j ∧ g = (X i).n - j ∧ Own w 9 1 (allT X i ++ lnT (X i) j).length ((allT X i ++ lnT (X i) j).map Value.string) v wr)
      case atStart => exact ⟨0, Nat.zero_le _, rfl, rfl, by simpa [lnT] using HO.out⟩
      case round =>
        obtain ⟨j, hj, rfl, hg2, hO2⟩ := hrel
        have HG2 := Lib.hid hg2
        have HO2 := Lib.hid hO2
        clear hg2 hO2 hc0
        by_cases hkj : j < (X i).n
        · obtain ⟨a2, ha2, hx2, hT, hy2⟩ := H.out.grown HO2.out.gr i hk
          obtain ⟨b, hb, ht0, ht1⟩ := hT j hkj
          have hw2 : IntKind.i64.wrap ((j : Int) + 1) = (j : Int) + 1 := IntWalk.i64_in _ (by have := HTk.out.1; omega)
          have ht1' : wr.cell? ⟨(b.add (j * 2)).block, (b.add (j * 2)).off + 1, none⟩ = some (.bool ((X i).B j)) := by rw [add_c1]; exact ht1
          clear ht1 hT ha2 hx2 hy2
          rw [hb]
          have HBb := Lib.hid hb
          clear hb
          have hO3 := (HO2.out.grown (World.grownBy_alloc wr (.cells #[.string ((X i).T j), .bool ((X i).B j)] 44) none)).grown (World.grownBy_alloc (wr.alloc (.cells #[.string ((X i).T j), .bool ((X i).B j)] 44)) (.cells #[.string ((X i).T j)] 9) none)
          have HO3 := Lib.hid hO3
          have hown := hO3.row
          have q1 := Lib.hid (World.news_of_block (heap_alloc_new (wr.alloc (.cells #[.string ((X i).T j), .bool ((X i).B j)] 44)) (.cells #[.string ((X i).T j)] 9)))
          have q2 : Hid (∀ x ∈ [Value.string ((X i).T j)], x.oneCell' = true) := fun x hx => by simp only [List.mem_cons, List.mem_nil_iff, or_false] at hx; subst hx; rfl
          have hlen : (allT X i ++ lnT (X i) j).length ≤ 200 := by rw [List.length_append, lnT_len]; have := HZi.out; have := HTk.out.1; have := HN.out; omega
          have q3 : Hid ((allT X i ++ lnT (X i) j).length + 1 ≤ maxLen) := by unfold Hid maxLen; omega
          have q4 : Hid (((allT X i ++ lnT (X i) j).length + 1) * 16 ≤ 140737488355328) := by unfold Hid; omega
          have q5 : Hid (((wr.alloc (.cells #[.string ((X i).T j), .bool ((X i).B j)] 44)).alloc (.cells #[.string ((X i).T j)] 9)).heap.size = wr.heap.size + 2) := by unfold Hid; simp
          have q6 := Lib.hid hO3.gr.size
          have q7 : Hid ((wr.alloc (.cells #[.string ((X i).T j), .bool ((X i).B j)] 44)).heap.size = wr.heap.size + 1) := by unfold Hid; simp
          rw [q7.out] at q1
          obtain ⟨i0, hi0, hz0, hz1, hz2⟩ := info_parts info9
          clear hO3 hlen
          go_wp2_with (at_builtin; go_loud (refine wpList_append_lies _ rfl _ _ 22 rfl w.heap.size 9 i0 (.string ByteArray.empty) 1 16 Tryd.underlying22 hi0 hz0 hz1 hz2 rfl (by decide) _ (allT X i ++ lnT (X i) j).length _ rfl hown ⟨wr.heap.size + 1, 0, none⟩ 1 1 [.string ((X i).T j)] rfl rfl q1.out q2.out (by decide) q3.out q4.out q6.out (wr.heap.size + 2) q5.out ?_))
          intro g' cap' w5 hown' hgrow _ _
          have HH := Lib.hid (HO3.out.more hown' hgrow)
          clear hown' hgrow hown hi0 hz0 hz1 hz2
          go_wp2
          rw [← HBb.out]
          go_roundg ((X i).n - (j + 1))
          case measure => have := HG2.out; omega
          case rel =>
            refine ⟨j + 1, hkj, rfl, rfl, ?_⟩
            have hh := HH.out
            rw [lnT_succ]
            simp only [List.length_append, List.map_append, List.length_cons, List.length_nil, List.map_cons, List.map_nil, Nat.zero_add]
            simpa only [Nat.add_assoc] using hh
        · have hj' : j = (X i).n := by omega
          go_wp2
          go_roundg (n - (i + 1))
          case measure => have := HG.out; omega
          case rel => exact ⟨i + 1, hk, rfl, rfl, by rw [hj'] at HO2; exact HO2.out⟩
    · have hk' : i = n := by omega
      subst hk'
      go_wp2
      go_ret
      exact ⟨_, rfl, HO.out⟩
end Go.Proofs.YtfooeinfgmfhpaaDoor
