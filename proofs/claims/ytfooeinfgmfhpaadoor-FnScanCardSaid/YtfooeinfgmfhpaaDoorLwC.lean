/- Number. -/
import Derived.Test.YtfooeinfgmfhpaaDoorLwB
namespace Go.Proofs.YtfooeinfgmfhpaaDoor
open Go.RowKit

/-- What may stand in a number behind its first figure: c behind p. -/
def numGo (p c : Nat) : Prop := isLt c = true ∨ isDg c = true ∨ c = 46 ∨ (isExp p = true ∧ isSg c = true)

/-- A number of the preprocessor: a figure, or a point and a figure, and so on. -/
def NumberP (s : ByteArray) : Prop := ∃ i0, (i0 = 0 ∨ (i0 = 1 ∧ bAt s 0 = 46)) ∧ i0 < s.size ∧ isDg (bAt s i0) = true ∧ ∀ i, i0 < i → i < s.size → numGo (bAt s (i - 1)) (bAt s i)

theorem next_go {s : ByteArray} {i0 i : Nat} (h : ∀ j, i0 < j → j < i → numGo (bAt s (j - 1)) (bAt s j)) (hi : numGo (bAt s (i - 1)) (bAt s i)) : ∀ j, i0 < j → j < i + 1 → numGo (bAt s (j - 1)) (bAt s j) := by
  intro j h1 h2
  rcases Nat.lt_succ_iff_lt_or_eq.1 h2 with h3 | rfl
  · exact h j h1 h3
  · exact hi

set_option maxHeartbeats 4000000 in
set_option maxRecDepth 100000 in
theorem number_spec (s : ByteArray) (w : World) (hs : s.size ≤ 9223372036854775807) : Calls Tryd.prog 18 #[.string s] w fun e w' => ∃ b : Bool, e = .returned (.bool b) ∧ w' = w ∧ (b = true → NumberP s) := by
  have HS := Lib.hid hs
  by_cases hz : 0 < s.size
  · have hne : ¬ s = ByteArray.empty := by rintro rfl; simp at hz
    have hB0 := Lib.hid (bAt_eq s 0 hz)
    clear hs
    by_cases hdot : s[0].toNat = 46
    · have hdot' : (((s[0].toNat : Nat) : Int) == 46) = true := by simp; omega
      by_cases h1 : 1 < s.size
      · have h1' : ¬ s.size ≤ 1 := by omega
        have hB1 := Lib.hid (bAt_eq s 1 h1)
        have HD0 := Lib.hid hdot
        clear hdot
        cases hD : isDg s[1].toNat with
        | false =>
          go_enter Tryd.func18, Tryd.ntmps18
          go_wp2_with fail
          refine (figure_any _ _).mono ?_
          rintro e w' ⟨rfl, rfl⟩
          go_wp2
          go_ret
          first | exact ⟨false, rfl, rfl, by simp⟩ | exact Or.inl ⟨rfl, rfl⟩
        | true =>
          go_enter Tryd.func18, Tryd.ntmps18
          go_wp2_with fail
          refine (figure_any _ _).mono ?_
          rintro e w' ⟨rfl, rfl⟩
          go_wp2_with fail
          go_loopg [3] (s.size - 2) (fun g c wr => ∃ i : Nat, 1 < i ∧ i ≤ s.size ∧ c = .int .i64 i ∧ g = s.size - i ∧ wr = w' ∧ ∀ j, 1 < j → j < i → numGo (bAt s (j - 1)) (bAt s j))
          case atStart => exact ⟨2, by omega, by omega, rfl, rfl, rfl, fun j h1 h2 => by omega⟩
          case round =>
            obtain ⟨i, hi0, hi, rfl, hg, rfl, hall⟩ := hrel
            have HG := Lib.hid hg
            have HA := Lib.hid hall
            clear hg hall
            by_cases hk : i < s.size
            · have a1 : IntKind.i64.wrap ((i : Int) - 1) = (i : Int) - 1 := IntWalk.i64_in _ (by have := HS.out; omega)
              have a7 : IntKind.i64.wrap ((i : Int) + 1) = (i : Int) + 1 := IntWalk.i64_in _ (by have := HS.out; omega)
              have a2 : (0 : Int) ≤ (i : Int) - 1 := by omega
              have a3 : (1 : Int) ≤ (i : Int) := by omega
              have a4 : ((i : Int) - 1).toNat = i - 1 := by omega
              have a5 : i - 1 < s.size := by omega
              have a6 : (i : Int) - 1 < (s.size : Int) := by omega
              have HB := Lib.hid (bAt_eq s i hk)
              have HP := Lib.hid (bAt_eq s (i - 1) a5)
              rcases (show s[i - 1].toNat = 101 ∨ s[i - 1].toNat = 69 ∨ s[i - 1].toNat = 112 ∨ s[i - 1].toNat = 80 ∨ (s[i - 1].toNat ≠ 101 ∧ s[i - 1].toNat ≠ 69 ∧ s[i - 1].toNat ≠ 112 ∧ s[i - 1].toNat ≠ 80) by omega) with hp | hp | hp | hp | hp
              · have p101 : (((s[i - 1].toNat : Nat) : Int) == 101) = true := by simp; omega
                have p69 : (((s[i - 1].toNat : Nat) : Int) == 69) = false := by simp; omega
                have p112 : (((s[i - 1].toNat : Nat) : Int) == 112) = false := by simp; omega
                have p80 : (((s[i - 1].toNat : Nat) : Int) == 80) = false := by simp; omega
                have HEx : Hid (isExp s[i - 1].toNat = true) := by unfold Hid isExp; simp; omega
                clear hp
                cases hL : isLt s[i].toNat with
                | true =>
                  go_wp2_with fail
                  refine (letter_lt _ _).mono ?_
                  rintro e w' ⟨rfl, rfl⟩
                  go_wp2
                  go_roundg (s.size - (i + 1))
                  case measure => have := HG.out; omega
                  case rel => exact ⟨i + 1, by omega, hk, rfl, rfl, rfl, next_go HA.out (by rw [← HB.out, ← HP.out]; exact Or.inl hL)⟩
                | false =>
                  cases hF : isDg s[i].toNat with
                  | true =>
                    go_wp2_with fail
                    refine (letter_lt _ _).mono ?_
                    rintro e w' ⟨rfl, rfl⟩
                    go_wp2_with fail
                    refine (figure_any _ _).mono ?_
                    rintro e w' ⟨rfl, rfl⟩
                    go_wp2
                    go_roundg (s.size - (i + 1))
                    case measure => have := HG.out; omega
                    case rel => exact ⟨i + 1, by omega, hk, rfl, rfl, rfl, next_go HA.out (by rw [← HB.out, ← HP.out]; exact Or.inr (Or.inl hF))⟩
                  | false =>
                    by_cases h46 : s[i].toNat = 46
                    · have f46 : (((s[i].toNat : Nat) : Int) == 46) = true := by simp; omega
                      have f46' : (((s[i].toNat : Nat) : Int) != 46) = false := by simp; omega
                      have H46 := Lib.hid h46
                      clear h46
                      go_wp2_with fail
                      refine (letter_lt _ _).mono ?_
                      rintro e w' ⟨rfl, rfl⟩
                      go_wp2_with fail
                      refine (figure_any _ _).mono ?_
                      rintro e w' ⟨rfl, rfl⟩
                      go_wp2
                      go_roundg (s.size - (i + 1))
                      case measure => have := HG.out; omega
                      case rel => exact ⟨i + 1, by omega, hk, rfl, rfl, rfl, next_go HA.out (by rw [← HB.out, ← HP.out]; exact Or.inr (Or.inr (Or.inl H46.out)))⟩
                    · have f46 : (((s[i].toNat : Nat) : Int) == 46) = false := by simp; omega
                      have f46' : (((s[i].toNat : Nat) : Int) != 46) = true := by simp; omega
                      clear h46
                      by_cases h43 : s[i].toNat = 43
                      · have f43 : (((s[i].toNat : Nat) : Int) == 43) = true := by simp; omega
                        have HSg : Hid (isSg s[i].toNat = true) := by unfold Hid isSg; simp; omega
                        clear h43
                        go_wp2_with fail
                        refine (letter_lt _ _).mono ?_
                        rintro e w' ⟨rfl, rfl⟩
                        go_wp2_with fail
                        refine (figure_any _ _).mono ?_
                        rintro e w' ⟨rfl, rfl⟩
                        go_wp2
                        go_roundg (s.size - (i + 1))
                        case measure => have := HG.out; omega
                        case rel => exact ⟨i + 1, by omega, hk, rfl, rfl, rfl, next_go HA.out (by rw [← HB.out, ← HP.out]; exact Or.inr (Or.inr (Or.inr ⟨HEx.out, HSg.out⟩)))⟩
                      · have f43 : (((s[i].toNat : Nat) : Int) == 43) = false := by simp; omega
                        by_cases h45 : s[i].toNat = 45
                        · have f45 : (((s[i].toNat : Nat) : Int) == 45) = true := by simp; omega
                          have HSg : Hid (isSg s[i].toNat = true) := by unfold Hid isSg; simp; omega
                          clear h43 h45
                          go_wp2_with fail
                          refine (letter_lt _ _).mono ?_
                          rintro e w' ⟨rfl, rfl⟩
                          go_wp2_with fail
                          refine (figure_any _ _).mono ?_
                          rintro e w' ⟨rfl, rfl⟩
                          go_wp2
                          go_roundg (s.size - (i + 1))
                          case measure => have := HG.out; omega
                          case rel => exact ⟨i + 1, by omega, hk, rfl, rfl, rfl, next_go HA.out (by rw [← HB.out, ← HP.out]; exact Or.inr (Or.inr (Or.inr ⟨HEx.out, HSg.out⟩)))⟩
                        · have f45 : (((s[i].toNat : Nat) : Int) == 45) = false := by simp; omega
                          clear h43 h45
                          go_wp2_with fail
                          refine (letter_lt _ _).mono ?_
                          rintro e w' ⟨rfl, rfl⟩
                          go_wp2_with fail
                          refine (figure_any _ _).mono ?_
                          rintro e w' ⟨rfl, rfl⟩
                          go_wp2
                          go_ret
                          first | exact ⟨false, rfl, rfl, by simp⟩ | exact Or.inl ⟨rfl, rfl⟩
              · have p101 : (((s[i - 1].toNat : Nat) : Int) == 101) = false := by simp; omega
                have p69 : (((s[i - 1].toNat : Nat) : Int) == 69) = true := by simp; omega
                have p112 : (((s[i - 1].toNat : Nat) : Int) == 112) = false := by simp; omega
                have p80 : (((s[i - 1].toNat : Nat) : Int) == 80) = false := by simp; omega
                have HEx : Hid (isExp s[i - 1].toNat = true) := by unfold Hid isExp; simp; omega
                clear hp
                cases hL : isLt s[i].toNat with
                | true =>
                  go_wp2_with fail
                  refine (letter_lt _ _).mono ?_
                  rintro e w' ⟨rfl, rfl⟩
                  go_wp2
                  go_roundg (s.size - (i + 1))
                  case measure => have := HG.out; omega
                  case rel => exact ⟨i + 1, by omega, hk, rfl, rfl, rfl, next_go HA.out (by rw [← HB.out, ← HP.out]; exact Or.inl hL)⟩
                | false =>
                  cases hF : isDg s[i].toNat with
                  | true =>
                    go_wp2_with fail
                    refine (letter_lt _ _).mono ?_
                    rintro e w' ⟨rfl, rfl⟩
                    go_wp2_with fail
                    refine (figure_any _ _).mono ?_
                    rintro e w' ⟨rfl, rfl⟩
                    go_wp2
                    go_roundg (s.size - (i + 1))
                    case measure => have := HG.out; omega
                    case rel => exact ⟨i + 1, by omega, hk, rfl, rfl, rfl, next_go HA.out (by rw [← HB.out, ← HP.out]; exact Or.inr (Or.inl hF))⟩
                  | false =>
                    by_cases h46 : s[i].toNat = 46
                    · have f46 : (((s[i].toNat : Nat) : Int) == 46) = true := by simp; omega
                      have f46' : (((s[i].toNat : Nat) : Int) != 46) = false := by simp; omega
                      have H46 := Lib.hid h46
                      clear h46
                      go_wp2_with fail
                      refine (letter_lt _ _).mono ?_
                      rintro e w' ⟨rfl, rfl⟩
                      go_wp2_with fail
                      refine (figure_any _ _).mono ?_
                      rintro e w' ⟨rfl, rfl⟩
                      go_wp2
                      go_roundg (s.size - (i + 1))
                      case measure => have := HG.out; omega
                      case rel => exact ⟨i + 1, by omega, hk, rfl, rfl, rfl, next_go HA.out (by rw [← HB.out, ← HP.out]; exact Or.inr (Or.inr (Or.inl H46.out)))⟩
                    · have f46 : (((s[i].toNat : Nat) : Int) == 46) = false := by simp; omega
                      have f46' : (((s[i].toNat : Nat) : Int) != 46) = true := by simp; omega
                      clear h46
                      by_cases h43 : s[i].toNat = 43
                      · have f43 : (((s[i].toNat : Nat) : Int) == 43) = true := by simp; omega
                        have HSg : Hid (isSg s[i].toNat = true) := by unfold Hid isSg; simp; omega
                        clear h43
                        go_wp2_with fail
                        refine (letter_lt _ _).mono ?_
                        rintro e w' ⟨rfl, rfl⟩
                        go_wp2_with fail
                        refine (figure_any _ _).mono ?_
                        rintro e w' ⟨rfl, rfl⟩
                        go_wp2
                        go_roundg (s.size - (i + 1))
                        case measure => have := HG.out; omega
                        case rel => exact ⟨i + 1, by omega, hk, rfl, rfl, rfl, next_go HA.out (by rw [← HB.out, ← HP.out]; exact Or.inr (Or.inr (Or.inr ⟨HEx.out, HSg.out⟩)))⟩
                      · have f43 : (((s[i].toNat : Nat) : Int) == 43) = false := by simp; omega
                        by_cases h45 : s[i].toNat = 45
                        · have f45 : (((s[i].toNat : Nat) : Int) == 45) = true := by simp; omega
                          have HSg : Hid (isSg s[i].toNat = true) := by unfold Hid isSg; simp; omega
                          clear h43 h45
                          go_wp2_with fail
                          refine (letter_lt _ _).mono ?_
                          rintro e w' ⟨rfl, rfl⟩
                          go_wp2_with fail
                          refine (figure_any _ _).mono ?_
                          rintro e w' ⟨rfl, rfl⟩
                          go_wp2
                          go_roundg (s.size - (i + 1))
                          case measure => have := HG.out; omega
                          case rel => exact ⟨i + 1, by omega, hk, rfl, rfl, rfl, next_go HA.out (by rw [← HB.out, ← HP.out]; exact Or.inr (Or.inr (Or.inr ⟨HEx.out, HSg.out⟩)))⟩
                        · have f45 : (((s[i].toNat : Nat) : Int) == 45) = false := by simp; omega
                          clear h43 h45
                          go_wp2_with fail
                          refine (letter_lt _ _).mono ?_
                          rintro e w' ⟨rfl, rfl⟩
                          go_wp2_with fail
                          refine (figure_any _ _).mono ?_
                          rintro e w' ⟨rfl, rfl⟩
                          go_wp2
                          go_ret
                          first | exact ⟨false, rfl, rfl, by simp⟩ | exact Or.inl ⟨rfl, rfl⟩
              · have p101 : (((s[i - 1].toNat : Nat) : Int) == 101) = false := by simp; omega
                have p69 : (((s[i - 1].toNat : Nat) : Int) == 69) = false := by simp; omega
                have p112 : (((s[i - 1].toNat : Nat) : Int) == 112) = true := by simp; omega
                have p80 : (((s[i - 1].toNat : Nat) : Int) == 80) = false := by simp; omega
                have HEx : Hid (isExp s[i - 1].toNat = true) := by unfold Hid isExp; simp; omega
                clear hp
                cases hL : isLt s[i].toNat with
                | true =>
                  go_wp2_with fail
                  refine (letter_lt _ _).mono ?_
                  rintro e w' ⟨rfl, rfl⟩
                  go_wp2
                  go_roundg (s.size - (i + 1))
                  case measure => have := HG.out; omega
                  case rel => exact ⟨i + 1, by omega, hk, rfl, rfl, rfl, next_go HA.out (by rw [← HB.out, ← HP.out]; exact Or.inl hL)⟩
                | false =>
                  cases hF : isDg s[i].toNat with
                  | true =>
                    go_wp2_with fail
                    refine (letter_lt _ _).mono ?_
                    rintro e w' ⟨rfl, rfl⟩
                    go_wp2_with fail
                    refine (figure_any _ _).mono ?_
                    rintro e w' ⟨rfl, rfl⟩
                    go_wp2
                    go_roundg (s.size - (i + 1))
                    case measure => have := HG.out; omega
                    case rel => exact ⟨i + 1, by omega, hk, rfl, rfl, rfl, next_go HA.out (by rw [← HB.out, ← HP.out]; exact Or.inr (Or.inl hF))⟩
                  | false =>
                    by_cases h46 : s[i].toNat = 46
                    · have f46 : (((s[i].toNat : Nat) : Int) == 46) = true := by simp; omega
                      have f46' : (((s[i].toNat : Nat) : Int) != 46) = false := by simp; omega
                      have H46 := Lib.hid h46
                      clear h46
                      go_wp2_with fail
                      refine (letter_lt _ _).mono ?_
                      rintro e w' ⟨rfl, rfl⟩
                      go_wp2_with fail
                      refine (figure_any _ _).mono ?_
                      rintro e w' ⟨rfl, rfl⟩
                      go_wp2
                      go_roundg (s.size - (i + 1))
                      case measure => have := HG.out; omega
                      case rel => exact ⟨i + 1, by omega, hk, rfl, rfl, rfl, next_go HA.out (by rw [← HB.out, ← HP.out]; exact Or.inr (Or.inr (Or.inl H46.out)))⟩
                    · have f46 : (((s[i].toNat : Nat) : Int) == 46) = false := by simp; omega
                      have f46' : (((s[i].toNat : Nat) : Int) != 46) = true := by simp; omega
                      clear h46
                      by_cases h43 : s[i].toNat = 43
                      · have f43 : (((s[i].toNat : Nat) : Int) == 43) = true := by simp; omega
                        have HSg : Hid (isSg s[i].toNat = true) := by unfold Hid isSg; simp; omega
                        clear h43
                        go_wp2_with fail
                        refine (letter_lt _ _).mono ?_
                        rintro e w' ⟨rfl, rfl⟩
                        go_wp2_with fail
                        refine (figure_any _ _).mono ?_
                        rintro e w' ⟨rfl, rfl⟩
                        go_wp2
                        go_roundg (s.size - (i + 1))
                        case measure => have := HG.out; omega
                        case rel => exact ⟨i + 1, by omega, hk, rfl, rfl, rfl, next_go HA.out (by rw [← HB.out, ← HP.out]; exact Or.inr (Or.inr (Or.inr ⟨HEx.out, HSg.out⟩)))⟩
                      · have f43 : (((s[i].toNat : Nat) : Int) == 43) = false := by simp; omega
                        by_cases h45 : s[i].toNat = 45
                        · have f45 : (((s[i].toNat : Nat) : Int) == 45) = true := by simp; omega
                          have HSg : Hid (isSg s[i].toNat = true) := by unfold Hid isSg; simp; omega
                          clear h43 h45
                          go_wp2_with fail
                          refine (letter_lt _ _).mono ?_
                          rintro e w' ⟨rfl, rfl⟩
                          go_wp2_with fail
                          refine (figure_any _ _).mono ?_
                          rintro e w' ⟨rfl, rfl⟩
                          go_wp2
                          go_roundg (s.size - (i + 1))
                          case measure => have := HG.out; omega
                          case rel => exact ⟨i + 1, by omega, hk, rfl, rfl, rfl, next_go HA.out (by rw [← HB.out, ← HP.out]; exact Or.inr (Or.inr (Or.inr ⟨HEx.out, HSg.out⟩)))⟩
                        · have f45 : (((s[i].toNat : Nat) : Int) == 45) = false := by simp; omega
                          clear h43 h45
                          go_wp2_with fail
                          refine (letter_lt _ _).mono ?_
                          rintro e w' ⟨rfl, rfl⟩
                          go_wp2_with fail
                          refine (figure_any _ _).mono ?_
                          rintro e w' ⟨rfl, rfl⟩
                          go_wp2
                          go_ret
                          first | exact ⟨false, rfl, rfl, by simp⟩ | exact Or.inl ⟨rfl, rfl⟩
              · have p101 : (((s[i - 1].toNat : Nat) : Int) == 101) = false := by simp; omega
                have p69 : (((s[i - 1].toNat : Nat) : Int) == 69) = false := by simp; omega
                have p112 : (((s[i - 1].toNat : Nat) : Int) == 112) = false := by simp; omega
                have p80 : (((s[i - 1].toNat : Nat) : Int) == 80) = true := by simp; omega
                have HEx : Hid (isExp s[i - 1].toNat = true) := by unfold Hid isExp; simp; omega
                clear hp
                cases hL : isLt s[i].toNat with
                | true =>
                  go_wp2_with fail
                  refine (letter_lt _ _).mono ?_
                  rintro e w' ⟨rfl, rfl⟩
                  go_wp2
                  go_roundg (s.size - (i + 1))
                  case measure => have := HG.out; omega
                  case rel => exact ⟨i + 1, by omega, hk, rfl, rfl, rfl, next_go HA.out (by rw [← HB.out, ← HP.out]; exact Or.inl hL)⟩
                | false =>
                  cases hF : isDg s[i].toNat with
                  | true =>
                    go_wp2_with fail
                    refine (letter_lt _ _).mono ?_
                    rintro e w' ⟨rfl, rfl⟩
                    go_wp2_with fail
                    refine (figure_any _ _).mono ?_
                    rintro e w' ⟨rfl, rfl⟩
                    go_wp2
                    go_roundg (s.size - (i + 1))
                    case measure => have := HG.out; omega
                    case rel => exact ⟨i + 1, by omega, hk, rfl, rfl, rfl, next_go HA.out (by rw [← HB.out, ← HP.out]; exact Or.inr (Or.inl hF))⟩
                  | false =>
                    by_cases h46 : s[i].toNat = 46
                    · have f46 : (((s[i].toNat : Nat) : Int) == 46) = true := by simp; omega
                      have f46' : (((s[i].toNat : Nat) : Int) != 46) = false := by simp; omega
                      have H46 := Lib.hid h46
                      clear h46
                      go_wp2_with fail
                      refine (letter_lt _ _).mono ?_
                      rintro e w' ⟨rfl, rfl⟩
                      go_wp2_with fail
                      refine (figure_any _ _).mono ?_
                      rintro e w' ⟨rfl, rfl⟩
                      go_wp2
                      go_roundg (s.size - (i + 1))
                      case measure => have := HG.out; omega
                      case rel => exact ⟨i + 1, by omega, hk, rfl, rfl, rfl, next_go HA.out (by rw [← HB.out, ← HP.out]; exact Or.inr (Or.inr (Or.inl H46.out)))⟩
                    · have f46 : (((s[i].toNat : Nat) : Int) == 46) = false := by simp; omega
                      have f46' : (((s[i].toNat : Nat) : Int) != 46) = true := by simp; omega
                      clear h46
                      by_cases h43 : s[i].toNat = 43
                      · have f43 : (((s[i].toNat : Nat) : Int) == 43) = true := by simp; omega
                        have HSg : Hid (isSg s[i].toNat = true) := by unfold Hid isSg; simp; omega
                        clear h43
                        go_wp2_with fail
                        refine (letter_lt _ _).mono ?_
                        rintro e w' ⟨rfl, rfl⟩
                        go_wp2_with fail
                        refine (figure_any _ _).mono ?_
                        rintro e w' ⟨rfl, rfl⟩
                        go_wp2
                        go_roundg (s.size - (i + 1))
                        case measure => have := HG.out; omega
                        case rel => exact ⟨i + 1, by omega, hk, rfl, rfl, rfl, next_go HA.out (by rw [← HB.out, ← HP.out]; exact Or.inr (Or.inr (Or.inr ⟨HEx.out, HSg.out⟩)))⟩
                      · have f43 : (((s[i].toNat : Nat) : Int) == 43) = false := by simp; omega
                        by_cases h45 : s[i].toNat = 45
                        · have f45 : (((s[i].toNat : Nat) : Int) == 45) = true := by simp; omega
                          have HSg : Hid (isSg s[i].toNat = true) := by unfold Hid isSg; simp; omega
                          clear h43 h45
                          go_wp2_with fail
                          refine (letter_lt _ _).mono ?_
                          rintro e w' ⟨rfl, rfl⟩
                          go_wp2_with fail
                          refine (figure_any _ _).mono ?_
                          rintro e w' ⟨rfl, rfl⟩
                          go_wp2
                          go_roundg (s.size - (i + 1))
                          case measure => have := HG.out; omega
                          case rel => exact ⟨i + 1, by omega, hk, rfl, rfl, rfl, next_go HA.out (by rw [← HB.out, ← HP.out]; exact Or.inr (Or.inr (Or.inr ⟨HEx.out, HSg.out⟩)))⟩
                        · have f45 : (((s[i].toNat : Nat) : Int) == 45) = false := by simp; omega
                          clear h43 h45
                          go_wp2_with fail
                          refine (letter_lt _ _).mono ?_
                          rintro e w' ⟨rfl, rfl⟩
                          go_wp2_with fail
                          refine (figure_any _ _).mono ?_
                          rintro e w' ⟨rfl, rfl⟩
                          go_wp2
                          go_ret
                          first | exact ⟨false, rfl, rfl, by simp⟩ | exact Or.inl ⟨rfl, rfl⟩
              · have p101 : (((s[i - 1].toNat : Nat) : Int) == 101) = false := by simp; omega
                have p69 : (((s[i - 1].toNat : Nat) : Int) == 69) = false := by simp; omega
                have p112 : (((s[i - 1].toNat : Nat) : Int) == 112) = false := by simp; omega
                have p80 : (((s[i - 1].toNat : Nat) : Int) == 80) = false := by simp; omega
                clear hp
                cases hL : isLt s[i].toNat with
                | true =>
                  go_wp2_with fail
                  refine (letter_lt _ _).mono ?_
                  rintro e w' ⟨rfl, rfl⟩
                  go_wp2
                  go_roundg (s.size - (i + 1))
                  case measure => have := HG.out; omega
                  case rel => exact ⟨i + 1, by omega, hk, rfl, rfl, rfl, next_go HA.out (by rw [← HB.out, ← HP.out]; exact Or.inl hL)⟩
                | false =>
                  cases hF : isDg s[i].toNat with
                  | true =>
                    go_wp2_with fail
                    refine (letter_lt _ _).mono ?_
                    rintro e w' ⟨rfl, rfl⟩
                    go_wp2_with fail
                    refine (figure_any _ _).mono ?_
                    rintro e w' ⟨rfl, rfl⟩
                    go_wp2
                    go_roundg (s.size - (i + 1))
                    case measure => have := HG.out; omega
                    case rel => exact ⟨i + 1, by omega, hk, rfl, rfl, rfl, next_go HA.out (by rw [← HB.out, ← HP.out]; exact Or.inr (Or.inl hF))⟩
                  | false =>
                    by_cases h46 : s[i].toNat = 46
                    · have f46 : (((s[i].toNat : Nat) : Int) == 46) = true := by simp; omega
                      have f46' : (((s[i].toNat : Nat) : Int) != 46) = false := by simp; omega
                      have H46 := Lib.hid h46
                      clear h46
                      go_wp2_with fail
                      refine (letter_lt _ _).mono ?_
                      rintro e w' ⟨rfl, rfl⟩
                      go_wp2_with fail
                      refine (figure_any _ _).mono ?_
                      rintro e w' ⟨rfl, rfl⟩
                      go_wp2
                      go_roundg (s.size - (i + 1))
                      case measure => have := HG.out; omega
                      case rel => exact ⟨i + 1, by omega, hk, rfl, rfl, rfl, next_go HA.out (by rw [← HB.out, ← HP.out]; exact Or.inr (Or.inr (Or.inl H46.out)))⟩
                    · have f46 : (((s[i].toNat : Nat) : Int) == 46) = false := by simp; omega
                      have f46' : (((s[i].toNat : Nat) : Int) != 46) = true := by simp; omega
                      clear h46
                      go_wp2_with fail
                      refine (letter_lt _ _).mono ?_
                      rintro e w' ⟨rfl, rfl⟩
                      go_wp2_with fail
                      refine (figure_any _ _).mono ?_
                      rintro e w' ⟨rfl, rfl⟩
                      go_wp2
                      go_ret
                      first | exact ⟨false, rfl, rfl, by simp⟩ | exact Or.inl ⟨rfl, rfl⟩
            · have hk' : i = s.size := by omega
              subst hk'
              go_wp2
              go_ret
              exact ⟨true, rfl, rfl, fun _ => ⟨1, Or.inr ⟨rfl, by rw [← hB0.out]; exact HD0.out⟩, by omega, by rw [← hB1.out]; exact hD, fun j h1 h2 => HA.out j h1 h2⟩⟩
      · have h1' : s.size ≤ 1 := by omega
        clear hdot
        go_enter Tryd.func18, Tryd.ntmps18
        go_wp2
        go_ret
        first | exact ⟨false, rfl, rfl, by simp⟩ | exact Or.inl ⟨rfl, rfl⟩
    · have hdot' : (((s[0].toNat : Nat) : Int) == 46) = false := by simp; omega
      clear hdot
      cases hD : isDg s[0].toNat with
      | false =>
        go_enter Tryd.func18, Tryd.ntmps18
        go_wp2_with fail
        refine (figure_any _ _).mono ?_
        rintro e w' ⟨rfl, rfl⟩
        go_wp2
        go_ret
        first | exact ⟨false, rfl, rfl, by simp⟩ | exact Or.inl ⟨rfl, rfl⟩
      | true =>
        go_enter Tryd.func18, Tryd.ntmps18
        go_wp2_with fail
        refine (figure_any _ _).mono ?_
        rintro e w' ⟨rfl, rfl⟩
        go_wp2_with fail
        go_loopg [3] (s.size - 1) (fun g c wr => ∃ i : Nat, 0 < i ∧ i ≤ s.size ∧ c = .int .i64 i ∧ g = s.size - i ∧ wr = w' ∧ ∀ j, 0 < j → j < i → numGo (bAt s (j - 1)) (bAt s j))
        case atStart => exact ⟨1, by omega, by omega, rfl, rfl, rfl, fun j h1 h2 => by omega⟩
        case round =>
          obtain ⟨i, hi0, hi, rfl, hg, rfl, hall⟩ := hrel
          have HG := Lib.hid hg
          have HA := Lib.hid hall
          clear hg hall
          by_cases hk : i < s.size
          · have a1 : IntKind.i64.wrap ((i : Int) - 1) = (i : Int) - 1 := IntWalk.i64_in _ (by have := HS.out; omega)
            have a7 : IntKind.i64.wrap ((i : Int) + 1) = (i : Int) + 1 := IntWalk.i64_in _ (by have := HS.out; omega)
            have a2 : (0 : Int) ≤ (i : Int) - 1 := by omega
            have a3 : (1 : Int) ≤ (i : Int) := by omega
            have a4 : ((i : Int) - 1).toNat = i - 1 := by omega
            have a5 : i - 1 < s.size := by omega
            have a6 : (i : Int) - 1 < (s.size : Int) := by omega
            have HB := Lib.hid (bAt_eq s i hk)
            have HP := Lib.hid (bAt_eq s (i - 1) a5)
            rcases (show s[i - 1].toNat = 101 ∨ s[i - 1].toNat = 69 ∨ s[i - 1].toNat = 112 ∨ s[i - 1].toNat = 80 ∨ (s[i - 1].toNat ≠ 101 ∧ s[i - 1].toNat ≠ 69 ∧ s[i - 1].toNat ≠ 112 ∧ s[i - 1].toNat ≠ 80) by omega) with hp | hp | hp | hp | hp
            · have p101 : (((s[i - 1].toNat : Nat) : Int) == 101) = true := by simp; omega
              have p69 : (((s[i - 1].toNat : Nat) : Int) == 69) = false := by simp; omega
              have p112 : (((s[i - 1].toNat : Nat) : Int) == 112) = false := by simp; omega
              have p80 : (((s[i - 1].toNat : Nat) : Int) == 80) = false := by simp; omega
              have HEx : Hid (isExp s[i - 1].toNat = true) := by unfold Hid isExp; simp; omega
              clear hp
              cases hL : isLt s[i].toNat with
              | true =>
                go_wp2_with fail
                refine (letter_lt _ _).mono ?_
                rintro e w' ⟨rfl, rfl⟩
                go_wp2
                go_roundg (s.size - (i + 1))
                case measure => have := HG.out; omega
                case rel => exact ⟨i + 1, by omega, hk, rfl, rfl, rfl, next_go HA.out (by rw [← HB.out, ← HP.out]; exact Or.inl hL)⟩
              | false =>
                cases hF : isDg s[i].toNat with
                | true =>
                  go_wp2_with fail
                  refine (letter_lt _ _).mono ?_
                  rintro e w' ⟨rfl, rfl⟩
                  go_wp2_with fail
                  refine (figure_any _ _).mono ?_
                  rintro e w' ⟨rfl, rfl⟩
                  go_wp2
                  go_roundg (s.size - (i + 1))
                  case measure => have := HG.out; omega
                  case rel => exact ⟨i + 1, by omega, hk, rfl, rfl, rfl, next_go HA.out (by rw [← HB.out, ← HP.out]; exact Or.inr (Or.inl hF))⟩
                | false =>
                  by_cases h46 : s[i].toNat = 46
                  · have f46 : (((s[i].toNat : Nat) : Int) == 46) = true := by simp; omega
                    have f46' : (((s[i].toNat : Nat) : Int) != 46) = false := by simp; omega
                    have H46 := Lib.hid h46
                    clear h46
                    go_wp2_with fail
                    refine (letter_lt _ _).mono ?_
                    rintro e w' ⟨rfl, rfl⟩
                    go_wp2_with fail
                    refine (figure_any _ _).mono ?_
                    rintro e w' ⟨rfl, rfl⟩
                    go_wp2
                    go_roundg (s.size - (i + 1))
                    case measure => have := HG.out; omega
                    case rel => exact ⟨i + 1, by omega, hk, rfl, rfl, rfl, next_go HA.out (by rw [← HB.out, ← HP.out]; exact Or.inr (Or.inr (Or.inl H46.out)))⟩
                  · have f46 : (((s[i].toNat : Nat) : Int) == 46) = false := by simp; omega
                    have f46' : (((s[i].toNat : Nat) : Int) != 46) = true := by simp; omega
                    clear h46
                    by_cases h43 : s[i].toNat = 43
                    · have f43 : (((s[i].toNat : Nat) : Int) == 43) = true := by simp; omega
                      have HSg : Hid (isSg s[i].toNat = true) := by unfold Hid isSg; simp; omega
                      clear h43
                      go_wp2_with fail
                      refine (letter_lt _ _).mono ?_
                      rintro e w' ⟨rfl, rfl⟩
                      go_wp2_with fail
                      refine (figure_any _ _).mono ?_
                      rintro e w' ⟨rfl, rfl⟩
                      go_wp2
                      go_roundg (s.size - (i + 1))
                      case measure => have := HG.out; omega
                      case rel => exact ⟨i + 1, by omega, hk, rfl, rfl, rfl, next_go HA.out (by rw [← HB.out, ← HP.out]; exact Or.inr (Or.inr (Or.inr ⟨HEx.out, HSg.out⟩)))⟩
                    · have f43 : (((s[i].toNat : Nat) : Int) == 43) = false := by simp; omega
                      by_cases h45 : s[i].toNat = 45
                      · have f45 : (((s[i].toNat : Nat) : Int) == 45) = true := by simp; omega
                        have HSg : Hid (isSg s[i].toNat = true) := by unfold Hid isSg; simp; omega
                        clear h43 h45
                        go_wp2_with fail
                        refine (letter_lt _ _).mono ?_
                        rintro e w' ⟨rfl, rfl⟩
                        go_wp2_with fail
                        refine (figure_any _ _).mono ?_
                        rintro e w' ⟨rfl, rfl⟩
                        go_wp2
                        go_roundg (s.size - (i + 1))
                        case measure => have := HG.out; omega
                        case rel => exact ⟨i + 1, by omega, hk, rfl, rfl, rfl, next_go HA.out (by rw [← HB.out, ← HP.out]; exact Or.inr (Or.inr (Or.inr ⟨HEx.out, HSg.out⟩)))⟩
                      · have f45 : (((s[i].toNat : Nat) : Int) == 45) = false := by simp; omega
                        clear h43 h45
                        go_wp2_with fail
                        refine (letter_lt _ _).mono ?_
                        rintro e w' ⟨rfl, rfl⟩
                        go_wp2_with fail
                        refine (figure_any _ _).mono ?_
                        rintro e w' ⟨rfl, rfl⟩
                        go_wp2
                        go_ret
                        first | exact ⟨false, rfl, rfl, by simp⟩ | exact Or.inl ⟨rfl, rfl⟩
            · have p101 : (((s[i - 1].toNat : Nat) : Int) == 101) = false := by simp; omega
              have p69 : (((s[i - 1].toNat : Nat) : Int) == 69) = true := by simp; omega
              have p112 : (((s[i - 1].toNat : Nat) : Int) == 112) = false := by simp; omega
              have p80 : (((s[i - 1].toNat : Nat) : Int) == 80) = false := by simp; omega
              have HEx : Hid (isExp s[i - 1].toNat = true) := by unfold Hid isExp; simp; omega
              clear hp
              cases hL : isLt s[i].toNat with
              | true =>
                go_wp2_with fail
                refine (letter_lt _ _).mono ?_
                rintro e w' ⟨rfl, rfl⟩
                go_wp2
                go_roundg (s.size - (i + 1))
                case measure => have := HG.out; omega
                case rel => exact ⟨i + 1, by omega, hk, rfl, rfl, rfl, next_go HA.out (by rw [← HB.out, ← HP.out]; exact Or.inl hL)⟩
              | false =>
                cases hF : isDg s[i].toNat with
                | true =>
                  go_wp2_with fail
                  refine (letter_lt _ _).mono ?_
                  rintro e w' ⟨rfl, rfl⟩
                  go_wp2_with fail
                  refine (figure_any _ _).mono ?_
                  rintro e w' ⟨rfl, rfl⟩
                  go_wp2
                  go_roundg (s.size - (i + 1))
                  case measure => have := HG.out; omega
                  case rel => exact ⟨i + 1, by omega, hk, rfl, rfl, rfl, next_go HA.out (by rw [← HB.out, ← HP.out]; exact Or.inr (Or.inl hF))⟩
                | false =>
                  by_cases h46 : s[i].toNat = 46
                  · have f46 : (((s[i].toNat : Nat) : Int) == 46) = true := by simp; omega
                    have f46' : (((s[i].toNat : Nat) : Int) != 46) = false := by simp; omega
                    have H46 := Lib.hid h46
                    clear h46
                    go_wp2_with fail
                    refine (letter_lt _ _).mono ?_
                    rintro e w' ⟨rfl, rfl⟩
                    go_wp2_with fail
                    refine (figure_any _ _).mono ?_
                    rintro e w' ⟨rfl, rfl⟩
                    go_wp2
                    go_roundg (s.size - (i + 1))
                    case measure => have := HG.out; omega
                    case rel => exact ⟨i + 1, by omega, hk, rfl, rfl, rfl, next_go HA.out (by rw [← HB.out, ← HP.out]; exact Or.inr (Or.inr (Or.inl H46.out)))⟩
                  · have f46 : (((s[i].toNat : Nat) : Int) == 46) = false := by simp; omega
                    have f46' : (((s[i].toNat : Nat) : Int) != 46) = true := by simp; omega
                    clear h46
                    by_cases h43 : s[i].toNat = 43
                    · have f43 : (((s[i].toNat : Nat) : Int) == 43) = true := by simp; omega
                      have HSg : Hid (isSg s[i].toNat = true) := by unfold Hid isSg; simp; omega
                      clear h43
                      go_wp2_with fail
                      refine (letter_lt _ _).mono ?_
                      rintro e w' ⟨rfl, rfl⟩
                      go_wp2_with fail
                      refine (figure_any _ _).mono ?_
                      rintro e w' ⟨rfl, rfl⟩
                      go_wp2
                      go_roundg (s.size - (i + 1))
                      case measure => have := HG.out; omega
                      case rel => exact ⟨i + 1, by omega, hk, rfl, rfl, rfl, next_go HA.out (by rw [← HB.out, ← HP.out]; exact Or.inr (Or.inr (Or.inr ⟨HEx.out, HSg.out⟩)))⟩
                    · have f43 : (((s[i].toNat : Nat) : Int) == 43) = false := by simp; omega
                      by_cases h45 : s[i].toNat = 45
                      · have f45 : (((s[i].toNat : Nat) : Int) == 45) = true := by simp; omega
                        have HSg : Hid (isSg s[i].toNat = true) := by unfold Hid isSg; simp; omega
                        clear h43 h45
                        go_wp2_with fail
                        refine (letter_lt _ _).mono ?_
                        rintro e w' ⟨rfl, rfl⟩
                        go_wp2_with fail
                        refine (figure_any _ _).mono ?_
                        rintro e w' ⟨rfl, rfl⟩
                        go_wp2
                        go_roundg (s.size - (i + 1))
                        case measure => have := HG.out; omega
                        case rel => exact ⟨i + 1, by omega, hk, rfl, rfl, rfl, next_go HA.out (by rw [← HB.out, ← HP.out]; exact Or.inr (Or.inr (Or.inr ⟨HEx.out, HSg.out⟩)))⟩
                      · have f45 : (((s[i].toNat : Nat) : Int) == 45) = false := by simp; omega
                        clear h43 h45
                        go_wp2_with fail
                        refine (letter_lt _ _).mono ?_
                        rintro e w' ⟨rfl, rfl⟩
                        go_wp2_with fail
                        refine (figure_any _ _).mono ?_
                        rintro e w' ⟨rfl, rfl⟩
                        go_wp2
                        go_ret
                        first | exact ⟨false, rfl, rfl, by simp⟩ | exact Or.inl ⟨rfl, rfl⟩
            · have p101 : (((s[i - 1].toNat : Nat) : Int) == 101) = false := by simp; omega
              have p69 : (((s[i - 1].toNat : Nat) : Int) == 69) = false := by simp; omega
              have p112 : (((s[i - 1].toNat : Nat) : Int) == 112) = true := by simp; omega
              have p80 : (((s[i - 1].toNat : Nat) : Int) == 80) = false := by simp; omega
              have HEx : Hid (isExp s[i - 1].toNat = true) := by unfold Hid isExp; simp; omega
              clear hp
              cases hL : isLt s[i].toNat with
              | true =>
                go_wp2_with fail
                refine (letter_lt _ _).mono ?_
                rintro e w' ⟨rfl, rfl⟩
                go_wp2
                go_roundg (s.size - (i + 1))
                case measure => have := HG.out; omega
                case rel => exact ⟨i + 1, by omega, hk, rfl, rfl, rfl, next_go HA.out (by rw [← HB.out, ← HP.out]; exact Or.inl hL)⟩
              | false =>
                cases hF : isDg s[i].toNat with
                | true =>
                  go_wp2_with fail
                  refine (letter_lt _ _).mono ?_
                  rintro e w' ⟨rfl, rfl⟩
                  go_wp2_with fail
                  refine (figure_any _ _).mono ?_
                  rintro e w' ⟨rfl, rfl⟩
                  go_wp2
                  go_roundg (s.size - (i + 1))
                  case measure => have := HG.out; omega
                  case rel => exact ⟨i + 1, by omega, hk, rfl, rfl, rfl, next_go HA.out (by rw [← HB.out, ← HP.out]; exact Or.inr (Or.inl hF))⟩
                | false =>
                  by_cases h46 : s[i].toNat = 46
                  · have f46 : (((s[i].toNat : Nat) : Int) == 46) = true := by simp; omega
                    have f46' : (((s[i].toNat : Nat) : Int) != 46) = false := by simp; omega
                    have H46 := Lib.hid h46
                    clear h46
                    go_wp2_with fail
                    refine (letter_lt _ _).mono ?_
                    rintro e w' ⟨rfl, rfl⟩
                    go_wp2_with fail
                    refine (figure_any _ _).mono ?_
                    rintro e w' ⟨rfl, rfl⟩
                    go_wp2
                    go_roundg (s.size - (i + 1))
                    case measure => have := HG.out; omega
                    case rel => exact ⟨i + 1, by omega, hk, rfl, rfl, rfl, next_go HA.out (by rw [← HB.out, ← HP.out]; exact Or.inr (Or.inr (Or.inl H46.out)))⟩
                  · have f46 : (((s[i].toNat : Nat) : Int) == 46) = false := by simp; omega
                    have f46' : (((s[i].toNat : Nat) : Int) != 46) = true := by simp; omega
                    clear h46
                    by_cases h43 : s[i].toNat = 43
                    · have f43 : (((s[i].toNat : Nat) : Int) == 43) = true := by simp; omega
                      have HSg : Hid (isSg s[i].toNat = true) := by unfold Hid isSg; simp; omega
                      clear h43
                      go_wp2_with fail
                      refine (letter_lt _ _).mono ?_
                      rintro e w' ⟨rfl, rfl⟩
                      go_wp2_with fail
                      refine (figure_any _ _).mono ?_
                      rintro e w' ⟨rfl, rfl⟩
                      go_wp2
                      go_roundg (s.size - (i + 1))
                      case measure => have := HG.out; omega
                      case rel => exact ⟨i + 1, by omega, hk, rfl, rfl, rfl, next_go HA.out (by rw [← HB.out, ← HP.out]; exact Or.inr (Or.inr (Or.inr ⟨HEx.out, HSg.out⟩)))⟩
                    · have f43 : (((s[i].toNat : Nat) : Int) == 43) = false := by simp; omega
                      by_cases h45 : s[i].toNat = 45
                      · have f45 : (((s[i].toNat : Nat) : Int) == 45) = true := by simp; omega
                        have HSg : Hid (isSg s[i].toNat = true) := by unfold Hid isSg; simp; omega
                        clear h43 h45
                        go_wp2_with fail
                        refine (letter_lt _ _).mono ?_
                        rintro e w' ⟨rfl, rfl⟩
                        go_wp2_with fail
                        refine (figure_any _ _).mono ?_
                        rintro e w' ⟨rfl, rfl⟩
                        go_wp2
                        go_roundg (s.size - (i + 1))
                        case measure => have := HG.out; omega
                        case rel => exact ⟨i + 1, by omega, hk, rfl, rfl, rfl, next_go HA.out (by rw [← HB.out, ← HP.out]; exact Or.inr (Or.inr (Or.inr ⟨HEx.out, HSg.out⟩)))⟩
                      · have f45 : (((s[i].toNat : Nat) : Int) == 45) = false := by simp; omega
                        clear h43 h45
                        go_wp2_with fail
                        refine (letter_lt _ _).mono ?_
                        rintro e w' ⟨rfl, rfl⟩
                        go_wp2_with fail
                        refine (figure_any _ _).mono ?_
                        rintro e w' ⟨rfl, rfl⟩
                        go_wp2
                        go_ret
                        first | exact ⟨false, rfl, rfl, by simp⟩ | exact Or.inl ⟨rfl, rfl⟩
            · have p101 : (((s[i - 1].toNat : Nat) : Int) == 101) = false := by simp; omega
              have p69 : (((s[i - 1].toNat : Nat) : Int) == 69) = false := by simp; omega
              have p112 : (((s[i - 1].toNat : Nat) : Int) == 112) = false := by simp; omega
              have p80 : (((s[i - 1].toNat : Nat) : Int) == 80) = true := by simp; omega
              have HEx : Hid (isExp s[i - 1].toNat = true) := by unfold Hid isExp; simp; omega
              clear hp
              cases hL : isLt s[i].toNat with
              | true =>
                go_wp2_with fail
                refine (letter_lt _ _).mono ?_
                rintro e w' ⟨rfl, rfl⟩
                go_wp2
                go_roundg (s.size - (i + 1))
                case measure => have := HG.out; omega
                case rel => exact ⟨i + 1, by omega, hk, rfl, rfl, rfl, next_go HA.out (by rw [← HB.out, ← HP.out]; exact Or.inl hL)⟩
              | false =>
                cases hF : isDg s[i].toNat with
                | true =>
                  go_wp2_with fail
                  refine (letter_lt _ _).mono ?_
                  rintro e w' ⟨rfl, rfl⟩
                  go_wp2_with fail
                  refine (figure_any _ _).mono ?_
                  rintro e w' ⟨rfl, rfl⟩
                  go_wp2
                  go_roundg (s.size - (i + 1))
                  case measure => have := HG.out; omega
                  case rel => exact ⟨i + 1, by omega, hk, rfl, rfl, rfl, next_go HA.out (by rw [← HB.out, ← HP.out]; exact Or.inr (Or.inl hF))⟩
                | false =>
                  by_cases h46 : s[i].toNat = 46
                  · have f46 : (((s[i].toNat : Nat) : Int) == 46) = true := by simp; omega
                    have f46' : (((s[i].toNat : Nat) : Int) != 46) = false := by simp; omega
                    have H46 := Lib.hid h46
                    clear h46
                    go_wp2_with fail
                    refine (letter_lt _ _).mono ?_
                    rintro e w' ⟨rfl, rfl⟩
                    go_wp2_with fail
                    refine (figure_any _ _).mono ?_
                    rintro e w' ⟨rfl, rfl⟩
                    go_wp2
                    go_roundg (s.size - (i + 1))
                    case measure => have := HG.out; omega
                    case rel => exact ⟨i + 1, by omega, hk, rfl, rfl, rfl, next_go HA.out (by rw [← HB.out, ← HP.out]; exact Or.inr (Or.inr (Or.inl H46.out)))⟩
                  · have f46 : (((s[i].toNat : Nat) : Int) == 46) = false := by simp; omega
                    have f46' : (((s[i].toNat : Nat) : Int) != 46) = true := by simp; omega
                    clear h46
                    by_cases h43 : s[i].toNat = 43
                    · have f43 : (((s[i].toNat : Nat) : Int) == 43) = true := by simp; omega
                      have HSg : Hid (isSg s[i].toNat = true) := by unfold Hid isSg; simp; omega
                      clear h43
                      go_wp2_with fail
                      refine (letter_lt _ _).mono ?_
                      rintro e w' ⟨rfl, rfl⟩
                      go_wp2_with fail
                      refine (figure_any _ _).mono ?_
                      rintro e w' ⟨rfl, rfl⟩
                      go_wp2
                      go_roundg (s.size - (i + 1))
                      case measure => have := HG.out; omega
                      case rel => exact ⟨i + 1, by omega, hk, rfl, rfl, rfl, next_go HA.out (by rw [← HB.out, ← HP.out]; exact Or.inr (Or.inr (Or.inr ⟨HEx.out, HSg.out⟩)))⟩
                    · have f43 : (((s[i].toNat : Nat) : Int) == 43) = false := by simp; omega
                      by_cases h45 : s[i].toNat = 45
                      · have f45 : (((s[i].toNat : Nat) : Int) == 45) = true := by simp; omega
                        have HSg : Hid (isSg s[i].toNat = true) := by unfold Hid isSg; simp; omega
                        clear h43 h45
                        go_wp2_with fail
                        refine (letter_lt _ _).mono ?_
                        rintro e w' ⟨rfl, rfl⟩
                        go_wp2_with fail
                        refine (figure_any _ _).mono ?_
                        rintro e w' ⟨rfl, rfl⟩
                        go_wp2
                        go_roundg (s.size - (i + 1))
                        case measure => have := HG.out; omega
                        case rel => exact ⟨i + 1, by omega, hk, rfl, rfl, rfl, next_go HA.out (by rw [← HB.out, ← HP.out]; exact Or.inr (Or.inr (Or.inr ⟨HEx.out, HSg.out⟩)))⟩
                      · have f45 : (((s[i].toNat : Nat) : Int) == 45) = false := by simp; omega
                        clear h43 h45
                        go_wp2_with fail
                        refine (letter_lt _ _).mono ?_
                        rintro e w' ⟨rfl, rfl⟩
                        go_wp2_with fail
                        refine (figure_any _ _).mono ?_
                        rintro e w' ⟨rfl, rfl⟩
                        go_wp2
                        go_ret
                        first | exact ⟨false, rfl, rfl, by simp⟩ | exact Or.inl ⟨rfl, rfl⟩
            · have p101 : (((s[i - 1].toNat : Nat) : Int) == 101) = false := by simp; omega
              have p69 : (((s[i - 1].toNat : Nat) : Int) == 69) = false := by simp; omega
              have p112 : (((s[i - 1].toNat : Nat) : Int) == 112) = false := by simp; omega
              have p80 : (((s[i - 1].toNat : Nat) : Int) == 80) = false := by simp; omega
              clear hp
              cases hL : isLt s[i].toNat with
              | true =>
                go_wp2_with fail
                refine (letter_lt _ _).mono ?_
                rintro e w' ⟨rfl, rfl⟩
                go_wp2
                go_roundg (s.size - (i + 1))
                case measure => have := HG.out; omega
                case rel => exact ⟨i + 1, by omega, hk, rfl, rfl, rfl, next_go HA.out (by rw [← HB.out, ← HP.out]; exact Or.inl hL)⟩
              | false =>
                cases hF : isDg s[i].toNat with
                | true =>
                  go_wp2_with fail
                  refine (letter_lt _ _).mono ?_
                  rintro e w' ⟨rfl, rfl⟩
                  go_wp2_with fail
                  refine (figure_any _ _).mono ?_
                  rintro e w' ⟨rfl, rfl⟩
                  go_wp2
                  go_roundg (s.size - (i + 1))
                  case measure => have := HG.out; omega
                  case rel => exact ⟨i + 1, by omega, hk, rfl, rfl, rfl, next_go HA.out (by rw [← HB.out, ← HP.out]; exact Or.inr (Or.inl hF))⟩
                | false =>
                  by_cases h46 : s[i].toNat = 46
                  · have f46 : (((s[i].toNat : Nat) : Int) == 46) = true := by simp; omega
                    have f46' : (((s[i].toNat : Nat) : Int) != 46) = false := by simp; omega
                    have H46 := Lib.hid h46
                    clear h46
                    go_wp2_with fail
                    refine (letter_lt _ _).mono ?_
                    rintro e w' ⟨rfl, rfl⟩
                    go_wp2_with fail
                    refine (figure_any _ _).mono ?_
                    rintro e w' ⟨rfl, rfl⟩
                    go_wp2
                    go_roundg (s.size - (i + 1))
                    case measure => have := HG.out; omega
                    case rel => exact ⟨i + 1, by omega, hk, rfl, rfl, rfl, next_go HA.out (by rw [← HB.out, ← HP.out]; exact Or.inr (Or.inr (Or.inl H46.out)))⟩
                  · have f46 : (((s[i].toNat : Nat) : Int) == 46) = false := by simp; omega
                    have f46' : (((s[i].toNat : Nat) : Int) != 46) = true := by simp; omega
                    clear h46
                    go_wp2_with fail
                    refine (letter_lt _ _).mono ?_
                    rintro e w' ⟨rfl, rfl⟩
                    go_wp2_with fail
                    refine (figure_any _ _).mono ?_
                    rintro e w' ⟨rfl, rfl⟩
                    go_wp2
                    go_ret
                    first | exact ⟨false, rfl, rfl, by simp⟩ | exact Or.inl ⟨rfl, rfl⟩
          · have hk' : i = s.size := by omega
            subst hk'
            go_wp2
            go_ret
            exact ⟨true, rfl, rfl, fun _ => ⟨0, Or.inl rfl, by omega, by rw [← hB0.out]; exact hD, fun j h1 h2 => HA.out j h1 h2⟩⟩
  · have h0 : s.size = 0 := by omega
    obtain rfl : s = ByteArray.empty := by
      obtain ⟨d⟩ := s
      have : d.size = 0 := h0
      have : d = #[] := Array.eq_empty_of_size_eq_zero this
      subst this; rfl
    clear hs hz h0
    go_enter Tryd.func18, Tryd.ntmps18
    go_wp2
    go_ret
    first | exact ⟨false, rfl, rfl, by simp⟩ | exact Or.inl ⟨rfl, rfl⟩
end Go.Proofs.YtfooeinfgmfhpaaDoor
