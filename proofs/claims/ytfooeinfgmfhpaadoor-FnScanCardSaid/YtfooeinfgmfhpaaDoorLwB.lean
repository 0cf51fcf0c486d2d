/- Letter, Figure, Name, Number. -/
import Derived.Test.YtfooeinfgmfhpaaDoorPuA
import Derived.Test.YtfooeinfgmfhpaaDoorLwA
namespace Go.Proofs.YtfooeinfgmfhpaaDoor
open Go.RowKit

set_option maxHeartbeats 4000000 in
set_option maxRecDepth 100000 in
theorem figure_any (b : Nat) (w : World) : Calls Tryd.prog 28 #[.int .u8 b] w fun e w' => e = .returned (.bool (isDg b)) ∧ w' = w := by
  by_cases h1 : 48 ≤ b
  · by_cases h2 : b ≤ 57
    · have hr : isDg b = true := by unfold isDg; simp; omega
      rw [hr]
      go_enter Tryd.func28, Tryd.ntmps28
      go_wp2
      go_ret
      first | exact ⟨rfl, rfl⟩ | (refine ⟨?_, rfl⟩; simp; omega)
    · have hr : isDg b = false := by unfold isDg; simp; omega
      rw [hr]
      go_enter Tryd.func28, Tryd.ntmps28
      go_wp2
      go_ret
      first | exact ⟨rfl, rfl⟩ | (refine ⟨?_, rfl⟩; simp; omega)
  · have hr : isDg b = false := by unfold isDg; simp; omega
    rw [hr]
    go_enter Tryd.func28, Tryd.ntmps28
    go_wp2
    go_ret
    first | exact ⟨rfl, rfl⟩ | (refine ⟨?_, rfl⟩; simp; omega)

set_option maxHeartbeats 4000000 in
set_option maxRecDepth 100000 in
theorem letter_any (b : Nat) (w : World) : Calls Tryd.prog 27 #[.int .u8 b] w fun e w' => e = .returned (.bool (isAl b || b == 95)) ∧ w' = w := by
  have key : ∀ r : Bool, (isAl b || b == 95) = r → (Calls Tryd.prog 27 #[.int .u8 b] w fun e w' => e = .returned (.bool r) ∧ w' = w) → Calls Tryd.prog 27 #[.int .u8 b] w fun e w' => e = .returned (.bool (isAl b || b == 95)) ∧ w' = w := by
    intro r hr h; rw [hr]; exact h
  by_cases h0 : b = 95
  · subst h0
    refine key true rfl ?_
    go_enter Tryd.func27, Tryd.ntmps27
    go_wp2
    go_ret
    first | exact ⟨rfl, rfl⟩ | (refine ⟨?_, rfl⟩; simp; omega)
  · have hb : ((b : Int) == 95) = false := by simp; omega
    by_cases h1 : 97 ≤ b
    · by_cases h2 : b ≤ 122
      · refine key true (by unfold isAl; simp; omega) ?_
        go_enter Tryd.func27, Tryd.ntmps27
        go_wp2
        go_ret
        first | exact ⟨rfl, rfl⟩ | (refine ⟨?_, rfl⟩; simp; omega)
      · have h3 : 65 ≤ b := by omega
        have h4 : ¬ b ≤ 90 := by omega
        refine key false (by unfold isAl; simp; omega) ?_
        go_enter Tryd.func27, Tryd.ntmps27
        go_wp2
        go_ret
        first | exact ⟨rfl, rfl⟩ | (refine ⟨?_, rfl⟩; simp; omega)
    · by_cases h3 : 65 ≤ b
      · by_cases h4 : b ≤ 90
        · refine key true (by unfold isAl; simp; omega) ?_
          go_enter Tryd.func27, Tryd.ntmps27
          go_wp2
          go_ret
          first | exact ⟨rfl, rfl⟩ | (refine ⟨?_, rfl⟩; simp; omega)
        · refine key false (by unfold isAl; simp; omega) ?_
          go_enter Tryd.func27, Tryd.ntmps27
          go_wp2
          go_ret
          first | exact ⟨rfl, rfl⟩ | (refine ⟨?_, rfl⟩; simp; omega)
      · refine key false (by unfold isAl; simp; omega) ?_
        go_enter Tryd.func27, Tryd.ntmps27
        go_wp2
        go_ret
        first | exact ⟨rfl, rfl⟩ | (refine ⟨?_, rfl⟩; simp; omega)
/-- The byte of a text at a place. -/
def bAt (s : ByteArray) (i : Nat) : Nat := (s.data.toList[i]?.getD 0).toNat
def isLt (c : Nat) : Bool := isAl c || c == 95

theorem bAt_eq (s : ByteArray) (i : Nat) (h : i < s.size) : s[i].toNat = bAt s i := by
  unfold bAt
  rw [List.getElem?_eq_getElem (by simpa using h)]
  rfl

theorem letter_lt (b : Nat) (w : World) : Calls Tryd.prog 27 #[.int .u8 b] w fun e w' => e = .returned (.bool (isLt b)) ∧ w' = w := letter_any b w

/-- A name: letters, and behind the first figures too. -/
structure NameP (s : ByteArray) : Prop where
  pos : 0 < s.size
  all : ∀ i, i < s.size → isLt (bAt s i) = true ∨ (0 < i ∧ isDg (bAt s i) = true)

set_option maxHeartbeats 4000000 in
set_option maxRecDepth 100000 in
theorem name_any (s : ByteArray) (w : World) (hs : s.size ≤ 9223372036854775807) : Calls Tryd.prog 17 #[.string s] w fun e w' => ∃ b : Bool, e = .returned (.bool b) ∧ w' = w ∧ (b = true → NameP s) := by
  have HS := Lib.hid hs
  clear hs
  go_enter Tryd.func17, Tryd.ntmps17
  go_wp2_with fail
  go_loopg [6] s.size (fun g c wr => ∃ i : Nat, i ≤ s.size ∧ c = .int .i64 i ∧ g = s.size - i ∧ wr = w ∧ ∀ j, j < i → isLt (bAt s j) = true ∨ (0 < j ∧ isDg (bAt s j) = true))
  case atStart => exact ⟨0, Nat.zero_le _, rfl, rfl, rfl, fun j hj => by omega⟩
  case round =>
    obtain ⟨i, hi, rfl, hg, rfl, hall⟩ := hrel
    have HG := Lib.hid hg
    have HA := Lib.hid hall
    clear hg hall
    by_cases hk : i < s.size
    · have hb := bAt_eq s i hk
      have HB := Lib.hid hb
      have hw : IntKind.i64.wrap ((i : Int) + 1) = (i : Int) + 1 := IntWalk.i64_in _ (by have := HS.out; omega)
      clear hb
      cases hL : isLt s[i].toNat with
      | true =>
        go_wp2_with fail
        refine (letter_lt _ _).mono ?_
        rintro e w' ⟨rfl, rfl⟩
        go_wp2
        go_roundg (s.size - (i + 1))
        case measure => have := HG.out; omega
        case rel => exact ⟨i + 1, hk, rfl, rfl, rfl, fun j hj => by
          rcases Nat.lt_succ_iff_lt_or_eq.1 hj with h | rfl
          · exact HA.out j h
          · exact Or.inl (by rw [← HB.out]; exact hL)⟩
      | false =>
        by_cases h0 : i = 0
        · subst h0
          go_wp2_with fail
          refine (letter_lt _ _).mono ?_
          rintro e w' ⟨rfl, rfl⟩
          go_wp2
          go_ret
          exact ⟨false, rfl, rfl, by simp⟩
        · have hz : ((i : Int) == 0) = false := by simp; omega
          cases hD : isDg s[i].toNat with
          | true =>
            go_wp2_with fail
            refine (letter_lt _ _).mono ?_
            rintro e w' ⟨rfl, rfl⟩
            go_wp2_with fail
            refine (figure_any _ _).mono ?_
            rintro e w' ⟨rfl, rfl⟩
            go_wp2
            go_roundg (s.size - (i + 1))
            case measure => have := HG.out; omega
            case rel => exact ⟨i + 1, hk, rfl, rfl, rfl, fun j hj => by
              rcases Nat.lt_succ_iff_lt_or_eq.1 hj with h | rfl
              · exact HA.out j h
              · exact Or.inr ⟨by omega, by rw [← HB.out]; exact hD⟩⟩
          | false =>
            go_wp2_with fail
            refine (letter_lt _ _).mono ?_
            rintro e w' ⟨rfl, rfl⟩
            go_wp2_with fail
            refine (figure_any _ _).mono ?_
            rintro e w' ⟨rfl, rfl⟩
            go_wp2
            go_ret
            exact ⟨false, rfl, rfl, by simp⟩
    · have hk' : i = s.size := by omega
      go_wp2
      go_ret
      refine ⟨_, rfl, rfl, fun h => ⟨?_, fun j hj => HA.out j (by omega)⟩⟩
      rcases Nat.eq_zero_or_pos s.size with h0 | h0
      · exfalso
        obtain ⟨d⟩ := s
        have : d.size = 0 := h0
        have : d = #[] := Array.eq_empty_of_size_eq_zero this
        subst this
        simp at h
      · exact h0
end Go.Proofs.YtfooeinfgmfhpaaDoor
