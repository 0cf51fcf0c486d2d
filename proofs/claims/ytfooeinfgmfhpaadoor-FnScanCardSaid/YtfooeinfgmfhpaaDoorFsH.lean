/- glue. -/
import Derived.Test.YtfooeinfgmfhpaaDoorFsG
namespace Go.Proofs.YtfooeinfgmfhpaaDoor
open Go.RowKit

/-- A sign that never joins with what stands beside it. -/
def Simple (s : ByteArray) : Prop := s = ⟨#[40]⟩ ∨ s = ⟨#[41]⟩ ∨ s = ⟨#[44]⟩ ∨ s = ⟨#[59]⟩ ∨ s = ⟨#[91]⟩ ∨ s = ⟨#[93]⟩
def simpleB (s : ByteArray) : Bool := s.toList == [40] || s.toList == [41] || s.toList == [44] || s.toList == [59] || s.toList == [91] || s.toList == [93]
def glueB (s t : ByteArray) : Bool := !simpleB s && !simpleB t

theorem lit1 {s : ByteArray} {k : UInt8} (h : s.toList = [k]) : s = ⟨#[k]⟩ := WideShapes.bytes_inj (by rw [← ByteArray.toList_eq]; exact h)

theorem simpleB_of {s : ByteArray} (h : simpleB s = true) : Simple s := by
  simp [simpleB] at h
  unfold Simple
  rcases h with ((((h | h) | h) | h) | h) | h <;> simp [lit1 h]

set_option maxHeartbeats 4000000 in
set_option maxRecDepth 100000 in
theorem simple_any (s : ByteArray) (w : World) : Calls Tryd.prog 48 #[.string s] w fun e w' => e = .returned (.bool (simpleB s)) ∧ w' = w := by
  have key : ∀ r : Bool, simpleB s = r → (Calls Tryd.prog 48 #[.string s] w fun e w' => e = .returned (.bool r) ∧ w' = w) → Calls Tryd.prog 48 #[.string s] w fun e w' => e = .returned (.bool (simpleB s)) ∧ w' = w := by
    intro r hr h; rw [hr]; exact h
  cases hb : simpleB s with
  | true =>
    simp only [simpleB, Bool.or_eq_true, beq_iff_eq] at hb
    clear key
    rcases hb with ((((h | h) | h) | h) | h) | h <;> (have := lit1 h; subst this; clear h; go_enter Tryd.func48, Tryd.ntmps48; go_wp2; go_ret; exact ⟨rfl, rfl⟩)
  | false =>
    simp only [simpleB, Bool.or_eq_false_iff, beq_eq_false_iff_ne] at hb
    obtain ⟨⟨⟨⟨⟨e1, e2⟩, e3⟩, e4⟩, e5⟩, e6⟩ := hb
    have f6 : (s.toList == [93]) = false := by rw [beq_eq_false_iff_ne]; exact e6
    clear key
    go_enter Tryd.func48, Tryd.ntmps48
    go_wp2
    go_ret
    first | exact ⟨rfl, rfl⟩ | (refine ⟨?_, rfl⟩; simp [e1, e2, e3, e4, e5])

theorem glueB_false {s t : ByteArray} (h : glueB s t = false) : Simple s ∨ Simple t := by
  simp [glueB] at h
  cases hs : simpleB s with
  | true => exact Or.inl (simpleB_of hs)
  | false => exact Or.inr (simpleB_of (h hs))

set_option maxHeartbeats 4000000 in
set_option maxRecDepth 100000 in
theorem glue_any (s t : ByteArray) (w : World) : Calls Tryd.prog 41 #[.string s, .string t] w fun e w' => e = .returned (.bool (glueB s t)) ∧ w' = w := by
  unfold glueB
  cases h1 : simpleB s with
  | true =>
    go_enter Tryd.func41, Tryd.ntmps41
    go_wp2_with fail
    refine (simple_any s _).mono ?_
    rintro e w' ⟨rfl, rfl⟩
    rw [h1]
    go_wp2
    go_ret
    exact ⟨rfl, rfl⟩
  | false =>
    cases h2 : simpleB t with
    | true =>
      go_enter Tryd.func41, Tryd.ntmps41
      go_wp2_with fail
      refine (simple_any s _).mono ?_
      rintro e w' ⟨rfl, rfl⟩
      rw [h1]
      go_wp2_with fail
      refine (simple_any t _).mono ?_
      rintro e w' ⟨rfl, rfl⟩
      rw [h2]
      go_wp2
      go_ret
      exact ⟨rfl, rfl⟩
    | false =>
      go_enter Tryd.func41, Tryd.ntmps41
      go_wp2_with fail
      refine (simple_any s _).mono ?_
      rintro e w' ⟨rfl, rfl⟩
      rw [h1]
      go_wp2_with fail
      refine (simple_any t _).mono ?_
      rintro e w' ⟨rfl, rfl⟩
      rw [h2]
      go_wp2
      go_ret
      exact ⟨rfl, rfl⟩
end Go.Proofs.YtfooeinfgmfhpaaDoor
