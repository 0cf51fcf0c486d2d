/- A sign where a blank, a line end or a sign that joins with nothing stands behind it. -/
import Derived.Test.YtfooeinfgmfhpaaDoorFsN
namespace Go.Proofs.YtfooeinfgmfhpaaDoor
open Go.RowKit

theorem Sep.ne {c : Nat} (h : Sep c) : c ≠ 61 ∧ c ≠ 42 ∧ c ≠ 47 ∧ c ≠ 43 ∧ c ≠ 38 ∧ c ≠ 124 ∧ c ≠ 45 ∧ c ≠ 62 ∧ c ≠ 60 ∧ c ≠ 35 ∧ c ≠ 46 ∧ isDg c = false := by
  rcases h with rfl | rfl | rfl | rfl | rfl | rfl | rfl | rfl <;> decide

set_option maxRecDepth 4000 in
theorem tok_sign {f : Nat → Nat} {s : ByteArray} {k : Nat} (h : isSign s = true) (hf : ∀ i, i < s.size → f (k + i) = bAt s i) (hs : Sep (f (k + s.size))) : Tok1 f k s.size := by
  have hm := (isSign_iff s).1 h
  clear h
  simp only [signs, List.mem_cons, List.mem_nil_iff, or_false] at hm
  obtain ⟨n61, n42, n47, n43, n38, n124, n45, n62, n60, n35, n46, ndg⟩ := hs.ne
  rcases hm with rfl | rfl | rfl | rfl | rfl | rfl | rfl | rfl | rfl | rfl | rfl | rfl | rfl | rfl | rfl | rfl | rfl | rfl | rfl | rfl | rfl | rfl | rfl | rfl | rfl | rfl | rfl | rfl | rfl | rfl | rfl | rfl | rfl | rfl | rfl | rfl | rfl | rfl | rfl | rfl | rfl | rfl | rfl | rfl | rfl | rfl | rfl | rfl
  · have h0 : f k = 46 := hf 0 (by decide)
    have h1 : f (k + 1) = 46 := hf 1 (by decide)
    have h2 : f (k + 2) = 46 := hf 2 (by decide)
    exact .dot3 h0 h1 h2
  · have h0 : f k = 60 := hf 0 (by decide)
    have h1 : f (k + 1) = 60 := hf 1 (by decide)
    have h2 : f (k + 2) = 61 := hf 2 (by decide)
    exact .ang3 (by rw [h0]; decide) (by rw [h0, h1]) h2
  · have h0 : f k = 62 := hf 0 (by decide)
    have h1 : f (k + 1) = 62 := hf 1 (by decide)
    have h2 : f (k + 2) = 61 := hf 2 (by decide)
    exact .ang3 (by rw [h0]; decide) (by rw [h0, h1]) h2
  · have h0 : f k = 45 := hf 0 (by decide)
    have h1 : f (k + 1) = 62 := hf 1 (by decide)
    exact .min2 h0 (Or.inr (Or.inr h1))
  · have h0 : f k = 43 := hf 0 (by decide)
    have h1 : f (k + 1) = 43 := hf 1 (by decide)
    exact .dbl2 (by rw [h0]; decide) (Or.inr (by rw [h0, h1]))
  · have h0 : f k = 45 := hf 0 (by decide)
    have h1 : f (k + 1) = 45 := hf 1 (by decide)
    exact .min2 h0 (Or.inr (Or.inl h1))
  · have h0 : f k = 60 := hf 0 (by decide)
    have h1 : f (k + 1) = 60 := hf 1 (by decide)
    exact .ang2b (by rw [h0]; decide) (by rw [h0, h1]) n61
  · have h0 : f k = 62 := hf 0 (by decide)
    have h1 : f (k + 1) = 62 := hf 1 (by decide)
    exact .ang2b (by rw [h0]; decide) (by rw [h0, h1]) n61
  · have h0 : f k = 60 := hf 0 (by decide)
    have h1 : f (k + 1) = 61 := hf 1 (by decide)
    exact .ang2 (by rw [h0]; decide) h1
  · have h0 : f k = 62 := hf 0 (by decide)
    have h1 : f (k + 1) = 61 := hf 1 (by decide)
    exact .ang2 (by rw [h0]; decide) h1
  · have h0 : f k = 61 := hf 0 (by decide)
    have h1 : f (k + 1) = 61 := hf 1 (by decide)
    exact .eq2 (by rw [h0]; decide) h1
  · have h0 : f k = 33 := hf 0 (by decide)
    have h1 : f (k + 1) = 61 := hf 1 (by decide)
    exact .eq2 (by rw [h0]; decide) h1
  · have h0 : f k = 38 := hf 0 (by decide)
    have h1 : f (k + 1) = 38 := hf 1 (by decide)
    exact .dbl2 (by rw [h0]; decide) (Or.inr (by rw [h0, h1]))
  · have h0 : f k = 124 := hf 0 (by decide)
    have h1 : f (k + 1) = 124 := hf 1 (by decide)
    exact .dbl2 (by rw [h0]; decide) (Or.inr (by rw [h0, h1]))
  · have h0 : f k = 42 := hf 0 (by decide)
    have h1 : f (k + 1) = 61 := hf 1 (by decide)
    exact .eq2 (by rw [h0]; decide) h1
  · have h0 : f k = 47 := hf 0 (by decide)
    have h1 : f (k + 1) = 61 := hf 1 (by decide)
    exact .div2 h0 h1
  · have h0 : f k = 37 := hf 0 (by decide)
    have h1 : f (k + 1) = 61 := hf 1 (by decide)
    exact .eq2 (by rw [h0]; decide) h1
  · have h0 : f k = 43 := hf 0 (by decide)
    have h1 : f (k + 1) = 61 := hf 1 (by decide)
    exact .dbl2 (by rw [h0]; decide) (Or.inl h1)
  · have h0 : f k = 45 := hf 0 (by decide)
    have h1 : f (k + 1) = 61 := hf 1 (by decide)
    exact .min2 h0 (Or.inl h1)
  · have h0 : f k = 38 := hf 0 (by decide)
    have h1 : f (k + 1) = 61 := hf 1 (by decide)
    exact .dbl2 (by rw [h0]; decide) (Or.inl h1)
  · have h0 : f k = 94 := hf 0 (by decide)
    have h1 : f (k + 1) = 61 := hf 1 (by decide)
    exact .eq2 (by rw [h0]; decide) h1
  · have h0 : f k = 124 := hf 0 (by decide)
    have h1 : f (k + 1) = 61 := hf 1 (by decide)
    exact .dbl2 (by rw [h0]; decide) (Or.inl h1)
  · have h0 : f k = 35 := hf 0 (by decide)
    have h1 : f (k + 1) = 35 := hf 1 (by decide)
    exact .hash2 h0 h1
  · have h0 : f k = 91 := hf 0 (by decide)
    exact .one (by rw [h0]; decide)
  · have h0 : f k = 93 := hf 0 (by decide)
    exact .one (by rw [h0]; decide)
  · have h0 : f k = 40 := hf 0 (by decide)
    exact .one (by rw [h0]; decide)
  · have h0 : f k = 41 := hf 0 (by decide)
    exact .one (by rw [h0]; decide)
  · have h0 : f k = 123 := hf 0 (by decide)
    exact .one (by rw [h0]; decide)
  · have h0 : f k = 125 := hf 0 (by decide)
    exact .one (by rw [h0]; decide)
  · have h0 : f k = 46 := hf 0 (by decide)
    exact .dot1 h0 n46 ndg
  · have h0 : f k = 38 := hf 0 (by decide)
    exact .dbl1 (by rw [h0]; decide) n61 (by rw [h0]; exact n38)
  · have h0 : f k = 42 := hf 0 (by decide)
    exact .eq1 (by rw [h0]; decide) n61
  · have h0 : f k = 43 := hf 0 (by decide)
    exact .dbl1 (by rw [h0]; decide) n61 (by rw [h0]; exact n43)
  · have h0 : f k = 45 := hf 0 (by decide)
    exact .min1 h0 n61 n45 n62
  · have h0 : f k = 126 := hf 0 (by decide)
    exact .one (by rw [h0]; decide)
  · have h0 : f k = 33 := hf 0 (by decide)
    exact .eq1 (by rw [h0]; decide) n61
  · have h0 : f k = 47 := hf 0 (by decide)
    exact .div1 h0 n61 n42 n47
  · have h0 : f k = 37 := hf 0 (by decide)
    exact .eq1 (by rw [h0]; decide) n61
  · have h0 : f k = 60 := hf 0 (by decide)
    exact .ang1 (by rw [h0]; decide) n61 (by rw [h0]; exact n60)
  · have h0 : f k = 62 := hf 0 (by decide)
    exact .ang1 (by rw [h0]; decide) n61 (by rw [h0]; exact n62)
  · have h0 : f k = 94 := hf 0 (by decide)
    exact .eq1 (by rw [h0]; decide) n61
  · have h0 : f k = 124 := hf 0 (by decide)
    exact .dbl1 (by rw [h0]; decide) n61 (by rw [h0]; exact n124)
  · have h0 : f k = 63 := hf 0 (by decide)
    exact .one (by rw [h0]; decide)
  · have h0 : f k = 58 := hf 0 (by decide)
    exact .one (by rw [h0]; decide)
  · have h0 : f k = 59 := hf 0 (by decide)
    exact .one (by rw [h0]; decide)
  · have h0 : f k = 61 := hf 0 (by decide)
    exact .eq1 (by rw [h0]; decide) n61
  · have h0 : f k = 44 := hf 0 (by decide)
    exact .one (by rw [h0]; decide)
  · have h0 : f k = 35 := hf 0 (by decide)
    exact .hash1 h0 n35

/-- A simple sign is a token whatever stands behind it. -/
theorem tok_simple {f : Nat → Nat} {s : ByteArray} {k : Nat} (h : Simple s) (hf : ∀ i, i < s.size → f (k + i) = bAt s i) : Tok1 f k s.size := by
  rcases h with rfl | rfl | rfl | rfl | rfl | rfl <;> exact .one (by rw [show f k = _ from hf 0 (by decide)]; decide)

/-- A token where such a thing stands behind it, or which is simple itself. -/
theorem tok_one {f : Nat → Nat} {s : ByteArray} {k : Nat} (h : OneP s) (hf : ∀ i, i < s.size → f (k + i) = bAt s i) (hs : Sep (f (k + s.size)) ∨ Simple s) : Tok1 f k s.size := by
  rcases hs with hs | hs
  · rcases h with h | h | h | h
    · exact tok_name h hf hs
    · exact tok_number h hf hs
    · exact tok_quoted h hf
    · exact tok_sign h hf hs
  · exact tok_simple hs hf
end Go.Proofs.YtfooeinfgmfhpaaDoor
