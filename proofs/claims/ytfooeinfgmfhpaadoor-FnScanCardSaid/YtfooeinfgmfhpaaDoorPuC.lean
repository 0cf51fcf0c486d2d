/- The longest signs, cut one behind the other: what the scanner takes of signs that stand together. -/
import Derived.Test.YtfooeinfgmfhpaaDoorPuA
namespace Go.Proofs.YtfooeinfgmfhpaaDoor

/-- The byte is a sign by itself. -/
def isS1 (c : Nat) : Bool := [91, 93, 40, 41, 123, 125, 46, 38, 42, 43, 45, 126, 33, 47, 37, 60, 62, 94, 124, 63, 58, 59, 61, 44, 35].contains c
/-- Two bytes that are one sign. -/
def isS2 (a b : Nat) : Bool :=
  [(45, 62), (43, 43), (45, 45), (60, 60), (62, 62), (60, 61), (62, 61), (61, 61), (33, 61), (38, 38), (124, 124), (42, 61), (47, 61), (37, 61), (43, 61), (45, 61), (38, 61), (94, 61), (124, 61), (35, 35)].contains (a, b)
/-- Three bytes that are one sign. -/
def isS3 (a b c : Nat) : Bool := [(46, 46, 46), (60, 60, 61), (62, 62, 61)].contains (a, b, c)

/-- The length of the longest sign at k. -/
def lenAt (f : Nat → Nat) (k : Nat) : Nat := if isS3 (f k) (f (k + 1)) (f (k + 2)) then 3 else if isS2 (f k) (f (k + 1)) then 2 else 1

theorem lenAt_pos (f : Nat → Nat) (k : Nat) : 0 < lenAt f k := by unfold lenAt; split <;> (try split) <;> omega

/-- The signs from k to N, cut. -/
inductive Cuts (f : Nat → Nat) (N : Nat) : Nat → List (Nat × Nat) → Prop
  | done : Cuts f N N []
  | more (k : Nat) (l : List (Nat × Nat)) : k < N → k + lenAt f k ≤ N → Cuts f N (k + lenAt f k) l → Cuts f N k ((k, lenAt f k) :: l)

/-- A text of signs, a line end behind it, in which no two bytes stand together that mean something else. -/
structure SignText (f : Nat → Nat) (N : Nat) : Prop where
  all : ∀ i, i < N → isS1 (f i) = true
  nl : f N = 10
  no : ∀ i, i + 1 < N → ¬ (f i = 47 ∧ f (i + 1) = 47) ∧ ¬ (f i = 47 ∧ f (i + 1) = 42) ∧ ¬ (f i = 46 ∧ f (i + 1) = 46)

theorem SignText.in2 {f : Nat → Nat} {N : Nat} (h : SignText f N) {k : Nat} (hk : k < N) (h2 : isS2 (f k) (f (k + 1)) = true) : k + 2 ≤ N := by
  rcases Nat.lt_or_ge (k + 1) N with h1 | h1
  · omega
  · have : k + 1 = N := by omega
    rw [this, h.nl] at h2
    simp [isS2] at h2

theorem SignText.in3 {f : Nat → Nat} {N : Nat} (h : SignText f N) {k : Nat} (hk : k < N) (h3 : isS3 (f k) (f (k + 1)) (f (k + 2)) = true) : k + 3 ≤ N := by
  have e : k + 1 ≠ N := by intro e; rw [e, h.nl] at h3; simp [isS3] at h3
  have e2 : k + 2 ≠ N := by intro e; rw [e, h.nl] at h3; simp [isS3] at h3
  omega

theorem SignText.fits {f : Nat → Nat} {N : Nat} (h : SignText f N) {k : Nat} (hk : k < N) : k + lenAt f k ≤ N := by
  unfold lenAt
  split
  · rename_i h3; exact h.in3 hk h3
  · split
    · rename_i h2; exact h.in2 hk h2
    · omega

theorem SignText.cuts {f : Nat → Nat} {N : Nat} (h : SignText f N) : ∀ m k, N - k = m → k ≤ N → ∃ l, Cuts f N k l := by
  intro m
  induction m using Nat.strongRecOn with
  | ind m ih =>
    intro k hm hk
    rcases Nat.lt_or_ge k N with hlt | hge
    · have hf := h.fits hlt
      have hp := lenAt_pos f k
      obtain ⟨l, hl⟩ := ih (N - (k + lenAt f k)) (by omega) (k + lenAt f k) rfl hf
      exact ⟨_, .more k l hlt hf hl⟩
    · have : k = N := by omega
      subst this
      exact ⟨[], .done⟩

theorem SignText.tok {f : Nat → Nat} {N : Nat} (h : SignText f N) {k : Nat} (hk : k < N) : Tok1 f k (lenAt f k) := by
  have ha := h.all k hk
  have hn : f (k + 1) = 10 ∨ (isS1 (f (k + 1)) = true ∧ ¬ (f k = 47 ∧ f (k + 1) = 47) ∧ ¬ (f k = 47 ∧ f (k + 1) = 42) ∧ ¬ (f k = 46 ∧ f (k + 1) = 46)) := by
    rcases Nat.lt_or_ge (k + 1) N with h1 | h1
    · exact Or.inr ⟨h.all _ h1, h.no k h1⟩
    · have : k + 1 = N := by omega
      left; rw [this]; exact h.nl
  have hd : isDg (f (k + 1)) = false := by
    rcases hn with hn | ⟨hn, _⟩
    · rw [hn]; rfl
    · unfold isDg
      simp [isS1] at hn
      rw [Bool.and_eq_false_iff]; simp; omega
  generalize h0 : f k = a at ha hn
  generalize h1 : f (k + 1) = b at hn hd
  generalize h2 : f (k + 2) = c
  simp [isS1] at ha
  unfold lenAt
  rw [h0, h1, h2]
  rcases ha with rfl | rfl | rfl | rfl | rfl | rfl | rfl | rfl | rfl | rfl | rfl | rfl | rfl | rfl | rfl | rfl | rfl | rfl | rfl | rfl | rfl | rfl | rfl | rfl | rfl
  · simp [isS3, isS2]; exact .one (by rw [h0]; decide)
  · simp [isS3, isS2]; exact .one (by rw [h0]; decide)
  · simp [isS3, isS2]; exact .one (by rw [h0]; decide)
  · simp [isS3, isS2]; exact .one (by rw [h0]; decide)
  · simp [isS3, isS2]; exact .one (by rw [h0]; decide)
  · simp [isS3, isS2]; exact .one (by rw [h0]; decide)
  · have hb : b ≠ 46 := by rcases hn with hn | hn <;> omega
    simp [isS3, isS2, hb]; exact .dot1 h0 (by rw [h1]; exact hb) (by rw [h1]; exact hd)
  · by_cases hb : b = 61
    · subst hb; simp [isS3, isS2]; exact .dbl2 (by rw [h0]; decide) (Or.inl h1)
    · by_cases hc : b = 38
      · subst hc; simp [isS3, isS2]; exact .dbl2 (by rw [h0]; decide) (Or.inr (by rw [h0, h1]))
      · simp [isS3, isS2, hb, hc]; exact .dbl1 (by rw [h0]; decide) (by rw [h1]; exact hb) (by rw [h0, h1]; exact hc)
  · by_cases hb : b = 61
    · subst hb; simp [isS3, isS2]; exact .eq2 (by rw [h0]; decide) h1
    · simp [isS3, isS2, hb]; exact .eq1 (by rw [h0]; decide) (by rw [h1]; exact hb)
  · by_cases hb : b = 61
    · subst hb; simp [isS3, isS2]; exact .dbl2 (by rw [h0]; decide) (Or.inl h1)
    · by_cases hc : b = 43
      · subst hc; simp [isS3, isS2]; exact .dbl2 (by rw [h0]; decide) (Or.inr (by rw [h0, h1]))
      · simp [isS3, isS2, hb, hc]; exact .dbl1 (by rw [h0]; decide) (by rw [h1]; exact hb) (by rw [h0, h1]; exact hc)
  · by_cases hb : b = 61
    · subst hb; simp [isS3, isS2]; exact .min2 h0 (Or.inl h1)
    · by_cases hc : b = 45
      · subst hc; simp [isS3, isS2]; exact .min2 h0 (Or.inr (Or.inl h1))
      · by_cases hd : b = 62
        · subst hd; simp [isS3, isS2]; exact .min2 h0 (Or.inr (Or.inr h1))
        · simp [isS3, isS2, hb, hc, hd]; exact .min1 h0 (by rw [h1]; exact hb) (by rw [h1]; exact hc) (by rw [h1]; exact hd)
  · simp [isS3, isS2]; exact .one (by rw [h0]; decide)
  · by_cases hb : b = 61
    · subst hb; simp [isS3, isS2]; exact .eq2 (by rw [h0]; decide) h1
    · simp [isS3, isS2, hb]; exact .eq1 (by rw [h0]; decide) (by rw [h1]; exact hb)
  · by_cases hb : b = 61
    · subst hb; simp [isS3, isS2]; exact .div2 h0 h1
    · simp [isS3, isS2, hb]
      refine .div1 h0 (by rw [h1]; exact hb) (by rw [h1]; rcases hn with hn | hn <;> omega) (by rw [h1]; rcases hn with hn | hn <;> omega)
  · by_cases hb : b = 61
    · subst hb; simp [isS3, isS2]; exact .eq2 (by rw [h0]; decide) h1
    · simp [isS3, isS2, hb]; exact .eq1 (by rw [h0]; decide) (by rw [h1]; exact hb)
  · by_cases hb : b = 61
    · subst hb; simp [isS3, isS2]; exact .ang2 (by rw [h0]; decide) h1
    · by_cases hc : b = 60
      · subst hc
        by_cases he : c = 61
        · subst he; simp [isS3]; exact .ang3 (by rw [h0]; decide) (by rw [h0, h1]) h2
        · simp [isS3, isS2, he]; exact .ang2b (by rw [h0]; decide) (by rw [h0, h1]) (by rw [h2]; exact he)
      · simp [isS3, isS2, hb, hc]; exact .ang1 (by rw [h0]; decide) (by rw [h1]; exact hb) (by rw [h0, h1]; exact hc)
  · by_cases hb : b = 61
    · subst hb; simp [isS3, isS2]; exact .ang2 (by rw [h0]; decide) h1
    · by_cases hc : b = 62
      · subst hc
        by_cases he : c = 61
        · subst he; simp [isS3]; exact .ang3 (by rw [h0]; decide) (by rw [h0, h1]) h2
        · simp [isS3, isS2, he]; exact .ang2b (by rw [h0]; decide) (by rw [h0, h1]) (by rw [h2]; exact he)
      · simp [isS3, isS2, hb, hc]; exact .ang1 (by rw [h0]; decide) (by rw [h1]; exact hb) (by rw [h0, h1]; exact hc)
  · by_cases hb : b = 61
    · subst hb; simp [isS3, isS2]; exact .eq2 (by rw [h0]; decide) h1
    · simp [isS3, isS2, hb]; exact .eq1 (by rw [h0]; decide) (by rw [h1]; exact hb)
  · by_cases hb : b = 61
    · subst hb; simp [isS3, isS2]; exact .dbl2 (by rw [h0]; decide) (Or.inl h1)
    · by_cases hc : b = 124
      · subst hc; simp [isS3, isS2]; exact .dbl2 (by rw [h0]; decide) (Or.inr (by rw [h0, h1]))
      · simp [isS3, isS2, hb, hc]; exact .dbl1 (by rw [h0]; decide) (by rw [h1]; exact hb) (by rw [h0, h1]; exact hc)
  · simp [isS3, isS2]; exact .one (by rw [h0]; decide)
  · simp [isS3, isS2]; exact .one (by rw [h0]; decide)
  · simp [isS3, isS2]; exact .one (by rw [h0]; decide)
  · by_cases hb : b = 61
    · subst hb; simp [isS3, isS2]; exact .eq2 (by rw [h0]; decide) h1
    · simp [isS3, isS2, hb]; exact .eq1 (by rw [h0]; decide) (by rw [h1]; exact hb)
  · simp [isS3, isS2]; exact .one (by rw [h0]; decide)
  · by_cases hb : b = 35
    · subst hb; simp [isS3, isS2]; exact .hash2 h0 h1
    · simp [isS3, isS2, hb]; exact .hash1 h0 (by rw [h1]; exact hb)

/-- What is scanned of a text of signs. -/
theorem SignText.scans {f : Nat → Nat} {N : Nat} (h : SignText f N) {k : Nat} {l : List (Nat × Nat)} (hc : Cuts f N k l) : ∀ b : Bool, (b = true → k < N → f k ≠ 35) → Scans f (N + 1) b k l := by
  induction hc with
  | done =>
    intro b _
    have := Scans.nl (f := f) (L := N + 1) b N 0 [] (fun i hi => by omega) h.nl (by omega) (by
      have := Scans.done (f := f) (L := N + 1) true
      simpa using this)
    exact this
  | more k l hk hf _ ih =>
    intro b hb
    have ha := h.all k hk
    have e := Scans.tok (f := f) (L := N + 1) b k 0 (lenAt f k) l (fun i hi => by omega) (by rw [Nat.add_zero]; intro e; rw [e] at ha; simp [isS1] at ha) (fun h1 h2 => absurd h2 (hb h1 hk)) (h.tok hk) (by omega) (ih false (fun h => by simp at h))
    exact e

theorem Cuts.le {f : Nat → Nat} {N k : Nat} {l : List (Nat × Nat)} (h : Cuts f N k l) : k ≤ N := by
  cases h with
  | done => exact Nat.le_refl _
  | more _ h _ _ => omega
end Go.Proofs.YtfooeinfgmfhpaaDoor
