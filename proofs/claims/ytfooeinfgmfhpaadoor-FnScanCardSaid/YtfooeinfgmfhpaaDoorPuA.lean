/- What a token of the scanner is, over a text told place by place: plain Lean, no program. -/
namespace Go.Proofs.YtfooeinfgmfhpaaDoor

/-- An ASCII letter. -/
def isAl (c : Nat) : Bool := (65 ≤ c && c ≤ 90) || (97 ≤ c && c ≤ 122)
/-- An ASCII figure. -/
def isDg (c : Nat) : Bool := 48 ≤ c && c ≤ 57
def isId (c : Nat) : Bool := isAl c || c == 95 || isDg c
def isNumC (c : Nat) : Bool := isAl c || isDg c || c == 95 || c == 46
def isExp (c : Nat) : Bool := c == 101 || c == 69 || c == 112 || c == 80
def isSg (c : Nat) : Bool := c == 43 || c == 45

/-- From k on a number of the preprocessor goes to N. -/
inductive NumRun (f : Nat → Nat) : Nat → Nat → Prop
  | stop (k : Nat) : isNumC (f k) = false → NumRun f k k
  | step (k N : Nat) : isNumC (f k) = true → isExp (f k) = false → NumRun f (k + 1) N → NumRun f k N
  | exp (k N : Nat) : isExp (f k) = true → isSg (f (k + 1)) = false → NumRun f (k + 1) N → NumRun f k N
  | sgn (k N : Nat) : isExp (f k) = true → isSg (f (k + 1)) = true → NumRun f (k + 2) N → NumRun f k N

theorem NumRun.le {f : Nat → Nat} {k N : Nat} (h : NumRun f k N) : k ≤ N := by
  induction h <;> omega

/-- The token that begins at k has n signs. -/
inductive Tok1 (f : Nat → Nat) (k : Nat) : Nat → Prop
  | one : f k ∈ [40, 41, 44, 58, 59, 63, 91, 10, 93, 123, 125, 126] → Tok1 f k 1
  | eq1 : f k ∈ [42, 61, 94, 37, 33] → f (k + 1) ≠ 61 → Tok1 f k 1
  | eq2 : f k ∈ [42, 61, 94, 37, 33] → f (k + 1) = 61 → Tok1 f k 2
  | div1 : f k = 47 → f (k + 1) ≠ 61 → f (k + 1) ≠ 42 → f (k + 1) ≠ 47 → Tok1 f k 1
  | div2 : f k = 47 → f (k + 1) = 61 → Tok1 f k 2
  | dbl1 : f k ∈ [43, 38, 124] → f (k + 1) ≠ 61 → f (k + 1) ≠ f k → Tok1 f k 1
  | dbl2 : f k ∈ [43, 38, 124] → (f (k + 1) = 61 ∨ f (k + 1) = f k) → Tok1 f k 2
  | min1 : f k = 45 → f (k + 1) ≠ 61 → f (k + 1) ≠ 45 → f (k + 1) ≠ 62 → Tok1 f k 1
  | min2 : f k = 45 → (f (k + 1) = 61 ∨ f (k + 1) = 45 ∨ f (k + 1) = 62) → Tok1 f k 2
  | hash1 : f k = 35 → f (k + 1) ≠ 35 → Tok1 f k 1
  | hash2 : f k = 35 → f (k + 1) = 35 → Tok1 f k 2
  | ang1 : f k ∈ [60, 62] → f (k + 1) ≠ 61 → f (k + 1) ≠ f k → Tok1 f k 1
  | ang2 : f k ∈ [60, 62] → f (k + 1) = 61 → Tok1 f k 2
  | ang2b : f k ∈ [60, 62] → f (k + 1) = f k → f (k + 2) ≠ 61 → Tok1 f k 2
  | ang3 : f k ∈ [60, 62] → f (k + 1) = f k → f (k + 2) = 61 → Tok1 f k 3
  | dot1 : f k = 46 → f (k + 1) ≠ 46 → isDg (f (k + 1)) = false → Tok1 f k 1
  | dot3 : f k = 46 → f (k + 1) = 46 → f (k + 2) = 46 → Tok1 f k 3
  | dotNum (n : Nat) : f k = 46 → isDg (f (k + 1)) = true → NumRun f (k + 2) (k + n) → Tok1 f k n
  | num (n : Nat) : isDg (f k) = true → NumRun f (k + 1) (k + n) → Tok1 f k n
  | str (n : Nat) : f k = 34 → 2 ≤ n → (∀ j, k < j → j + 1 < k + n → f j ≠ 34 ∧ f j ≠ 10) → f (k + n - 1) = 34 → Tok1 f k n
  | chr (n : Nat) : f k = 39 → 2 ≤ n → (∀ j, k < j → j + 1 < k + n → f j ≠ 39 ∧ f j ≠ 10) → f (k + n - 1) = 39 → Tok1 f k n
  | ident (n : Nat) : (isAl (f k) = true ∨ f k = 95) → (f k = 76 → f (k + 1) ≠ 39 ∧ f (k + 1) ≠ 34) → (f k = 117 → f (k + 1) ≠ 56 ∨ f (k + 2) ≠ 34) → 0 < n →
      (∀ j, k < j → j < k + n → isId (f j) = true) → isId (f (k + n)) = false → f (k + n) ≠ 36 → Tok1 f k n

theorem Tok1.pos {f : Nat → Nat} {k n : Nat} (h : Tok1 f k n) : 0 < n := by
  cases h with
  | dotNum _ _ _ h => have := h.le; omega
  | num _ _ h => have := h.le; omega
  | ident _ _ _ _ h => exact h
  | _ => omega

/-- What is scanned from k on, where at the begin of a line (b) no '#' stands: the places and lengths of the tokens, line ends left out. -/
inductive Scans (f : Nat → Nat) (L : Nat) : Bool → Nat → List (Nat × Nat) → Prop
  | done (b : Bool) : Scans f L b L []
  | nl (b : Bool) (k j : Nat) (l : List (Nat × Nat)) : (∀ i, i < j → f (k + i) = 32) → f (k + j) = 10 → k + j < L → Scans f L true (k + j + 1) l → Scans f L b k l
  | tok (b : Bool) (k j n : Nat) (l : List (Nat × Nat)) : (∀ i, i < j → f (k + i) = 32) → f (k + j) ≠ 10 → (b = true → f (k + j) = 35 → f (k + j + 1) = 35) → Tok1 f (k + j) n → k + j + n < L →
      Scans f L false (k + j + n) l → Scans f L b k ((k + j, n) :: l)

end Go.Proofs.YtfooeinfgmfhpaaDoor
