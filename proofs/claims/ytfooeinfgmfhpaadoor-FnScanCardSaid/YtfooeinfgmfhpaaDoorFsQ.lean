/- The source of lines is scanned to their texts: put together. -/
import Derived.Test.YtfooeinfgmfhpaaDoorFsP
namespace Go.Proofs.YtfooeinfgmfhpaaDoor
open Go.RowKit

section
variable {X : Nat → Ln} {n : Nat}

abbrev cC (x : Ln) : Nat → Bool := clr x.T x.B
abbrev lS (x : Ln) (j : Nat) : ByteArray := lineS x.T (cC x) j
/-- How many blanks are ahead of token j. -/
def bl (x : Ln) (j : Nat) : Nat := if 0 < j ∧ cC x j = true then 1 else 0

theorem lS_succ_size (x : Ln) (j : Nat) : (lS x (j + 1)).size = (lS x j).size + bl x j + (x.T j).size := by
  show ((if 0 < j ∧ cC x j = true then lS x j ++ ⟨#[32]⟩ else lS x j) ++ x.T j).size = _
  unfold bl
  rw [ByteArray.size_append]
  split
  · rw [ByteArray.size_append]; rfl
  · rfl

/-- Token j's bytes, where they stand in its line; and the blank ahead. -/
theorem in_line (x : Ln) (j : Nat) (hj : j < x.n) : (∀ u, u < (x.T j).size → bAt (lnS x) ((lS x j).size + bl x j + u) = bAt (x.T j) u) ∧ (bl x j = 1 → bAt (lnS x) (lS x j).size = 32) ∧ (lS x (j + 1)).size ≤ (lnS x).size := by
  have h1 : Pre (lS x (j + 1)) (lnS x) := by
    have := pre_line x.T (cC x) (x.n - (j + 1)) (j + 1)
    rwa [show j + 1 + (x.n - (j + 1)) = x.n by omega] at this
  have hz := lS_succ_size x j
  have e : lS x (j + 1) = (if 0 < j ∧ cC x j = true then lS x j ++ ⟨#[32]⟩ else lS x j) ++ x.T j := rfl
  have hi : (if 0 < j ∧ cC x j = true then lS x j ++ ⟨#[32]⟩ else lS x j).size = (lS x j).size + bl x j := by
    unfold bl
    split
    · rw [ByteArray.size_append]; rfl
    · rfl
  refine ⟨fun u hu => ?_, fun hb => ?_, h1.size⟩
  · rw [h1.at (by omega), e, bAt_append, if_neg (by rw [hi]; omega), hi, show (lS x j).size + bl x j + u - ((lS x j).size + bl x j) = u by omega]
  · rw [h1.at (by omega), e, bAt_append, if_pos (by rw [hi]; omega)]
    have hc : 0 < j ∧ cC x j = true := by
      unfold bl at hb; split at hb
      · assumption
      · omega
    rw [if_pos hc, bAt_append, if_neg (by omega), Nat.sub_self]; rfl

/-- What stands behind token j in its line (a line end behind the last): a separator, or the token is simple. -/
theorem behind (x : Ln) (hP : ToksP x.n x.T) (j : Nat) (hj : j < x.n) : Sep (if (lS x (j + 1)).size < (lnS x).size then bAt (lnS x) (lS x (j + 1)).size else 10) ∨ Simple (x.T j) := by
  by_cases hl : j + 1 < x.n
  · obtain ⟨h1, h2, h3⟩ := in_line x (j + 1) hl
    have hz := lS_succ_size x (j + 1)
    have hp := one_pos (hP.2 (j + 1) hl).1
    rw [if_pos (by omega)]
    by_cases hb : bl x (j + 1) = 1
    · rw [h2 hb]; exact Or.inl (Or.inl rfl)
    · have hb0 : bl x (j + 1) = 0 := by unfold bl at hb ⊢; split <;> simp_all
      have hg : glueB (x.T j) (x.T (j + 1)) = false := by
        unfold bl at hb0
        have hc : ¬ (0 < j + 1 ∧ cC x (j + 1) = true) := by intro h; rw [if_pos h] at hb0; omega
        cases hgl : glueB (x.T j) (x.T (j + 1)) with
        | false => rfl
        | true =>
          exfalso
          apply hc
          refine ⟨by omega, ?_⟩
          show clr x.T x.B (j + 1) = true
          unfold clr
          rw [if_pos ⟨by omega, by rw [Nat.add_sub_cancel]; exact hgl⟩]
      rcases glueB_false hg with h | h
      · exact Or.inr h
      · left
        have := h1 0 (by omega)
        rw [hb0, Nat.add_zero, Nat.add_zero] at this
        rw [this]
        exact simple_sep h
  · have : lS x (j + 1) = lnS x := by
      have : j + 1 = x.n := by omega
      show lineS x.T (cC x) (j + 1) = lineS x.T (clr x.T x.B) x.n
      rw [this]
    rw [this, if_neg (by omega)]
    exact Or.inl (Or.inr (Or.inl rfl))

abbrev fX (X : Nat → Ln) (n : Nat) : Nat → Nat := fun i => bAt (srcS X n) i

theorem claim_line (hP : LinesP n X) (i : Nat) (hi : i < n)
    (hnext : ∃ l, Scans (fX X n) (srcS X n).size true (srcS X (i + 1)).size l ∧ allT X (i + 1) ++ l.map (fun y => cutB (srcS X n).data.toList y.1 y.2) = allT X n) :
    ∀ d j, j + d = (X i).n → ∃ l, Scans (fX X n) (srcS X n).size (decide (j = 0)) ((srcS X i).size + (lS (X i) j).size) l ∧ (allT X i ++ lnT (X i) j) ++ l.map (fun y => cutB (srcS X n).data.toList y.1 y.2) = allT X n := by
  have hsz : (srcS X (i + 1)).size = (srcS X i).size + ((lnS (X i)).size + 1) := by
    show (srcS X i ++ (lnS (X i) ++ ⟨#[10]⟩)).size = _
    rw [ByteArray.size_append, ByteArray.size_append]; rfl
  have hle : (srcS X (i + 1)).size ≤ (srcS X n).size := by
    have := (pre_src X (n - (i + 1)) (i + 1)).size
    rwa [show i + 1 + (n - (i + 1)) = n by omega] at this
  have hTP := (hP.2 i hi).1
  intro d
  induction d with
  | zero =>
    intro j hj
    have hjn : j = (X i).n := by omega
    obtain ⟨l, hs, he⟩ := hnext
    have hlS : lS (X i) j = lnS (X i) := by rw [hjn]; rfl
    refine ⟨l, Scans.nl _ _ 0 l (fun u hu => by omega) ?_ ?_ ?_, ?_⟩
    · rw [hlS]
      have := src_line (X := X) (n := n) hi (t := (lnS (X i)).size) (Nat.le_refl _)
      rw [if_neg (by omega)] at this
      exact this
    · rw [hlS]; omega
    · rw [hlS, show (srcS X i).size + (lnS (X i)).size + 0 + 1 = (srcS X (i + 1)).size by omega]; exact hs
    · rw [hjn]; exact he
  | succ d ih =>
    intro j hj
    obtain ⟨l, hs, he⟩ := ih (j + 1) (by omega)
    have hjn : j < (X i).n := by omega
    obtain ⟨h1, h2, h3⟩ := in_line (X i) j hjn
    have hz := lS_succ_size (X i) j
    have hOne := (hTP.2 j hjn).1
    have hpos := one_pos hOne
    have hf : ∀ u, u < ((X i).T j).size → fX X n ((srcS X i).size + (lS (X i) j).size + bl (X i) j + u) = bAt ((X i).T j) u := by
      intro u hu
      have := src_line (X := X) (n := n) hi (t := (lS (X i) j).size + bl (X i) j + u) (by omega)
      rw [if_pos (by omega), h1 u hu] at this
      rw [← this]
      show bAt _ _ = bAt _ _
      congr 1; omega
    have hbh := behind (X i) hTP j hjn
    have hsep : Sep (fX X n ((srcS X i).size + (lS (X i) j).size + bl (X i) j + ((X i).T j).size)) ∨ Simple ((X i).T j) := by
      rcases hbh with h | h
      · left
        have := src_line (X := X) (n := n) hi (t := (lS (X i) (j + 1)).size) h3
        rw [← this] at h
        rw [show (srcS X i).size + (lS (X i) j).size + bl (X i) j + ((X i).T j).size = (srcS X i).size + (lS (X i) (j + 1)).size by omega]
        exact h
      · exact Or.inr h
    have htok := tok_one hOne hf hsep
    have hb0 := hf 0 hpos
    rw [Nat.add_zero] at hb0
    have hbl : bl (X i) j ≤ 1 := by unfold bl; split <;> omega
    refine ⟨((srcS X i).size + (lS (X i) j).size + bl (X i) j, ((X i).T j).size) :: l, Scans.tok _ _ (bl (X i) j) _ l ?_ ?_ ?_ htok (by omega) ?_, ?_⟩
    · intro u hu
      have hu0 : u = 0 := by omega
      have hb1 : bl (X i) j = 1 := by omega
      have := src_line (X := X) (n := n) hi (t := (lS (X i) j).size) (by omega)
      rw [if_pos (by omega), h2 hb1] at this
      rw [hu0, Nat.add_zero]; exact this
    · rw [hb0]; exact (one_bytes hOne 0 hpos).1
    · intro hd h35
      have hj0 : j = 0 := of_decide_eq_true hd
      rw [hb0] at h35
      have hne : (X i).T j ≠ ⟨#[35]⟩ := by rw [hj0]; exact (hP.2 i hi).2 (by omega)
      obtain ⟨h4, h5⟩ := one_hash hOne h35 hne
      have := hf 1 (by omega)
      rw [h4] at this; exact this
    · have e : (decide (j + 1 = 0)) = false := by simp
      rw [e] at hs
      rw [show (srcS X i).size + (lS (X i) j).size + bl (X i) j + ((X i).T j).size = (srcS X i).size + (lS (X i) (j + 1)).size by omega]
      exact hs
    · rw [List.map_cons, ← he, lnT_succ]
      have hc : cutB (srcS X n).data.toList ((srcS X i).size + (lS (X i) j).size + bl (X i) j) ((X i).T j).size = (X i).T j := cut_eq (fun u hu => hf u hu) (by omega)
      show allT X i ++ lnT (X i) j ++ (cutB _ _ _ :: _) = _
      rw [hc]; simp

theorem claim_src (hP : LinesP n X) : ∀ d i, i + d = n → ∃ l, Scans (fX X n) (srcS X n).size true (srcS X i).size l ∧ allT X i ++ l.map (fun y => cutB (srcS X n).data.toList y.1 y.2) = allT X n := by
  intro d
  induction d with
  | zero =>
    intro i hi
    have : i = n := by omega
    subst this
    exact ⟨[], .done true, by simp⟩
  | succ d ih =>
    intro i hi
    obtain ⟨l, hs, he⟩ := claim_line hP i (by omega) (ih (i + 1) (by omega)) (X i).n 0 (by omega)
    refine ⟨l, ?_, ?_⟩
    · have e : (srcS X i).size + (lS (X i) 0).size = (srcS X i).size := by
        show (srcS X i).size + (⟨#[]⟩ : ByteArray).size = _
        rfl
      rw [e] at hs
      exact hs
    · have : lnT (X i) 0 = [] := rfl
      rw [this, List.append_nil] at he
      exact he
end
end Go.Proofs.YtfooeinfgmfhpaaDoor
