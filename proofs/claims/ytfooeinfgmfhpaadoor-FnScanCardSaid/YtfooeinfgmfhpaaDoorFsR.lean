/- The source of lines may be scanned, and is scanned to their texts. -/
import Derived.Test.YtfooeinfgmfhpaaDoorFsQ
namespace Go.Proofs.YtfooeinfgmfhpaaDoor
open Go.RowKit

def Okb (c : Nat) : Prop := c < 128 ∧ c ≠ 92
theorem okb_append {a b : ByteArray} (ha : ∀ i, i < a.size → Okb (bAt a i)) (hb : ∀ i, i < b.size → Okb (bAt b i)) : ∀ i, i < (a ++ b).size → Okb (bAt (a ++ b) i) := by
  intro i hi
  rw [ByteArray.size_append] at hi
  rw [bAt_append]
  split
  · rename_i h; exact ha i h
  · exact hb _ (by omega)

theorem okb_lit {c : UInt8} (h : Okb c.toNat) : ∀ i, i < (⟨#[c]⟩ : ByteArray).size → Okb (bAt ⟨#[c]⟩ i) := by
  intro i hi
  have : i = 0 := by have : (⟨#[c]⟩ : ByteArray).size = 1 := rfl; omega
  subst this; exact h

theorem okb_line (x : Ln) (hP : ToksP x.n x.T) : ∀ j, j ≤ x.n → ∀ i, i < (lS x j).size → Okb (bAt (lS x j) i) := by
  intro j
  induction j with
  | zero => intro _ i hi; exact absurd hi (Nat.not_lt_zero i)
  | succ j ih =>
    intro hj
    have ht : ∀ i, i < (x.T j).size → Okb (bAt (x.T j) i) := fun i hi => by
      have := one_bytes (hP.2 j (by omega)).1 i hi
      exact ⟨this.2.2, this.2.1⟩
    show ∀ i, i < ((if 0 < j ∧ cC x j = true then lS x j ++ ⟨#[32]⟩ else lS x j) ++ x.T j).size → Okb (bAt ((if 0 < j ∧ cC x j = true then lS x j ++ ⟨#[32]⟩ else lS x j) ++ x.T j) i)
    refine okb_append ?_ ht
    split
    · exact okb_append (ih (by omega)) (okb_lit (by unfold Okb; decide))
    · exact ih (by omega)

theorem okb_src {X : Nat → Ln} {n : Nat} (hP : LinesP n X) : ∀ k, k ≤ n → ∀ i, i < (srcS X k).size → Okb (bAt (srcS X k) i) := by
  intro k
  induction k with
  | zero => intro _ i hi; exact absurd hi (Nat.not_lt_zero i)
  | succ k ih =>
    intro hk
    rw [show srcS X (k + 1) = srcS X k ++ (lnS (X k) ++ ⟨#[10]⟩) from rfl]
    have h1 := ih (by omega)
    have h2 : ∀ i, i < (lnS (X k)).size → Okb (bAt (lnS (X k)) i) := okb_line (X k) (hP.2 k (by omega)).1 (X k).n (Nat.le_refl _)
    have h3 : ∀ i, i < (⟨#[10]⟩ : ByteArray).size → Okb (bAt ⟨#[10]⟩ i) := okb_lit (c := 10) (by unfold Okb; decide)
    generalize srcS X k = a at *
    generalize lnS (X k) = b at *
    exact okb_append h1 (okb_append h2 h3)

theorem textOk_of {S : ByteArray} (h1 : S.size ≤ 1000000) (h2 : ∀ i, i < S.size → Okb (bAt S i)) (h3 : S.size = 0 ∨ bAt S (S.size - 1) = 10) : TextOk S :=
  ⟨h1, fun i hi => (h2 i hi).1, fun i hi => (h2 i hi).2, h3⟩

theorem scansTo_of {S : ByteArray} {ts : List ByteArray} (h : TextOk S) (k : ∃ l, Scans (fun i => bAt S i) S.size true 0 l ∧ l.map (fun y => cutB S.data.toList y.1 y.2) = ts) : ScansTo S ts := ⟨h, k⟩

theorem src_last {X : Nat → Ln} {n : Nat} : (srcS X n).size = 0 ∨ bAt (srcS X n) ((srcS X n).size - 1) = 10 := by
  rcases Nat.eq_zero_or_pos n with rfl | h
  · exact Or.inl rfl
  · right
    obtain ⟨m, rfl⟩ : ∃ m, n = m + 1 := ⟨n - 1, by omega⟩
    have hsz : (srcS X (m + 1)).size = (srcS X m).size + ((lnS (X m)).size + 1) := by
      show (srcS X m ++ (lnS (X m) ++ ⟨#[10]⟩)).size = _
      rw [ByteArray.size_append, ByteArray.size_append]; rfl
    have := src_line (X := X) (n := m + 1) (i := m) (by omega) (t := (lnS (X m)).size) (Nat.le_refl _)
    rw [if_neg (by omega)] at this
    rw [hsz, show (srcS X m).size + ((lnS (X m)).size + 1) - 1 = (srcS X m).size + (lnS (X m)).size by omega]
    exact this

theorem scans_to (n : Nat) (X : Nat → Ln) (hP : LinesP n X) : ScansTo (srcS X n) (allT X n) := by
  have h1 := srcS_size hP n (Nat.le_refl _)
  have h2 := hP.1
  obtain ⟨l, hs, he⟩ := claim_src hP n 0 (by omega)
  have he' : l.map (fun y => cutB (srcS X n).data.toList y.1 y.2) = allT X n := by
    have e : allT X 0 = [] := rfl
    rw [e, List.nil_append] at he
    exact he
  have hs' : Scans (fun i => bAt (srcS X n) i) (srcS X n).size true 0 l := by
    have e : (srcS X 0).size = 0 := rfl
    rw [e] at hs
    exact hs
  exact scansTo_of (textOk_of (by omega) (okb_src hP n (Nat.le_refl _)) src_last) ⟨l, hs', he'⟩
end Go.Proofs.YtfooeinfgmfhpaaDoor
