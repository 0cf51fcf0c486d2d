/- The texts on the list of signs, byte by byte. -/
import Derived.Test.YtfooeinfgmfhpaaDoorLgA
import Derived.Test.YtfooeinfgmfhpaaDoorLwD
namespace Go.Proofs.YtfooeinfgmfhpaaDoor
open Go.RowKit

theorem ext_list (s : ByteArray) (a b : Nat) : (s.extract a b).data.toList = (s.data.toList.drop a).take (b - a) := by
  rw [ByteArray.data_extract, Array.toList_extract]

abbrev withNl (t : ByteArray) : Nat → Nat := fun i => (((t ++ (⟨#[10]⟩ : ByteArray)).data.toList[i]?).getD 0).toNat

theorem isSign_iff (x : ByteArray) : isSign x = true ↔ x ∈ signs := by
  unfold isSign onList
  rw [List.any_eq_true]
  constructor
  · rintro ⟨i, hi, h⟩
    have h : signs[i]?.getD ByteArray.empty = x := of_decide_eq_true h
    have hi : i < signs.length := List.mem_range.1 hi
    rw [List.getElem?_eq_getElem hi] at h
    rw [← h]
    exact List.getElem_mem hi
  · intro h
    obtain ⟨i, hi, e⟩ := List.getElem_of_mem h
    exact ⟨i, List.mem_range.2 hi, decide_eq_true (by show signs[i]?.getD ByteArray.empty = x; rw [List.getElem?_eq_getElem hi]; exact e)⟩

theorem mk2 {x : ByteArray} {a b : UInt8} (h : x.data.toList = [a, b]) : x = ⟨#[a, b]⟩ := WideShapes.bytes_inj h
theorem mk3 {x : ByteArray} {a b c : UInt8} (h : x.data.toList = [a, b, c]) : x = ⟨#[a, b, c]⟩ := WideShapes.bytes_inj h

theorem u8 {a : UInt8} {n : Nat} (h : a.toNat = n) (hn : n < 256) : a = UInt8.ofNat n := by
  apply UInt8.toNat_inj.1
  rw [h]; simp; omega

set_option maxRecDepth 4000 in
theorem isSign_2 (a b : UInt8) : isSign ⟨#[a, b]⟩ = isS2 a.toNat b.toNat := by
  rw [Bool.eq_iff_iff, isSign_iff]
  constructor
  · intro h
    simp [signs] at h
    rcases h with h | h | h | h | h | h | h | h | h | h | h | h | h | h | h | h | h | h | h | h <;> (obtain ⟨rfl, rfl⟩ := h; rfl)
  · intro h
    simp [isS2] at h
    rcases h with h | h | h | h | h | h | h | h | h | h | h | h | h | h | h | h | h | h | h | h <;>
      (obtain ⟨h1, h2⟩ := h; rw [u8 h1 (by decide), u8 h2 (by decide)]; simp [signs])

set_option maxRecDepth 4000 in
theorem isSign_3 (a b c : UInt8) : isSign ⟨#[a, b, c]⟩ = isS3 a.toNat b.toNat c.toNat := by
  rw [Bool.eq_iff_iff, isSign_iff]
  constructor
  · intro h
    simp [signs] at h
    rcases h with h | h | h <;> (obtain ⟨rfl, rfl, rfl⟩ := h; rfl)
  · intro h
    simp [isS3] at h
    rcases h with h | h | h <;> (obtain ⟨h1, h2, h3⟩ := h; rw [u8 h1 (by decide), u8 h2 (by decide), u8 h3 (by decide)]; simp [signs])
theorem Cuts.count {f : Nat → Nat} {N k : Nat} {l : List (Nat × Nat)} (h : Cuts f N k l) : l.length + k ≤ N := by
  induction h with
  | done => simp
  | more k l _ _ _ ih => have := lenAt_pos f k; simp only [List.length_cons]; omega

theorem at_drop {t u : ByteArray} {k : Nat} (hu : u.data.toList = t.data.toList.drop k) (i : Nat) (h : k + i < t.size) : u.data.toList[i]? = t.data.toList[k + i]? ∧ (t.data.toList[k + i]?.getD 0).toNat = withNl t (k + i) := by
  constructor
  · rw [hu, List.getElem?_drop]
  · exact (nl_in t (k + i) h).symm

theorem take2 {L : List UInt8} (h : 2 ≤ L.length) : L.take 2 = [L[0]?.getD 0, L[1]?.getD 0] := by
  match L, h with
  | a :: b :: r, _ => rfl
theorem take3 {L : List UInt8} (h : 3 ≤ L.length) : L.take 3 = [L[0]?.getD 0, L[1]?.getD 0, L[2]?.getD 0] := by
  match L, h with
  | a :: b :: c :: r, _ => rfl

theorem sign_at2 {t u : ByteArray} {k : Nat} (hu : u.data.toList = t.data.toList.drop k) (h : k + 2 ≤ t.size) : isSign (u.extract 0 2) = isS2 (withNl t k) (withNl t (k + 1)) := by
  have hl : u.data.toList.length = t.size - k := by rw [hu, List.length_drop, len_toList]
  have e := ext_list u 0 2
  rw [List.drop_zero, take2 (by omega)] at e
  rw [mk2 e, isSign_2]
  have h0 := at_drop hu 0 (by omega)
  have h1 := at_drop hu 1 (by omega)
  rw [h0.1, h1.1, h0.2, h1.2]; rfl

theorem sign_at3 {t u : ByteArray} {k : Nat} (hu : u.data.toList = t.data.toList.drop k) (h : k + 3 ≤ t.size) : isSign (u.extract 0 3) = isS3 (withNl t k) (withNl t (k + 1)) (withNl t (k + 2)) := by
  have hl : u.data.toList.length = t.size - k := by rw [hu, List.length_drop, len_toList]
  have e := ext_list u 0 3
  rw [List.drop_zero, take3 (by omega)] at e
  rw [mk3 e, isSign_3]
  have h0 := at_drop hu 0 (by omega)
  have h1 := at_drop hu 1 (by omega)
  have h2 := at_drop hu 2 (by omega)
  rw [h0.1, h1.1, h2.1, h0.2, h1.2, h2.2]; rfl

/-- What Longest's inner loop comes to is the longest sign's length. -/
theorem lon_len {t u : ByteArray} {k n : Nat} (hS : SignText (withNl t) t.size) (hk : k < t.size) (hu : u.data.toList = t.data.toList.drop k) (h1 : 1 ≤ n) (h3 : n ≤ 3) (hn : k + n ≤ t.size)
    (hs : n = 1 ∨ isSign (u.extract 0 n) = true) (hno : ∀ m, n < m → m ≤ 3 → k + m ≤ t.size → isSign (u.extract 0 m) = false) : n = lenAt (withNl t) k := by
  unfold lenAt
  split
  · rename_i e3
    have hf := hS.in3 hk e3
    rcases Nat.lt_or_ge n 3 with h | h
    · have := hno 3 h (by omega) hf
      rw [sign_at3 hu hf, e3] at this; simp at this
    · omega
  · rename_i e3
    have h2 : n ≠ 3 := by
      rintro rfl
      rcases hs with hs | hs
      · omega
      · rw [sign_at3 hu hn] at hs; exact e3 hs
    split
    · rename_i e2
      have hf := hS.in2 hk e2
      rcases Nat.lt_or_ge n 2 with h | h
      · have := hno 2 h (by omega) hf
        rw [sign_at2 hu hf, e2] at this; simp at this
      · omega
    · rename_i e2
      rcases hs with hs | hs
      · exact hs
      · rcases Nat.lt_or_ge n 2 with h | h
        · omega
        · have : n = 2 := by omega
          subst this
          rw [sign_at2 hu hn] at hs; exact absurd hs e2
end Go.Proofs.YtfooeinfgmfhpaaDoor
