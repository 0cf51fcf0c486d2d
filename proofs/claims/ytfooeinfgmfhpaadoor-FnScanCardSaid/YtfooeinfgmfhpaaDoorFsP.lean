/- The source of lines is scanned to their texts. -/
import Derived.Test.YtfooeinfgmfhpaaDoorFsO
namespace Go.Proofs.YtfooeinfgmfhpaaDoor
open Go.RowKit

theorem one_pos {s : ByteArray} (h : OneP s) : 0 < s.size := by
  rcases h with h | ⟨i0, _, h, _⟩ | h | h
  · exact h.pos
  · omega
  · have := h.two; omega
  · have := (sign_bytes h).1; omega

theorem simple_sep {s : ByteArray} (h : Simple s) : Sep (bAt s 0) := by
  rcases h with rfl | rfl | rfl | rfl | rfl | rfl <;> (unfold Sep; decide)

/-- No byte of a token is a line end, a backslash or beyond ASCII. -/
theorem one_bytes {s : ByteArray} (h : OneP s) : ∀ i, i < s.size → bAt s i ≠ 10 ∧ bAt s i ≠ 92 ∧ bAt s i < 128 := by
  intro i hi
  rcases h with h | ⟨i0, h0, hlt, hd, hall⟩ | h | h
  · rcases h.all i hi with h1 | ⟨_, h1⟩
    · have := isLt_bounds h1; omega
    · have := isDg_bounds h1; omega
  · rcases Nat.lt_trichotomy i i0 with h1 | h1 | h1
    · rcases h0 with h0 | ⟨h0, h46⟩
      · omega
      · have : i = 0 := by omega
        subst this; omega
    · subst h1; have := isDg_bounds hd; omega
    · rcases hall i h1 hi with h2 | h2 | h2 | ⟨_, h2⟩
      · have := isLt_bounds h2; omega
      · have := isDg_bounds h2; omega
      · omega
      · have := isSg_bounds h2; omega
  · have h2 := h.two
    have hq := h.q
    rcases Nat.eq_zero_or_pos i with rfl | h0
    · omega
    · rcases Nat.lt_or_ge (i + 1) s.size with h1 | h1
      · have := h.all i h0 h1; omega
      · have : i = s.size - 1 := by omega
        rw [this, h.last]; omega
  · have h1 := (sign_bytes h).2.2 i hi
    simp [isS1] at h1
    omega

theorem one_hash {s : ByteArray} (h : OneP s) (h35 : bAt s 0 = 35) (hne : s ≠ ⟨#[35]⟩) : bAt s 1 = 35 ∧ 2 ≤ s.size := by
  rcases h with h | ⟨i0, h0, hlt, hd, hall⟩ | h | h
  · rcases h.all 0 h.pos with h1 | ⟨h1, _⟩
    · have := isLt_bounds h1; omega
    · omega
  · rcases h0 with h0 | ⟨h0, h46⟩
    · subst h0; have := isDg_bounds hd; omega
    · omega
  · have := h.q; omega
  · have hm := (isSign_iff s).1 h
    have key : (signs.all fun x => decide (bAt x 0 = 35 → x = ⟨#[35]⟩ ∨ (bAt x 1 = 35 ∧ 2 ≤ x.size))) = true := by decide +kernel
    have := of_decide_eq_true (List.all_eq_true.1 key s hm) h35
    rcases this with h1 | h1
    · exact absurd h1 hne
    · exact h1

/-- a is how b begins. -/
def Pre (a b : ByteArray) : Prop := ∃ c, b.data.toList = a.data.toList ++ c
theorem Pre.rfl' (a : ByteArray) : Pre a a := ⟨[], by simp⟩
theorem Pre.trans {a b c : ByteArray} (h : Pre a b) (k : Pre b c) : Pre a c := by
  obtain ⟨x, hx⟩ := h
  obtain ⟨y, hy⟩ := k
  exact ⟨x ++ y, by rw [hy, hx, List.append_assoc]⟩
theorem pre_append (a b : ByteArray) : Pre a (a ++ b) := ⟨b.data.toList, by rw [ByteArray.data_append, Array.toList_append]⟩
theorem Pre.at {a b : ByteArray} (h : Pre a b) {i : Nat} (hi : i < a.size) : bAt b i = bAt a i := by
  obtain ⟨c, hc⟩ := h
  unfold bAt
  rw [hc, List.getElem?_append_left (by rw [len_toList]; exact hi)]
theorem Pre.size {a b : ByteArray} (h : Pre a b) : a.size ≤ b.size := by
  obtain ⟨c, hc⟩ := h
  have := congrArg List.length hc
  rw [List.length_append, len_toList, len_toList] at this
  omega

theorem pre_line (T : Nat → ByteArray) (C : Nat → Bool) : ∀ d j, Pre (lineS T C j) (lineS T C (j + d)) := by
  intro d
  induction d with
  | zero => intro j; exact Pre.rfl' _
  | succ d ih =>
    intro j
    refine (ih j).trans ?_
    rw [show j + (d + 1) = (j + d) + 1 by omega]
    show Pre (lineS T C (j + d)) ((if 0 < j + d ∧ C (j + d) = true then lineS T C (j + d) ++ ⟨#[32]⟩ else lineS T C (j + d)) ++ T (j + d))
    split
    · exact (pre_append _ _).trans (pre_append _ _)
    · exact pre_append _ _

theorem pre_src (X : Nat → Ln) : ∀ d i, Pre (srcS X i) (srcS X (i + d)) := by
  intro d
  induction d with
  | zero => intro i; exact Pre.rfl' _
  | succ d ih => intro i; exact (ih i).trans (pre_append _ _)

theorem cut_eq {S t : ByteArray} {K : Nat} (h : ∀ u, u < t.size → bAt S (K + u) = bAt t u) (hk : K + t.size ≤ S.size) : cutB S.data.toList K t.size = t := by
  apply WideShapes.bytes_inj
  show (S.data.toList.drop K).take t.size = t.data.toList
  have hS := len_toList S
  have ht := len_toList t
  apply List.ext_getElem
  · rw [List.length_take, List.length_drop]; omega
  · intro i h1 h2
    have hi : i < t.size := by omega
    have e := h i hi
    unfold bAt at e
    rw [List.getElem?_eq_getElem (by omega), List.getElem?_eq_getElem h2] at e
    rw [List.getElem_take, List.getElem_drop]
    exact UInt8.toNat_inj.1 e

section
variable {X : Nat → Ln} {n : Nat}

/-- A byte of a line, where it stands in the source. -/
theorem src_line {i : Nat} (hi : i < n) {t : Nat} (ht : t ≤ (lnS (X i)).size) : bAt (srcS X n) ((srcS X i).size + t) = if t < (lnS (X i)).size then bAt (lnS (X i)) t else 10 := by
  have h1 : Pre (srcS X (i + 1)) (srcS X n) := by
    have := pre_src X (n - (i + 1)) (i + 1)
    rwa [show i + 1 + (n - (i + 1)) = n by omega] at this
  have hz : (srcS X (i + 1)).size = (srcS X i).size + ((lnS (X i)).size + 1) := by
    show (srcS X i ++ (lnS (X i) ++ ⟨#[10]⟩)).size = _
    rw [ByteArray.size_append, ByteArray.size_append]; rfl
  rw [h1.at (by omega)]
  show bAt (srcS X i ++ (lnS (X i) ++ ⟨#[10]⟩)) _ = _
  rw [bAt_append, if_neg (by omega), show (srcS X i).size + t - (srcS X i).size = t by omega, bAt_append]
  split
  · rfl
  · rw [show t - (lnS (X i)).size = 0 by omega]; rfl
end
end Go.Proofs.YtfooeinfgmfhpaaDoor
