/- A token where a blank, a line end or a sign that joins with nothing stands behind it. -/
import Derived.Test.YtfooeinfgmfhpaaDoorFsM
namespace Go.Proofs.YtfooeinfgmfhpaaDoor
open Go.RowKit

/-- What may stand behind a token. -/
def Sep (c : Nat) : Prop := c = 32 ∨ c = 10 ∨ c = 40 ∨ c = 41 ∨ c = 44 ∨ c = 59 ∨ c = 91 ∨ c = 93

theorem Sep.numC {c : Nat} (h : Sep c) : isNumC c = false ∧ isSg c = false ∧ isId c = false ∧ c ≠ 36 ∧ c ≠ 39 ∧ c ≠ 34 := by
  rcases h with rfl | rfl | rfl | rfl | rfl | rfl | rfl | rfl <;> decide

theorem numGo_numC {p c : Nat} (h : numGo p c) (hp : isExp p = false) : isNumC c = true := by
  unfold isNumC
  rcases h with h | h | h | ⟨h, _⟩
  · unfold isLt at h; simp at h ⊢; rcases h with h | h <;> simp [h]
  · simp [h]
  · simp [h]
  · rw [hp] at h; simp at h

theorem num_run2 (f : Nat → Nat) (N : Nat) (hN1 : isNumC (f N) = false) (hN2 : isSg (f N) = false) : ∀ m k, N - k = m → k ≤ N → (∀ i, k < i → i < N → numGo (f (i - 1)) (f i)) → (k < N → isNumC (f k) = true) → NumRun f k N := by
  intro m
  induction m using Nat.strongRecOn with
  | ind m ih =>
    intro k hm hk hall hnum
    rcases Nat.lt_or_ge k N with hlt | hge
    · have hnc := hnum hlt
      by_cases hexp : isExp (f k) = true
      · by_cases hsg : isSg (f (k + 1)) = true
        · have hb := isSg_bounds hsg
          have hlt2 : k + 1 < N := by
            rcases Nat.lt_or_ge (k + 1) N with h | h
            · exact h
            · have : k + 1 = N := by omega
              rw [this, hN2] at hsg; simp at hsg
          refine .sgn k N hexp hsg (ih (N - (k + 2)) (by omega) (k + 2) rfl (by omega) (fun i h1 h2 => hall i (by omega) h2) (fun h2 => ?_))
          have h3 := hall (k + 2) (by omega) h2
          refine numGo_numC h3 ?_
          rw [show k + 2 - 1 = k + 1 by omega]
          unfold isExp; rcases hb with hb | hb <;> rw [hb] <;> rfl
        · have hsg' : isSg (f (k + 1)) = false := by simpa using hsg
          refine .exp k N hexp hsg' (ih (N - (k + 1)) (by omega) (k + 1) rfl (by omega) (fun i h1 h2 => hall i (by omega) h2) (fun h2 => ?_))
          have h3 := hall (k + 1) (by omega) h2
          unfold isNumC
          rcases h3 with h | h | h | ⟨_, h⟩
          · unfold isLt at h; simp at h ⊢; rcases h with h | h <;> simp [h]
          · simp [h]
          · simp [h]
          · rw [hsg'] at h; simp at h
      · have hexp' : isExp (f k) = false := by simpa using hexp
        refine .step k N hnc hexp' (ih (N - (k + 1)) (by omega) (k + 1) rfl (by omega) (fun i h1 h2 => hall i (by omega) h2) (fun h2 => ?_))
        exact numGo_numC (hall (k + 1) (by omega) h2) (by rw [show k + 1 - 1 = k by omega]; exact hexp')
    · have : k = N := by omega
      subst this
      exact .stop k hN1

variable {f : Nat → Nat} {s : ByteArray} {k : Nat}

theorem tok_name (hp : NameP s) (hf : ∀ i, i < s.size → f (k + i) = bAt s i) (hs : Sep (f (k + s.size))) : Tok1 f k s.size := by
  have hsep := hs.numC
  have h0 := hf 0 hp.pos
  have h1 : isLt (f k) = true := by
    rcases hp.all 0 hp.pos with h | ⟨h, _⟩
    · rw [← h0] at h; exact h
    · omega
  have nx : ∀ i, i ≤ s.size → f (k + i) ≠ 39 ∧ f (k + i) ≠ 34 := by
    intro i hi
    rcases Nat.lt_or_ge i s.size with h2 | h2
    · rw [hf i h2]
      rcases hp.all i h2 with h3 | ⟨_, h3⟩
      · have := isLt_bounds h3; omega
      · have := isDg_bounds h3; omega
    · have : i = s.size := by omega
      subst this; exact ⟨hsep.2.2.2.2.1, hsep.2.2.2.2.2⟩
  have hpos := hp.pos
  refine .ident s.size ?_ (fun _ => nx 1 (by omega)) (fun _ => ?_) hp.pos (fun j hj1 hj2 => ?_) hsep.2.2.1 hsep.2.2.2.1
  · unfold isLt at h1; simpa using h1
  · rcases Nat.lt_or_ge 1 s.size with h2 | h2
    · exact Or.inr (nx 2 (by omega)).2
    · have e : s.size = 1 := by omega
      left
      rw [e] at hs
      rcases hs with h | h | h | h | h | h | h | h <;> omega
  · have hj := hf (j - k) (by omega)
    rw [show k + (j - k) = j by omega] at hj
    rw [hj]
    rcases hp.all (j - k) (by omega) with h3 | ⟨_, h3⟩
    · unfold isLt at h3; unfold isId; simp at h3 ⊢; rcases h3 with h3 | h3 <;> simp [h3]
    · unfold isId; simp [h3]

theorem tok_number (hp : NumberP s) (hf : ∀ i, i < s.size → f (k + i) = bAt s i) (hs : Sep (f (k + s.size))) : Tok1 f k s.size := by
  have hsep := hs.numC
  obtain ⟨i0, h0, hi, hd, hall⟩ := hp
  have hd' : isDg (f (k + i0)) = true := by rw [hf i0 hi]; exact hd
  have hg : ∀ i, k + i0 < i → i < k + s.size → numGo (f (i - 1)) (f i) := by
    intro i h1 h2
    have e1 := hf (i - k) (by omega)
    have e2 := hf (i - k - 1) (by omega)
    rw [show k + (i - k) = i by omega] at e1
    rw [show k + (i - k - 1) = i - 1 by omega] at e2
    rw [e1, e2]
    exact hall (i - k) (by omega) (by omega)
  have hr : NumRun f (k + i0 + 1) (k + s.size) := num_run2 f (k + s.size) hsep.1 hsep.2.1 _ (k + i0 + 1) rfl (by omega) (fun i h1 h2 => hg i (by omega) h2) (fun h2 => numGo_dg (hg (k + i0 + 1) (by omega) h2) (by rw [Nat.add_sub_cancel]; exact hd'))
  rcases h0 with rfl | ⟨rfl, h46⟩
  · exact .num s.size hd' hr
  · have : f k = 46 := by have := hf 0 (by omega); rw [Nat.add_zero] at this; rw [this]; exact h46
    exact .dotNum s.size this hd' hr

theorem tok_quoted (hp : QuotedP s) (hf : ∀ i, i < s.size → f (k + i) = bAt s i) : Tok1 f k s.size := by
  have h2 := hp.two
  have h0 : f k = bAt s 0 := hf 0 (by omega)
  have hl : f (k + s.size - 1) = bAt s 0 := by
    have := hf (s.size - 1) (by omega)
    rw [show k + (s.size - 1) = k + s.size - 1 by omega] at this
    rw [this]; exact hp.last
  have hin : ∀ j, k < j → j + 1 < k + s.size → f j ≠ bAt s 0 ∧ f j ≠ 10 := by
    intro j h1 h3
    have := hf (j - k) (by omega)
    rw [show k + (j - k) = j by omega] at this
    rw [this]
    have h4 := hp.all (j - k) (by omega) (by omega)
    exact ⟨h4.1, by omega⟩
  rcases hp.q with hq | hq
  · rw [hq] at h0 hl hin; exact .str s.size h0 h2 hin hl
  · rw [hq] at h0 hl hin; exact .chr s.size h0 h2 hin hl
end Go.Proofs.YtfooeinfgmfhpaaDoor
