/- What is scanned of a name and of a number, a line end behind it. -/
import Derived.Test.YtfooeinfgmfhpaaDoorScT
import Derived.Test.YtfooeinfgmfhpaaDoorLwC
namespace Go.Proofs.YtfooeinfgmfhpaaDoor
open Go.RowKit

theorem isLt_bounds {c : Nat} (h : isLt c = true) : (65 ≤ c ∧ c ≤ 90) ∨ (97 ≤ c ∧ c ≤ 122) ∨ c = 95 := by
  unfold isLt isAl at h; simp at h; omega
theorem isDg_bounds {c : Nat} (h : isDg c = true) : 48 ≤ c ∧ c ≤ 57 := by
  unfold isDg at h; simpa using h
theorem isExp_bounds {c : Nat} (h : isExp c = true) : c = 101 ∨ c = 69 ∨ c = 112 ∨ c = 80 := by
  unfold isExp at h; simp at h; omega
theorem isSg_bounds {c : Nat} (h : isSg c = true) : c = 43 ∨ c = 45 := by
  unfold isSg at h; simpa using h

/-- n letters and figures, and a line end: one token. -/
theorem scans_name (f : Nat → Nat) (N : Nat) (h0 : 0 < N) (h : ∀ i, i < N → isLt (f i) = true ∨ (0 < i ∧ isDg (f i) = true)) (hN : f N = 10) : Scans f (N + 1) true 0 [(0, N)] := by
  have h1 : isLt (f 0) = true := by rcases h 0 h0 with h | h; exact h; omega
  have hb := isLt_bounds h1
  have nx : ∀ i, i ≤ N → f i ≠ 39 ∧ f i ≠ 34 := by
    intro i hi
    rcases Nat.lt_or_ge i N with h2 | h2
    · rcases h i h2 with h3 | ⟨_, h3⟩
      · have := isLt_bounds h3; omega
      · have := isDg_bounds h3; omega
    · have : i = N := by omega
      subst this; omega
  have t : Tok1 f 0 N := by
    refine .ident N ?_ (fun _ => nx 1 (by omega)) (fun h117 => ?_) h0 (fun j hj1 hj2 => ?_) ?_ ?_
    · unfold isLt at h1; simpa using h1
    · rcases Nat.lt_or_ge 1 N with h2 | h2
      · exact Or.inr (nx 2 (by omega)).2
      · have : N = 1 := by omega
        subst this; left; rw [hN]; decide
    · rcases h j (by omega) with h3 | ⟨_, h3⟩
      · unfold isLt at h3; unfold isId; simp at h3 ⊢; rcases h3 with h3 | h3 <;> simp [h3]
      · unfold isId; simp [h3]
    · rw [Nat.zero_add, hN]; rfl
    · rw [Nat.zero_add, hN]; decide
  have e := Scans.tok (f := f) (L := N + 1) true 0 0 N [] (fun i hi => by omega) (by simp; omega) (fun _ h35 => by simp at h35; omega) t (by omega)
    (Scans.nl false (0 + 0 + N) 0 [] (fun i hi => by omega) (by simpa using hN) (by omega) (by
      have := Scans.done (f := f) (L := N + 1) true
      simpa using this))
  simpa using e

theorem num_run (f : Nat → Nat) (N : Nat) (hN : f N = 10) : ∀ m k, N - k = m → k ≤ N → (∀ i, k < i → i < N → numGo (f (i - 1)) (f i)) → (k < N → isNumC (f k) = true) → NumRun f k N := by
  have hc : ∀ p c, numGo p c → isExp p = false → isNumC c = true := by
    intro p c h hp
    unfold isNumC
    rcases h with h | h | h | ⟨h, _⟩
    · unfold isLt at h; simp at h ⊢; rcases h with h | h <;> simp [h]
    · simp [h]
    · simp [h]
    · rw [hp] at h; simp at h
  intro m
  induction m using Nat.strongRecOn with
  | ind m ih =>
    intro k hm hk hall hnum
    rcases Nat.lt_or_ge k N with hlt | hge
    · have hnc := hnum hlt
      by_cases hexp : isExp (f k) = true
      · by_cases hsg : isSg (f (k + 1)) = true
        · have hb := isSg_bounds hsg
          have hlt2 : k + 1 < N := by
            rcases Nat.lt_or_ge (k + 1) N with h | h
            · exact h
            · have : k + 1 = N := by omega
              rw [this, hN] at hb; omega
          refine .sgn k N hexp hsg (ih (N - (k + 2)) (by omega) (k + 2) rfl (by omega) (fun i h1 h2 => hall i (by omega) h2) (fun h2 => ?_))
          have h3 := hall (k + 2) (by omega) h2
          refine hc _ _ h3 ?_
          rw [show k + 2 - 1 = k + 1 by omega]
          unfold isExp; rcases hb with hb | hb <;> rw [hb] <;> rfl
        · have hsg' : isSg (f (k + 1)) = false := by simpa using hsg
          refine .exp k N hexp hsg' (ih (N - (k + 1)) (by omega) (k + 1) rfl (by omega) (fun i h1 h2 => hall i (by omega) h2) (fun h2 => ?_))
          have h3 := hall (k + 1) (by omega) h2
          unfold isNumC
          rcases h3 with h | h | h | ⟨_, h⟩
          · unfold isLt at h; simp at h ⊢; rcases h with h | h <;> simp [h]
          · simp [h]
          · simp [h]
          · rw [hsg'] at h; simp at h
      · have hexp' : isExp (f k) = false := by simpa using hexp
        refine .step k N hnc hexp' (ih (N - (k + 1)) (by omega) (k + 1) rfl (by omega) (fun i h1 h2 => hall i (by omega) h2) (fun h2 => ?_))
        exact hc _ _ (hall (k + 1) (by omega) h2) (by rw [show k + 1 - 1 = k by omega]; exact hexp')
    · have : k = N := by omega
      subst this
      exact .stop k (by rw [hN]; rfl)

theorem numGo_dg {p c : Nat} (h : numGo p c) (hp : isDg p = true) : isNumC c = true := by
  have hb := isDg_bounds hp
  unfold isNumC
  rcases h with h | h | h | ⟨h, _⟩
  · unfold isLt at h; simp at h ⊢; rcases h with h | h <;> simp [h]
  · simp [h]
  · simp [h]
  · have := isExp_bounds h; omega

/-- A number, and a line end: one token. -/
theorem scans_number (f : Nat → Nat) (N i0 : Nat) (h0 : i0 = 0 ∨ (i0 = 1 ∧ f 0 = 46)) (hi : i0 < N) (hd : isDg (f i0) = true) (h : ∀ i, i0 < i → i < N → numGo (f (i - 1)) (f i)) (hN : f N = 10) : Scans f (N + 1) true 0 [(0, N)] := by
  have hb := isDg_bounds hd
  have hr : NumRun f (i0 + 1) N := num_run f N hN _ (i0 + 1) rfl (by omega) (fun i h1 h2 => h i (by omega) h2) (fun h2 => numGo_dg (h (i0 + 1) (by omega) h2) (by rw [Nat.add_sub_cancel]; exact hd))
  have t : Tok1 f 0 N ∧ f 0 ≠ 10 ∧ f 0 ≠ 35 := by
    rcases h0 with rfl | ⟨rfl, h46⟩
    · exact ⟨.num N hd (by rw [Nat.zero_add N]; exact hr), by omega, by omega⟩
    · exact ⟨.dotNum N h46 hd (by rw [Nat.zero_add N]; exact hr), by omega, by omega⟩
  have e := Scans.tok (f := f) (L := N + 1) true 0 0 N [] (fun i hi => by omega) (by simpa using t.2.1) (fun _ h35 => by simp at h35; exact absurd h35 t.2.2) t.1 (by omega)
    (Scans.nl false (0 + 0 + N) 0 [] (fun i hi => by omega) (by simpa using hN) (by omega) (by
      have := Scans.done (f := f) (L := N + 1) true
      simpa using this))
  simpa using e
end Go.Proofs.YtfooeinfgmfhpaaDoor
