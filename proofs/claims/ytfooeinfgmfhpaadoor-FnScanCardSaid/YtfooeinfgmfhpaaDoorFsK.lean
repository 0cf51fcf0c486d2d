/- Source, without macros. -/
import Derived.Test.YtfooeinfgmfhpaaDoorFsJ
namespace Go.Proofs.YtfooeinfgmfhpaaDoor
open Go.RowKit

/-- A line as it is written. -/
def lnS (x : Ln) : ByteArray := lineS x.T (clr x.T x.B) x.n
/-- Lines as they are written. -/
def srcS (X : Nat → Ln) : Nat → ByteArray
  | 0 => ⟨#[]⟩
  | k + 1 => srcS X k ++ (lnS (X k) ++ ⟨#[10]⟩)

theorem lnS_size {x : Ln} (h : ToksP x.n x.T) : (lnS x).size ≤ 840 := by
  have := lineS_size x.T (clr x.T x.B) x.n (fun i hi => (h.2 i hi).2) x.n (Nat.le_refl _)
  have := h.1
  unfold lnS
  omega

theorem srcS_size {X : Nat → Ln} {n : Nat} (h : LinesP n X) : ∀ k, k ≤ n → (srcS X k).size ≤ 841 * k := by
  intro k
  induction k with
  | zero => intro _; exact Nat.le_refl 0
  | succ k ih =>
    intro hk
    have h1 := ih (by omega)
    have h2 := lnS_size (h.2 k (by omega)).1
    unfold srcS
    rw [ByteArray.size_append, ByteArray.size_append]
    have : (⟨#[10]⟩ : ByteArray).size = 1 := rfl
    omega

set_option maxHeartbeats 4000000 in
set_option maxRecDepth 100000 in
theorem source_law (A : Option Addr) (n cap : Nat) (X : Nat → Ln) (w : World) (h : LinesAt w A n X) (hP : LinesP n X) :
    Calls Tryd.prog 15 #[.slice none 0 0, .slice A n cap] w fun e w' => e = .returned (.string (srcS X n)) ∧ w.grownBy w' none := by
  have H := Lib.hid h
  have HP := Lib.hid hP
  have HZ := Lib.hid (srcS_size hP)
  have HN := Lib.hid hP.1
  clear h hP
  go_enter Tryd.func15, Tryd.ntmps15
  go_wp2_with fail
  go_loopg [5, 12] 0 (fun g v c wr => v = .string ⟨#[]⟩ ∧ c = .int .i64 0 ∧ wr = w)
  case atStart => exact ⟨rfl, rfl, rfl⟩
  case round =>
    obtain ⟨rfl, rfl, rfl⟩ := hrel
    go_wp2_with fail
    go_loopg [5, 23] n (fun g v c w2 => ∃ i : Nat, i ≤ n ∧ v = .string (srcS X i) ∧ c = .int .i64 i ∧ g = n - i ∧ wr.grownBy w2 none)
    case atStart => exact ⟨0, Nat.zero_le _, rfl, rfl, rfl, grown_refl _ _⟩
    case round =>
      obtain ⟨i, hi, rfl, rfl, hg, hgr⟩ := hrel
      have HG := Lib.hid hg
      have HGR := Lib.hid hgr
      clear hg hgr
      by_cases hk : i < n
      · obtain ⟨a, rfl, hc0, hT, _⟩ := H.out.grown HGR.out i hk
        have hw : IntKind.i64.wrap ((i : Int) + 1) = (i : Int) + 1 := IntWalk.i64_in _ (by have := HN.out; omega)
        have hTk := (HP.out.2 i hk).1
        have hl := lnS_size hTk
        have hz := HZ.out i (by omega)
        have hn4 := HN.out
        have e1 : ¬ (9223372036854775807 : Int) < ((lnS (X i)).size : Int) + 1 := by omega
        have e2 : ¬ (9223372036854775807 : Int) < ((srcS X i).size : Int) + (((lnS (X i)).size : Int) + 1) := by omega
        have n1 : (lnS (X i)).size + 1 ≤ 9223372036854775807 := by omega
        have n2 : (srcS X i).size + ((lnS (X i)).size + 1) ≤ 9223372036854775807 := by omega
        have HC := Lib.hid (line_any _ _ (X i).c _ _ _ hT hTk.1 (fun j hj => (hTk.2 j hj).2))
        clear hT hTk hl hz hn4
        go_wp2_with fail
        refine HC.out.mono ?_
        rintro e w3 ⟨rfl, hg3⟩
        have HG3 := Lib.hid (grown_trans HGR.out hg3)
        clear hg3 HC
        rw [show lineS (X i).T (clr (X i).T (X i).B) (X i).n = lnS (X i) from rfl]
        go_wp2
        go_roundg (n - (i + 1))
        case measure => have := HG.out; omega
        case rel => exact ⟨i + 1, hk, rfl, rfl, rfl, HG3.out⟩
      · have hk' : i = n := by omega
        subst hk'
        go_wp2
        go_ret
        exact ⟨rfl, HGR.out⟩
end Go.Proofs.YtfooeinfgmfhpaaDoor
