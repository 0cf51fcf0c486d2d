/- spec.Lines. -/
import Derived.Test.YtfooeinfgmfhpaaDoorFsF
namespace Go.Proofs.YtfooeinfgmfhpaaDoor
open Go.RowKit

/-- Lines of which something is stated. -/
def LinesP (n : Nat) (X : Nat → Ln) : Prop := n ≤ 4 ∧ ∀ i, i < n → ToksP (X i).n (X i).T ∧ (0 < (X i).n → (X i).T 0 ≠ ⟨#[35]⟩)

set_option maxHeartbeats 4000000 in
set_option maxRecDepth 100000 in
theorem specLines_any (A : Option Addr) (n cap : Nat) (X : Nat → Ln) (w : World) (h : LinesAt w A n X) (hn : n ≤ 2147483647) (hX : ∀ i, i < n → (X i).n ≤ 2147483647) (hS : ∀ i, i < n → ∀ j, j < (X i).n → ((X i).T j).size ≤ 9223372036854775807) :
    Calls Tryd.prog 14 #[.slice A n cap] w (BoolIf (LinesP n X) w) := by
  have H := Lib.hid h
  have HN := Lib.hid hn
  have HX := Lib.hid hX
  have HS := Lib.hid hS
  clear h hn hS hX
  go_enter Tryd.func14, Tryd.ntmps14
  go_wp2_with fail
  go_loopg [7] n (fun g c wr => ∃ i : Nat, i ≤ n ∧ c = .int .i64 i ∧ g = n - i ∧ w.grownBy wr none ∧ ∀ j, j < i → ToksP (X j).n (X j).T ∧ (0 < (X j).n → (X j).T 0 ≠ ⟨#[35]⟩))
  case atStart => exact ⟨0, Nat.zero_le _, rfl, rfl, grown_refl _ _, fun j hj => by omega⟩
  case round =>
    obtain ⟨i, hi, rfl, hg, hgr, hall⟩ := hrel
    have HG := Lib.hid hg
    have HGR := Lib.hid hgr
    have HA := Lib.hid hall
    clear hg hgr hall
    by_cases hk : i < n
    · obtain ⟨a, rfl, hc0, hT, _⟩ := H.out.grown HGR.out i hk
      have hw : IntKind.i64.wrap ((i : Int) + 1) = (i : Int) + 1 := IntWalk.i64_in _ (by have := HN.out; omega)
      have HT := Lib.hid hT
      clear hT
      go_wp2_with fail
      refine (specTokens_any _ _ _ _ _ _ HT.out (HX.out i hk) (HS.out i hk)).mono ?_
      rintro e w2 ⟨b, rfl, hg2, hb⟩
      have HG2 := Lib.hid (grown_trans HGR.out hg2)
      have HT2 := Lib.hid (HT.out.grown hg2)
      clear hg2
      cases b with
      | false =>
        clear hb hc0
        go_wp2
        go_ret
        exact ⟨false, rfl, HG2.out, by simp⟩
      | true =>
        have HTk := Lib.hid (hb rfl)
        clear hb hc0
        by_cases h0 : 0 < (X i).n
        · obtain ⟨b, hA, ht0, _⟩ := HT2.out 0 h0
          have h0' : (0 : Int) < ((X i).n : Int) := by omega
          have ht0' : w2.cell? b = some (.string ((X i).T 0)) := by simpa [Addr.add] using ht0
          clear ht0
          rw [hA]
          by_cases h35 : (X i).T 0 = ⟨#[35]⟩
          · rw [h35] at ht0'
            go_wp2
            go_ret
            exact ⟨false, rfl, HG2.out, by simp⟩
          · have f35 : (((X i).T 0).toList == (⟨#[35]⟩ : ByteArray).toList) = false := by rw [beq_eq_false_iff_ne]; exact toList_ne h35
            go_wp2
            all_goals first
              | (go_ret; exact ⟨false, rfl, HG2.out, by simp⟩)
              | skip
            go_roundg (n - (i + 1))
            case measure => have := HG.out; omega
            case rel => exact ⟨i + 1, hk, rfl, rfl, HG2.out, fun j hj => by
              rcases Nat.lt_succ_iff_lt_or_eq.1 hj with h | rfl
              · exact HA.out j h
              · exact ⟨HTk.out, fun _ => h35⟩⟩
        · have h0' : (X i).n = 0 := by omega
          have h0'' : ¬ (0 : Int) < ((X i).n : Int) := by omega
          go_wp2
          go_roundg (n - (i + 1))
          case measure => have := HG.out; omega
          case rel => exact ⟨i + 1, hk, rfl, rfl, HG2.out, fun j hj => by
            rcases Nat.lt_succ_iff_lt_or_eq.1 hj with h | rfl
            · exact HA.out j h
            · exact ⟨HTk.out, fun h => absurd h h0⟩⟩
    · have hk' : i = n := by omega
      subst hk'
      by_cases h40 : i ≤ 4
      · have h40' : (i : Int) ≤ 4 := by omega
        go_wp2
        go_ret
        exact ⟨_, rfl, HGR.out, fun _ => ⟨h40, HA.out⟩⟩
      · have h40' : decide ((i : Int) ≤ 4) = false := by simp; omega
        go_wp2
        go_ret
        exact ⟨false, by first | (simp; done) | (simp; omega), HGR.out, by simp⟩
end Go.Proofs.YtfooeinfgmfhpaaDoor
