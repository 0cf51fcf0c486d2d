/- The law's helpers over lists of texts: zzFits3, same. -/
import Derived.Test.YtfooeinfgmfhpaaDoorScA
import Derived.Deep.LoopGhost
import Derived.BigQuiet
namespace Go.Proofs.YtfooeinfgmfhpaaDoor
open Go.RowKit

/-- A list of texts lies where a slice points. -/
def StrsAt (w : World) (A : Option Addr) (n : Nat) (S : Nat → ByteArray) : Prop := ∀ i, i < n → ∃ a, A = some a ∧ w.cell? (a.add i) = some (.string (S i))

set_option maxHeartbeats 4000000 in
set_option maxRecDepth 100000 in
theorem zzFits3_any (A : Option Addr) (n cap : Nat) (S : Nat → ByteArray) (w : World) (h : StrsAt w A n S) (hn : n ≤ 9223372036854775807) :
    Calls Tryd.prog 6 #[.slice A n cap] w fun e w' => ∃ b : Bool, e = .returned (.bool b) ∧ w' = w ∧ (b = true → n ≤ 2147483647) := by
  have H := Lib.hid h
  have HN := Lib.hid hn
  clear h hn
  by_cases hb : 2147483647 < n
  · have q1 : decide ((2147483647 : Int) < (n : Int)) = true := by rw [decide_eq_true_iff]; omega
    have q2 : decide (2147483647 < n) = true := by rw [decide_eq_true_iff]; omega
    have HB := Lib.hid hb
    clear hb
    go_enter Tryd.func6, Tryd.ntmps6
    go_wp2
    go_ret
    exact ⟨false, rfl, rfl, by simp⟩
  · have q1 : decide ((2147483647 : Int) < (n : Int)) = false := by rw [decide_eq_false_iff_not]; omega
    have q2 : decide (2147483647 < n) = false := by rw [decide_eq_false_iff_not]; omega
    have HB := Lib.hid hb
    clear hb
    go_enter Tryd.func6, Tryd.ntmps6
    go_wp2_with fail
    go_loopg [10] n (fun g c wr => ∃ i : Nat, i ≤ n ∧ c = .int .i64 i ∧ g = n - i ∧ wr = w)
    case atStart => exact ⟨0, Nat.zero_le _, rfl, rfl, rfl⟩
    case round =>
      obtain ⟨i, hi, rfl, hg, rfl⟩ := hrel
      have HG := Lib.hid hg
      clear hg q1 q2
      by_cases hk : i < n
      · obtain ⟨a, rfl, hc⟩ := H.out i hk
        have hw : IntKind.i64.wrap ((i : Int) + 1) = (i : Int) + 1 := IntWalk.i64_in _ (by have := HN.out; omega)
        by_cases hs : 2147483647 < (S i).size
        · have q1 : decide ((2147483647 : Int) < ((S i).size : Int)) = true := by rw [decide_eq_true_iff]; omega
          have q2 : decide (2147483647 < (S i).size) = true := by rw [decide_eq_true_iff]; omega
          clear hs
          go_wp2
          go_ret
          exact ⟨false, rfl, rfl, by simp⟩
        · have q1 : decide ((2147483647 : Int) < ((S i).size : Int)) = false := by rw [decide_eq_false_iff_not]; omega
          have q2 : decide (2147483647 < (S i).size) = false := by rw [decide_eq_false_iff_not]; omega
          clear hs
          go_wp2
          go_roundg (n - (i + 1))
          case measure => have := HG.out; omega
          case rel => exact ⟨i + 1, hk, rfl, rfl, rfl⟩
      · have hk' : i = n := by omega
        subst hk'
        go_wp2
        go_ret
        exact ⟨true, rfl, rfl, fun _ => by have := HB.out; omega⟩
set_option maxHeartbeats 4000000 in
set_option maxRecDepth 100000 in
theorem same_any (A B : Option Addr) (n cap cap' : Nat) (S : Nat → ByteArray) (w : World) (h : StrsAt w A n S) (h' : StrsAt w B n S) (hn : n ≤ 9223372036854775807) :
    Calls Tryd.prog 10 #[.slice A n cap, .slice B n cap'] w fun e w' => e = .returned (.bool true) ∧ ∃ m, w' = w.drewN m := by
  have H := Lib.hid h
  have H' := Lib.hid h'
  have HN := Lib.hid hn
  clear h hn h'
  go_enter Tryd.func10, Tryd.ntmps10
  go_wp2_with fail
  go_loopg [13] n (fun g c wr => ∃ (i m : Nat), i ≤ n ∧ c = .int .i64 i ∧ g = n - i ∧ wr = w.drewN m)
  case atStart => exact ⟨0, 0, Nat.zero_le _, rfl, rfl, rfl⟩
  case round =>
    obtain ⟨i, m, hi, rfl, hg, rfl⟩ := hrel
    have HG := Lib.hid hg
    clear hg
    by_cases hk : i < n
    · obtain ⟨a, rfl, hc⟩ := H.out i hk
      obtain ⟨b, rfl, hd⟩ := H'.out i hk
      have hw : IntKind.i64.wrap ((i : Int) + 1) = (i : Int) + 1 := IntWalk.i64_in _ (by have := HN.out; omega)
      have hc' : (w.drewN m).cell? (a.add i) = some (.string (S i)) := hc
      have hd' : (w.drewN m).cell? (b.add i) = some (.string (S i)) := hd
      have he : Hid (∀ k, (w.drewN m).drewN k = w.drewN (m + k)) := fun k => by simp [World.drewN]; omega
      clear hc hd
      generalize w.drewN m = w2 at *
      go_wp2_with fail
      go_quiet (fail)
      go_wp2
      go_roundg (n - (i + 1))
      case measure => have := HG.out; omega
      case rel => exact ⟨i + 1, m + nq, hk, rfl, rfl, he.out nq⟩
    · have hk' : i = n := by omega
      subst hk'
      go_wp2
      go_ret
      exact ⟨rfl, m, rfl⟩
end Go.Proofs.YtfooeinfgmfhpaaDoor
