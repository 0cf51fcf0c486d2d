/- line. -/
import Derived.Test.YtfooeinfgmfhpaaDoorFsI
namespace Go.Proofs.YtfooeinfgmfhpaaDoor
open Go.RowKit

/-- Tokens written on a line. -/
def lineS (T : Nat → ByteArray) (B : Nat → Bool) : Nat → ByteArray
  | 0 => ⟨#[]⟩
  | k + 1 => (if 0 < k ∧ B k = true then lineS T B k ++ ⟨#[32]⟩ else lineS T B k) ++ T k

theorem lineS_size (T : Nat → ByteArray) (B : Nat → Bool) (n : Nat) (h : ∀ i, i < n → (T i).size ≤ 20) : ∀ k, k ≤ n → (lineS T B k).size ≤ 21 * k := by
  intro k
  induction k with
  | zero => intro _; exact Nat.le_refl 0
  | succ k ih =>
    intro hk
    have h1 := ih (by omega)
    have h2 := h k (by omega)
    unfold lineS
    rw [ByteArray.size_append]
    split
    · rw [ByteArray.size_append]
      have : (⟨#[32]⟩ : ByteArray).size = 1 := rfl
      omega
    · omega

set_option maxHeartbeats 4000000 in
set_option maxRecDepth 100000 in
theorem line_any (A : Option Addr) (n cap : Nat) (T : Nat → ByteArray) (B : Nat → Bool) (w : World) (h : ToksAt w A n T B) (hn : n ≤ 40) (hS : ∀ i, i < n → (T i).size ≤ 20) :
    Calls Tryd.prog 26 #[.slice A n cap] w fun e w' => e = .returned (.string (lineS T (clr T B) n)) ∧ w.grownBy w' none := by
  have HC := Lib.hid (clear_any A n cap T B w h hn)
  have HN := Lib.hid hn
  have HL := Lib.hid (lineS_size T (clr T B) n hS)
  have HS := Lib.hid hS
  clear h hn hS
  go_enter Tryd.func26, Tryd.ntmps26
  go_wp2_with fail
  refine HC.out.mono ?_
  rintro e w1 ⟨v, rfl, hO⟩
  obtain ⟨A2, c2, rfl, _⟩ := row_form hO.row
  have HT := Lib.hid (toks_of_row hO.row)
  have HG1 := Lib.hid hO.gr
  clear hO HC
  go_wp2_with fail
  go_loopg [3, 9] n (fun g v c wr => ∃ i : Nat, i ≤ n ∧ v = .string (lineS T (clr T B) i) ∧ c = .int .i64 i ∧ g = n - i ∧ w1.grownBy wr none)
  case atStart => exact ⟨0, Nat.zero_le _, rfl, rfl, rfl, grown_refl _ _⟩
  case round =>
    obtain ⟨i, hi, rfl, rfl, hg, hgr⟩ := hrel
    have HG := Lib.hid hg
    have HGR := Lib.hid hgr
    clear hg hgr
    by_cases hk : i < n
    · obtain ⟨a, rfl, hc0, hc1⟩ := HT.out.grown HGR.out i hk
      have hw : IntKind.i64.wrap ((i : Int) + 1) = (i : Int) + 1 := IntWalk.i64_in _ (by have := HN.out; omega)
      have hc1' : wr.cell? ⟨(a.add (i * 2)).block, (a.add (i * 2)).off + 1, none⟩ = some (.bool (clr T B i)) := by rw [add_c1]; exact hc1
      clear hc1
      have hsz := HL.out i (by omega)
      have hst := HS.out i hk
      have hn40 := HN.out
      have hadd : ¬ (9223372036854775807 : Int) < ((lineS T (clr T B) i).size : Int) + ((T i).size : Int) := by omega
      have hadd1 : ¬ (9223372036854775807 : Int) < ((lineS T (clr T B) i).size : Int) + 1 := by omega
      have hadd2 : ¬ (9223372036854775807 : Int) < ((lineS T (clr T B) i).size : Int) + 1 + ((T i).size : Int) := by omega
      have nadd : (lineS T (clr T B) i).size + (T i).size ≤ 9223372036854775807 := by omega
      have nadd1 : (lineS T (clr T B) i).size + 1 ≤ 9223372036854775807 := by omega
      have nadd2 : (lineS T (clr T B) i).size + 1 + (T i).size ≤ 9223372036854775807 := by omega
      clear hsz hst hn40
      have hG2 := Lib.hid (grown_trans HGR.out (World.grownBy_alloc wr (.cells #[.string (T i), .bool (clr T B i)] 44) none))
      by_cases h0 : 0 < i
      · have h0' : (0 : Int) < (i : Int) := by omega
        cases hb : clr T B i with
        | true =>
          have hstep : Hid (lineS T (clr T B) (i + 1) = lineS T (clr T B) i ++ ⟨#[32]⟩ ++ T i) := by unfold Hid; rw [lineS, if_pos ⟨h0, hb⟩]
          rw [hb] at hc1' hG2
          go_wp2
          go_roundg (n - (i + 1))
          case measure => have := HG.out; omega
          case rel => exact ⟨i + 1, hk, by rw [hstep.out], rfl, rfl, hG2.out⟩
        | false =>
          have hstep : Hid (lineS T (clr T B) (i + 1) = lineS T (clr T B) i ++ T i) := by unfold Hid; rw [lineS, if_neg (by rintro ⟨_, h⟩; rw [hb] at h; simp at h)]
          rw [hb] at hc1' hG2
          go_wp2
          go_roundg (n - (i + 1))
          case measure => have := HG.out; omega
          case rel => exact ⟨i + 1, hk, by rw [hstep.out], rfl, rfl, hG2.out⟩
      · have h0' : ¬ (0 : Int) < (i : Int) := by omega
        have hstep : Hid (lineS T (clr T B) (i + 1) = lineS T (clr T B) i ++ T i) := by unfold Hid; rw [lineS, if_neg (by omega)]
        go_wp2
        go_roundg (n - (i + 1))
        case measure => have := HG.out; omega
        case rel => exact ⟨i + 1, hk, by rw [hstep.out], rfl, rfl, hG2.out⟩
    · have hk' : i = n := by omega
      subst hk'
      go_wp2
      go_ret
      exact ⟨rfl, grown_trans HG1.out HGR.out⟩
end Go.Proofs.YtfooeinfgmfhpaaDoor
