/- Lists of tokens where a slice points; zzFits5, zzFits4. -/
import Derived.Test.YtfooeinfgmfhpaaDoorLwD
namespace Go.Proofs.YtfooeinfgmfhpaaDoor
open Go.RowKit

/-- A list of tokens (a text; is white space ahead) lies where a slice points. -/
def ToksAt (w : World) (A : Option Addr) (n : Nat) (T : Nat → ByteArray) (B : Nat → Bool) : Prop :=
  ∀ i, i < n → ∃ a, A = some a ∧ w.cell? (a.add (i * 2)) = some (.string (T i)) ∧ w.cell? (a.add (i * 2 + 1)) = some (.bool (B i))

theorem add_c1 (a : Addr) (i : Nat) : (⟨(a.add (i * 2)).block, (a.add (i * 2)).off + 1, none⟩ : Addr) = a.add (i * 2 + 1) := by
  unfold Addr.add
  by_cases h : i * 2 = 0
  · simp [h]
  · simp [h, Nat.add_assoc]

theorem ToksAt.grown {w w' : World} {A : Option Addr} {n : Nat} {T : Nat → ByteArray} {B : Nat → Bool} (h : ToksAt w A n T B) (hg : w.grownBy w' none) : ToksAt w' A n T B := by
  intro i hi
  obtain ⟨a, hA, h1, h2⟩ := h i hi
  exact ⟨a, hA, by rw [World.cell?_of_block (w := w) (hg.block _ (World.block_lt_of_cell? w _ h1) (by simp))]; exact h1, by rw [World.cell?_of_block (w := w) (hg.block _ (World.block_lt_of_cell? w _ h2) (by simp))]; exact h2⟩

set_option maxHeartbeats 4000000 in
set_option maxRecDepth 100000 in
theorem zzFits5_any (s : ByteArray) (b : Bool) (w : World) : Calls Tryd.prog 31 #[.agg #[.string s, .bool b]] w fun e w' => ∃ r : Bool, e = .returned (.bool r) ∧ w.grownBy w' none ∧ (r = true → s.size ≤ 2147483647) := by
  have HG := Lib.hid (World.grownBy_alloc w (.cells #[.string s, .bool b] 60) none)
  by_cases hs : 2147483647 < s.size
  · have q1 : decide ((2147483647 : Int) < (s.size : Int)) = true := by rw [decide_eq_true_iff]; omega
    have q2 : decide (2147483647 < s.size) = true := by rw [decide_eq_true_iff]; omega
    clear hs
    go_enter Tryd.func31, Tryd.ntmps31
    go_wp2
    go_ret
    exact ⟨false, rfl, HG.out, by simp⟩
  · have q1 : decide ((2147483647 : Int) < (s.size : Int)) = false := by rw [decide_eq_false_iff_not]; omega
    have q2 : decide (2147483647 < s.size) = false := by rw [decide_eq_false_iff_not]; omega
    have HS := Lib.hid hs
    clear hs
    go_enter Tryd.func31, Tryd.ntmps31
    go_wp2
    go_ret
    exact ⟨true, rfl, HG.out, fun _ => by have := HS.out; omega⟩

set_option maxHeartbeats 4000000 in
set_option maxRecDepth 100000 in
theorem zzFits4_any (A : Option Addr) (n cap : Nat) (T : Nat → ByteArray) (B : Nat → Bool) (w : World) (h : ToksAt w A n T B) (hn : n ≤ 9223372036854775807) :
    Calls Tryd.prog 22 #[.slice A n cap] w fun e w' => ∃ b : Bool, e = .returned (.bool b) ∧ w.grownBy w' none ∧ (b = true → n ≤ 2147483647 ∧ ∀ i, i < n → (T i).size ≤ 2147483647) := by
  have H := Lib.hid h
  have HN := Lib.hid hn
  clear h hn
  by_cases hb : 2147483647 < n
  · have q1 : decide ((2147483647 : Int) < (n : Int)) = true := by rw [decide_eq_true_iff]; omega
    have q2 : decide (2147483647 < n) = true := by rw [decide_eq_true_iff]; omega
    have HB := Lib.hid hb
    clear hb
    go_enter Tryd.func22, Tryd.ntmps22
    go_wp2
    go_ret
    exact ⟨false, rfl, grown_refl _ _, by simp⟩
  · have q1 : decide ((2147483647 : Int) < (n : Int)) = false := by rw [decide_eq_false_iff_not]; omega
    have q2 : decide (2147483647 < n) = false := by rw [decide_eq_false_iff_not]; omega
    have HB := Lib.hid hb
    clear hb
    go_enter Tryd.func22, Tryd.ntmps22
    go_wp2_with fail
    go_loopg [10] n (fun g c wr => ∃ i : Nat, i ≤ n ∧ c = .int .i64 i ∧ g = n - i ∧ w.grownBy wr none ∧ ∀ j, j < i → (T j).size ≤ 2147483647)
    case atStart => exact ⟨0, Nat.zero_le _, rfl, rfl, grown_refl _ _, fun j hj => by omega⟩
    case round =>
      obtain ⟨i, hi, rfl, hg, hgr, hall⟩ := hrel
      have HG := Lib.hid hg
      have HGR := Lib.hid hgr
      have HA := Lib.hid hall
      clear hg q1 q2 hgr hall
      by_cases hk : i < n
      · obtain ⟨a, rfl, hc0, hc1⟩ := H.out.grown HGR.out i hk
        have hw : IntKind.i64.wrap ((i : Int) + 1) = (i : Int) + 1 := IntWalk.i64_in _ (by have := HN.out; omega)
        have hc1' : wr.cell? ⟨(a.add (i * 2)).block, (a.add (i * 2)).off + 1, none⟩ = some (.bool (B i)) := by rw [add_c1]; exact hc1
        clear hc1
        go_wp2_with fail
        refine (zzFits5_any _ _ _).mono ?_
        rintro e w2 ⟨r, rfl, hg2, hr⟩
        have HG2 := Lib.hid (grown_trans (grown_trans HGR.out (World.grownBy_alloc wr (.cells #[.string (T i), .bool (B i)] 60) none)) hg2)
        cases r with
        | false =>
          clear hr hg2
          go_wp2
          go_ret
          exact ⟨false, rfl, HG2.out, by simp⟩
        | true =>
          have HR := Lib.hid (hr rfl)
          clear hr hg2
          go_wp2
          go_roundg (n - (i + 1))
          case measure => have := HG.out; omega
          case rel => exact ⟨i + 1, hk, rfl, rfl, HG2.out, fun j hj => by
            rcases Nat.lt_succ_iff_lt_or_eq.1 hj with h | rfl
            · exact HA.out j h
            · exact HR.out⟩
      · have hk' : i = n := by omega
        subst hk'
        go_wp2
        go_ret
        exact ⟨true, rfl, HGR.out, fun _ => ⟨by have := HB.out; omega, HA.out⟩⟩
end Go.Proofs.YtfooeinfgmfhpaaDoor
