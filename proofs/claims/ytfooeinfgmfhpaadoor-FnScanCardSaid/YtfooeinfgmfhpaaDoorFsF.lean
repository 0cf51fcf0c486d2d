/- spec.tokens, spec.Lines. -/
import Derived.Test.YtfooeinfgmfhpaaDoorFsE
import Derived.Test.YtfooeinfgmfhpaaDoorFsC
namespace Go.Proofs.YtfooeinfgmfhpaaDoor
open Go.RowKit

/-- Tokens of which something is stated. -/
def ToksP (n : Nat) (T : Nat → ByteArray) : Prop := n ≤ 40 ∧ ∀ i, i < n → OneP (T i) ∧ (T i).size ≤ 20

set_option maxHeartbeats 4000000 in
set_option maxRecDepth 100000 in
theorem specTokens_any (A : Option Addr) (n cap : Nat) (T : Nat → ByteArray) (B : Nat → Bool) (w : World) (h : ToksAt w A n T B) (hn : n ≤ 2147483647) (hS : ∀ i, i < n → (T i).size ≤ 9223372036854775807) :
    Calls Tryd.prog 24 #[.slice A n cap, .bool false] w (BoolIf (ToksP n T) w) := by
  have H := Lib.hid h
  have HN := Lib.hid hn
  have HS := Lib.hid hS
  clear h hn hS
  go_enter Tryd.func24, Tryd.ntmps24
  go_wp2_with fail
  go_loopg [9] n (fun g c wr => ∃ i : Nat, i ≤ n ∧ c = .int .i64 i ∧ g = n - i ∧ w.grownBy wr none ∧ ∀ j, j < i → OneP (T j) ∧ (T j).size ≤ 20)
  case atStart => exact ⟨0, Nat.zero_le _, rfl, rfl, grown_refl _ _, fun j hj => by omega⟩
  case round =>
    obtain ⟨i, hi, rfl, hg, hgr, hall⟩ := hrel
    have HG := Lib.hid hg
    have HGR := Lib.hid hgr
    have HA := Lib.hid hall
    clear hg hgr hall
    by_cases hk : i < n
    · obtain ⟨a, rfl, hc0, hc1⟩ := H.out.grown HGR.out i hk
      have hw : IntKind.i64.wrap ((i : Int) + 1) = (i : Int) + 1 := IntWalk.i64_in _ (by have := HN.out; omega)
      have hc1' : wr.cell? ⟨(a.add (i * 2)).block, (a.add (i * 2)).off + 1, none⟩ = some (.bool (B i)) := by rw [add_c1]; exact hc1
      have hsz := HS.out i hk
      have HSz := Lib.hid hsz
      have HG1 := Lib.hid (grown_trans HGR.out (World.grownBy_alloc wr (.cells #[.string (T i), .bool (B i)] 44) none))
      have hb := heap_alloc_new wr (.cells #[.string (T i), .bool (B i)] 44)
      have HB := Lib.hid hb
      clear hc1 hsz hb
      go_wp2_with fail
      refine (one_any (T i) _ HSz.out).mono ?_
      rintro e w2 ⟨b, rfl, hg2, hb⟩
      have HG2 := Lib.hid (grown_trans HG1.out hg2)
      have hb2 := (hg2.block _ (Array.getElem?_eq_some_iff.1 HB.out).1 (by simp)).trans HB.out
      have t0 : w2.cell? ⟨wr.heap.size, 0, none⟩ = some (.string (T i)) := cell_of_row _ _ 0 _ 44 (0, 0) hb2
      clear hg2
      cases b with
      | false =>
        clear hb hc0 hc1'
        go_wp2
        go_ret
        exact ⟨false, rfl, HG2.out, by simp⟩
      | true =>
        have HOne := Lib.hid (hb rfl)
        clear hb hc0 hc1'
        by_cases h20 : 20 < (T i).size
        · have h20' : (20 : Int) < ((T i).size : Int) := by omega
          clear hb2
          go_wp2
          go_ret
          exact ⟨false, rfl, HG2.out, by simp⟩
        · have h20' : ¬ (20 : Int) < ((T i).size : Int) := by omega
          have H20 := Lib.hid h20
          have HB2 := Lib.hid hb2
          clear h20 hb2
          go_wp2_with fail
          refine (name_any (T i) _ HSz.out).mono ?_
          rintro e w' ⟨b, rfl, rfl, _⟩
          cases b with
          | false =>
            go_wp2
            go_roundg (n - (i + 1))
            case measure => have := HG.out; omega
            case rel => exact ⟨i + 1, hk, rfl, rfl, HG2.out, fun j hj => by
              rcases Nat.lt_succ_iff_lt_or_eq.1 hj with h | rfl
              · exact HA.out j h
              · exact ⟨HOne.out, by have := H20.out; omega⟩⟩
          | true =>
            go_wp2_with fail
            refine (word_any (T i) _ HSz.out).mono ?_
            rintro e w3 ⟨b, rfl, hg3, _⟩
            have HG3 := Lib.hid (grown_trans HG2.out hg3)
            have t3 : w3.cell? ⟨wr.heap.size, 0, none⟩ = some (.string (T i)) := cell_of_row _ _ 0 _ 44 (0, 0) ((hg3.block _ (Array.getElem?_eq_some_iff.1 HB2.out).1 (by simp)).trans HB2.out)
            clear hg3 t0
            cases b with
            | true =>
              go_wp2
              go_roundg (n - (i + 1))
              case measure => have := HG.out; omega
              case rel => exact ⟨i + 1, hk, rfl, rfl, HG3.out, fun j hj => by
                rcases Nat.lt_succ_iff_lt_or_eq.1 hj with h | rfl
                · exact HA.out j h
                · exact ⟨HOne.out, by have := H20.out; omega⟩⟩
            | false =>
              go_wp2
              go_ret
              exact ⟨false, rfl, HG3.out, by simp⟩
    · have hk' : i = n := by omega
      subst hk'
      by_cases h40 : i ≤ 40
      · have h40' : (i : Int) ≤ 40 := by omega
        go_wp2
        go_ret
        exact ⟨_, rfl, HGR.out, fun _ => ⟨h40, HA.out⟩⟩
      · have h40' : decide ((i : Int) ≤ 40) = false := by simp; omega
        go_wp2
        go_ret
        exact ⟨false, by first | (simp; done) | (simp; omega), HGR.out, by simp⟩
end Go.Proofs.YtfooeinfgmfhpaaDoor
