/- Quoted. -/
import Derived.Test.YtfooeinfgmfhpaaDoorFsA
namespace Go.Proofs.YtfooeinfgmfhpaaDoor
open Go.RowKit

/-- A string or a character. -/
structure QuotedP (s : ByteArray) : Prop where
  two : 2 ≤ s.size
  q : bAt s 0 = 34 ∨ bAt s 0 = 39
  last : bAt s (s.size - 1) = bAt s 0
  all : ∀ i, 0 < i → i + 1 < s.size → bAt s i ≠ bAt s 0 ∧ bAt s i ≠ 92 ∧ 32 ≤ bAt s i ∧ bAt s i ≤ 126

set_option maxHeartbeats 4000000 in
set_option maxRecDepth 100000 in
theorem quoted_any (s : ByteArray) (w : World) (hs : s.size ≤ 9223372036854775807) : Calls Tryd.prog 40 #[.string s] w fun e w' => ∃ b : Bool, e = .returned (.bool b) ∧ w.grownBy w' none ∧ (b = true → QuotedP s) := by
  have HS := Lib.hid hs
  by_cases h2 : s.size < 2
  · have h2' : (s.size : Int) < 2 := by omega
    have h2d : decide ((s.size : Int) < 2) = true := by simp; omega
    clear hs
    go_enter Tryd.func40, Tryd.ntmps40
    go_wp2_with fail
    go_quiet (fail)
    go_wp2
    go_ret
    first | exact ⟨false, rfl, grown_drewN _ _ _, by simp⟩ | exact Or.inl ⟨rfl, grown_drewN _ _ _⟩
  · have h2' : ¬ (s.size : Int) < 2 := by omega
    have h2d : decide ((s.size : Int) < 2) = false := by simp; omega
    have hl0 : 0 < s.size := by omega
    have a1 : IntKind.i64.wrap ((s.size : Int) - 1) = (s.size : Int) - 1 := IntWalk.i64_in _ (by omega)
    have a2 : (0 : Int) ≤ (s.size : Int) - 1 := by omega
    have a3 : (1 : Int) ≤ (s.size : Int) := by omega
    have a4 : ((s.size : Int) - 1).toNat = s.size - 1 := by omega
    have a5 : s.size - 1 < s.size := by omega
    have a6 : (s.size : Int) - 1 < (s.size : Int) := by omega
    have hne : ¬ s = ByteArray.empty := by rintro rfl; simp at hl0
    have HB0 := Lib.hid (bAt_eq s 0 hl0)
    have HBL := Lib.hid (bAt_eq s (s.size - 1) a5)
    clear hs
    by_cases e34 : s[0].toNat = 34
    · have f34 : ((s[0].toNat : Int) != 34) = false := by simp; omega
      have f39 : ((s[0].toNat : Int) == 39) = false := by simp; omega
      have HQ : Hid (bAt s 0 = 34 ∨ bAt s 0 = 39) := Or.inl (by rw [← HB0.out]; exact e34)
      clear e34
      by_cases el : s[s.size - 1].toNat = s[0].toNat
      · have fl : ((s[s.size - 1].toNat : Int) != (s[0].toNat : Int)) = false := by simp; omega
        have fl' : (s[s.size - 1].toNat != s[0].toNat) = false := by simp; omega
        have HLast : Hid (bAt s (s.size - 1) = bAt s 0) := by unfold Hid; rw [← HB0.out, ← HBL.out]; exact el
        clear el
        go_enter Tryd.func40, Tryd.ntmps40
        go_wp2_with fail
        go_quiet (fail)
        go_wp2_with fail
        go_loopg [3] (s.size - 2) (fun g c wr => ∃ i : Nat, 0 < i ∧ i + 1 ≤ s.size ∧ c = .int .i64 i ∧ g = s.size - 1 - i ∧ w.grownBy wr none ∧ ∀ j, 0 < j → j < i → bAt s j ≠ bAt s 0 ∧ bAt s j ≠ 92 ∧ 32 ≤ bAt s j ∧ bAt s j ≤ 126)
        case atStart => exact ⟨1, by omega, by omega, rfl, by omega, grown_drewN _ _ _, fun j h1 h2 => by omega⟩
        case round =>
          obtain ⟨i, hi0, hi, rfl, hg, hgr, hall⟩ := hrel
          have HG := Lib.hid hg
          have HA := Lib.hid hall
          have HGR := Lib.hid hgr
          clear hg hall hgr
          by_cases hk : i + 1 < s.size
          · have hk1 : i < s.size := by omega
            have hk2 : (i : Int) < (s.size : Int) - 1 := by omega
            have a7 : IntKind.i64.wrap ((i : Int) + 1) = (i : Int) + 1 := IntWalk.i64_in _ (by have := HS.out; omega)
            have HBi := Lib.hid (bAt_eq s i hk1)
            by_cases c1 : s[i].toNat = s[0].toNat
            · have f1 : ((s[i].toNat : Int) == (s[0].toNat : Int)) = true := by simp; omega
              have f1' : (s[i].toNat == s[0].toNat) = true := by simp; omega
              clear c1
              go_wp2_with fail
              go_quiet (fail)
              go_wp2
              go_ret
              first | exact ⟨false, rfl, grown_trans HGR.out (grown_drewN _ _ _), by simp⟩ | exact Or.inl ⟨rfl, grown_trans HGR.out (grown_drewN _ _ _)⟩
            · have f1 : ((s[i].toNat : Int) == (s[0].toNat : Int)) = false := by simp; omega
              have f1' : (s[i].toNat == s[0].toNat) = false := by simp; omega
              have C1 := Lib.hid c1
              clear c1
              by_cases c2 : s[i].toNat = 92
              · have f2 : ((s[i].toNat : Int) == 92) = true := by simp; omega
                clear c2
                go_wp2_with fail
                go_quiet (fail)
                go_wp2
                go_ret
                first | exact ⟨false, rfl, grown_trans HGR.out (grown_drewN _ _ _), by simp⟩ | exact Or.inl ⟨rfl, grown_trans HGR.out (grown_drewN _ _ _)⟩
              · have f2 : ((s[i].toNat : Int) == 92) = false := by simp; omega
                have C2 := Lib.hid c2
                clear c2
                by_cases c3 : s[i].toNat < 32
                · have f3 : (s[i].toNat : Int) < 32 := by omega
                  have f3' : decide ((s[i].toNat : Int) < 32) = true := by simp; omega
                  go_wp2_with fail
                  go_quiet (fail)
                  go_wp2
                  go_ret
                  first | exact ⟨false, rfl, grown_trans HGR.out (grown_drewN _ _ _), by simp⟩ | exact Or.inl ⟨rfl, grown_trans HGR.out (grown_drewN _ _ _)⟩
                · have f3 : ¬ (s[i].toNat : Int) < 32 := by omega
                  have f3' : decide ((s[i].toNat : Int) < 32) = false := by simp; omega
                  have C3 := Lib.hid c3
                  clear c3
                  by_cases c4 : 126 < s[i].toNat
                  · have f4 : (126 : Int) < (s[i].toNat : Int) := by omega
                    have f4' : decide ((126 : Int) < (s[i].toNat : Int)) = true := by simp; omega
                    go_wp2_with fail
                    go_quiet (fail)
                    go_wp2
                    go_ret
                    first | exact ⟨false, rfl, grown_trans HGR.out (grown_drewN _ _ _), by simp⟩ | exact Or.inl ⟨rfl, grown_trans HGR.out (grown_drewN _ _ _)⟩
                  · have f4 : ¬ (126 : Int) < (s[i].toNat : Int) := by omega
                    have f4' : decide ((126 : Int) < (s[i].toNat : Int)) = false := by simp; omega
                    have C4 := Lib.hid c4
                    clear c4
                    go_wp2_with fail
                    go_quiet (fail)
                    go_wp2
                    go_roundg (s.size - 1 - (i + 1))
                    case measure => have := HG.out; omega
                    case rel => exact ⟨i + 1, by omega, by omega, rfl, rfl, grown_trans HGR.out (grown_drewN _ _ _), fun j h1 h2 => by
                      rcases Nat.lt_succ_iff_lt_or_eq.1 h2 with h3 | rfl
                      · exact HA.out j h1 h3
                      · rw [← HBi.out, ← HB0.out]; exact ⟨C1.out, C2.out, by have := C3.out; omega, by have := C4.out; omega⟩⟩
          · have hk2 : ¬ (i : Int) < (s.size : Int) - 1 := by omega
            have hki : i + 1 = s.size := by omega
            have HKI := Lib.hid hki
            clear hki
            go_wp2
            go_ret
            have hfin : QuotedP s := ⟨by omega, HQ.out, HLast.out, fun j h1 h2 => HA.out j h1 (by have := HKI.out; omega)⟩
            first | exact ⟨true, rfl, HGR.out, fun _ => hfin⟩ | exact Or.inr ⟨rfl, HGR.out, hfin⟩
      · have fl : ((s[s.size - 1].toNat : Int) != (s[0].toNat : Int)) = true := by simp; omega
        have fl' : (s[s.size - 1].toNat != s[0].toNat) = true := by simp; omega
        clear el
        go_enter Tryd.func40, Tryd.ntmps40
        go_wp2_with fail
        go_quiet (fail)
        go_wp2
        go_ret
        first | exact ⟨false, rfl, grown_drewN _ _ _, by simp⟩ | exact Or.inl ⟨rfl, grown_drewN _ _ _⟩
    · have f34 : ((s[0].toNat : Int) != 34) = true := by simp; omega
      clear e34
      by_cases e39 : s[0].toNat = 39
      · have f39 : ((s[0].toNat : Int) == 39) = true := by simp; omega
        have f39n : ((s[0].toNat : Int) != 39) = false := by simp; omega
        have HQ : Hid (bAt s 0 = 34 ∨ bAt s 0 = 39) := Or.inr (by rw [← HB0.out]; exact e39)
        clear e39
        by_cases el : s[s.size - 1].toNat = s[0].toNat
        · have fl : ((s[s.size - 1].toNat : Int) != (s[0].toNat : Int)) = false := by simp; omega
          have fl' : (s[s.size - 1].toNat != s[0].toNat) = false := by simp; omega
          have HLast : Hid (bAt s (s.size - 1) = bAt s 0) := by unfold Hid; rw [← HB0.out, ← HBL.out]; exact el
          clear el
          by_cases e3 : s.size = 3
          · have f3 : ((s.size : Int) != 3) = false := by simp; omega
            have E3 := Lib.hid e3
            clear e3
            go_enter Tryd.func40, Tryd.ntmps40
            go_wp2_with fail
            go_quiet (fail)
            go_wp2_with fail
            go_loopg [3] (s.size - 2) (fun g c wr => ∃ i : Nat, 0 < i ∧ i + 1 ≤ s.size ∧ c = .int .i64 i ∧ g = s.size - 1 - i ∧ w.grownBy wr none ∧ ∀ j, 0 < j → j < i → bAt s j ≠ bAt s 0 ∧ bAt s j ≠ 92 ∧ 32 ≤ bAt s j ∧ bAt s j ≤ 126)
            case atStart => exact ⟨1, by omega, by omega, rfl, by omega, grown_drewN _ _ _, fun j h1 h2 => by omega⟩
            case round =>
              obtain ⟨i, hi0, hi, rfl, hg, hgr, hall⟩ := hrel
              have HG := Lib.hid hg
              have HA := Lib.hid hall
              have HGR := Lib.hid hgr
              clear hg hall hgr
              by_cases hk : i + 1 < s.size
              · have hk1 : i < s.size := by omega
                have hk2 : (i : Int) < (s.size : Int) - 1 := by omega
                have a7 : IntKind.i64.wrap ((i : Int) + 1) = (i : Int) + 1 := IntWalk.i64_in _ (by have := HS.out; omega)
                have HBi := Lib.hid (bAt_eq s i hk1)
                by_cases c1 : s[i].toNat = s[0].toNat
                · have f1 : ((s[i].toNat : Int) == (s[0].toNat : Int)) = true := by simp; omega
                  have f1' : (s[i].toNat == s[0].toNat) = true := by simp; omega
                  clear c1
                  go_wp2_with fail
                  go_quiet (fail)
                  go_wp2
                  go_ret
                  first | exact ⟨false, rfl, grown_trans HGR.out (grown_drewN _ _ _), by simp⟩ | exact Or.inl ⟨rfl, grown_trans HGR.out (grown_drewN _ _ _)⟩
                · have f1 : ((s[i].toNat : Int) == (s[0].toNat : Int)) = false := by simp; omega
                  have f1' : (s[i].toNat == s[0].toNat) = false := by simp; omega
                  have C1 := Lib.hid c1
                  clear c1
                  by_cases c2 : s[i].toNat = 92
                  · have f2 : ((s[i].toNat : Int) == 92) = true := by simp; omega
                    clear c2
                    go_wp2_with fail
                    go_quiet (fail)
                    go_wp2
                    go_ret
                    first | exact ⟨false, rfl, grown_trans HGR.out (grown_drewN _ _ _), by simp⟩ | exact Or.inl ⟨rfl, grown_trans HGR.out (grown_drewN _ _ _)⟩
                  · have f2 : ((s[i].toNat : Int) == 92) = false := by simp; omega
                    have C2 := Lib.hid c2
                    clear c2
                    by_cases c3 : s[i].toNat < 32
                    · have f3 : (s[i].toNat : Int) < 32 := by omega
                      have f3' : decide ((s[i].toNat : Int) < 32) = true := by simp; omega
                      go_wp2_with fail
                      go_quiet (fail)
                      go_wp2
                      go_ret
                      first | exact ⟨false, rfl, grown_trans HGR.out (grown_drewN _ _ _), by simp⟩ | exact Or.inl ⟨rfl, grown_trans HGR.out (grown_drewN _ _ _)⟩
                    · have f3 : ¬ (s[i].toNat : Int) < 32 := by omega
                      have f3' : decide ((s[i].toNat : Int) < 32) = false := by simp; omega
                      have C3 := Lib.hid c3
                      clear c3
                      by_cases c4 : 126 < s[i].toNat
                      · have f4 : (126 : Int) < (s[i].toNat : Int) := by omega
                        have f4' : decide ((126 : Int) < (s[i].toNat : Int)) = true := by simp; omega
                        go_wp2_with fail
                        go_quiet (fail)
                        go_wp2
                        go_ret
                        first | exact ⟨false, rfl, grown_trans HGR.out (grown_drewN _ _ _), by simp⟩ | exact Or.inl ⟨rfl, grown_trans HGR.out (grown_drewN _ _ _)⟩
                      · have f4 : ¬ (126 : Int) < (s[i].toNat : Int) := by omega
                        have f4' : decide ((126 : Int) < (s[i].toNat : Int)) = false := by simp; omega
                        have C4 := Lib.hid c4
                        clear c4
                        go_wp2_with fail
                        go_quiet (fail)
                        go_wp2
                        go_roundg (s.size - 1 - (i + 1))
                        case measure => have := HG.out; omega
                        case rel => exact ⟨i + 1, by omega, by omega, rfl, rfl, grown_trans HGR.out (grown_drewN _ _ _), fun j h1 h2 => by
                          rcases Nat.lt_succ_iff_lt_or_eq.1 h2 with h3 | rfl
                          · exact HA.out j h1 h3
                          · rw [← HBi.out, ← HB0.out]; exact ⟨C1.out, C2.out, by have := C3.out; omega, by have := C4.out; omega⟩⟩
              · have hk2 : ¬ (i : Int) < (s.size : Int) - 1 := by omega
                have hki : i + 1 = s.size := by omega
                have HKI := Lib.hid hki
                clear hki
                go_wp2
                go_ret
                have hfin : QuotedP s := ⟨by omega, HQ.out, HLast.out, fun j h1 h2 => HA.out j h1 (by have := HKI.out; omega)⟩
                first | exact ⟨true, rfl, HGR.out, fun _ => hfin⟩ | exact Or.inr ⟨rfl, HGR.out, hfin⟩
          · have f3 : ((s.size : Int) != 3) = true := by simp; omega
            clear e3
            go_enter Tryd.func40, Tryd.ntmps40
            go_wp2_with fail
            go_quiet (fail)
            go_wp2
            go_ret
            first | exact ⟨false, rfl, grown_drewN _ _ _, by simp⟩ | exact Or.inl ⟨rfl, grown_drewN _ _ _⟩
        · have fl : ((s[s.size - 1].toNat : Int) != (s[0].toNat : Int)) = true := by simp; omega
          have fl' : (s[s.size - 1].toNat != s[0].toNat) = true := by simp; omega
          clear el
          go_enter Tryd.func40, Tryd.ntmps40
          go_wp2_with fail
          go_quiet (fail)
          go_wp2
          go_ret
          first | exact ⟨false, rfl, grown_drewN _ _ _, by simp⟩ | exact Or.inl ⟨rfl, grown_drewN _ _ _⟩
      · have f39n : ((s[0].toNat : Int) != 39) = true := by simp; omega
        clear e39
        go_enter Tryd.func40, Tryd.ntmps40
        go_wp2_with fail
        go_quiet (fail)
        go_wp2
        go_ret
        first | exact ⟨false, rfl, grown_drewN _ _ _, by simp⟩ | exact Or.inl ⟨rfl, grown_drewN _ _ _⟩
end Go.Proofs.YtfooeinfgmfhpaaDoor
