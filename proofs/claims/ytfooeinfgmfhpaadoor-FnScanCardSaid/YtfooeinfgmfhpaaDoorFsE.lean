/- word, One. -/
import Derived.Test.YtfooeinfgmfhpaaDoorFsD
import Derived.Test.YtfooeinfgmfhpaaDoorLgC
namespace Go.Proofs.YtfooeinfgmfhpaaDoor
open Go.RowKit

/-- Some Bool comes back, and P if it is true. -/
def BoolIf (P : Prop) (w : World) (e : Ending) (w' : World) : Prop := ∃ b : Bool, e = .returned (.bool b) ∧ w.grownBy w' none ∧ (b = true → P)

set_option maxHeartbeats 4000000 in
set_option maxRecDepth 100000 in
theorem word_any (s : ByteArray) (w : World) (hs : s.size ≤ 9223372036854775807) : Calls Tryd.prog 33 #[.string s] w (BoolIf True w) := by
  have HN := Lib.hid (name_any s w hs)
  clear hs
  by_cases h20 : s.size ≤ 20
  · have h20' : (s.size : Int) ≤ 20 := by omega
    by_cases h2 : s.size < 2
    · have h2' : (s.size : Int) < 2 := by omega
      go_enter Tryd.func33, Tryd.ntmps33
      go_wp2_with fail
      refine HN.out.mono ?_
      rintro e w' ⟨b, rfl, rfl, hb⟩
      clear hb
      cases b <;> go_wp2
      all_goals (go_ret; exact ⟨_, rfl, grown_refl _ _, fun _ => trivial⟩)
    · have h2' : ¬ (s.size : Int) < 2 := by omega
      have h0 : 0 < s.size := by omega
      go_enter Tryd.func33, Tryd.ntmps33
      go_wp2_with fail
      refine HN.out.mono ?_
      rintro e w' ⟨b, rfl, rfl, hb⟩
      clear hb
      cases b <;> go_wp2
      all_goals (go_ret; exact ⟨_, rfl, grown_refl _ _, fun _ => trivial⟩)
  · have h20' : ¬ (s.size : Int) ≤ 20 := by omega
    go_enter Tryd.func33, Tryd.ntmps33
    go_wp2_with fail
    refine HN.out.mono ?_
    rintro e w' ⟨b, rfl, rfl, hb⟩
    clear hb
    cases b <;> go_wp2
    all_goals (go_ret; exact ⟨_, rfl, grown_refl _ _, fun _ => trivial⟩)

/-- One token. -/
def OneP (s : ByteArray) : Prop := NameP s ∨ NumberP s ∨ QuotedP s ∨ isSign s = true

set_option maxHeartbeats 4000000 in
set_option maxRecDepth 100000 in
theorem one_any (s : ByteArray) (w : World) (hs : s.size ≤ 9223372036854775807) : Calls Tryd.prog 32 #[.string s] w (BoolIf (OneP s) w) := by
  have HN := Lib.hid (name_any s w hs)
  have HNu := Lib.hid (number_spec s w hs)
  have HQu := Lib.hid (quoted_any s w hs)
  clear hs
  by_cases h60 : s.size ≤ 60
  · have h60' : (s.size : Int) ≤ 60 := by omega
    go_enter Tryd.func32, Tryd.ntmps32
    go_wp2_with fail
    refine HN.out.mono ?_
    rintro e w' ⟨b, rfl, rfl, hb⟩
    cases b with
    | true =>
      have HP : Hid (OneP s) := Or.inl (hb rfl)
      clear hb
      go_wp2
      go_ret
      exact ⟨true, rfl, grown_refl _ _, fun _ => HP.out⟩
    | false =>
      clear hb
      go_wp2_with fail
      refine HNu.out.mono ?_
      rintro e w' ⟨b, rfl, rfl, hb⟩
      cases b with
      | true =>
        have HP : Hid (OneP s) := Or.inr (Or.inl (hb rfl))
        clear hb
        go_wp2
        go_ret
        exact ⟨true, rfl, grown_refl _ _, fun _ => HP.out⟩
      | false =>
        clear hb
        go_wp2_with fail
        refine HQu.out.mono ?_
        rintro e w2 ⟨b, rfl, hg2, hb⟩
        have HG2 := Lib.hid hg2
        clear hg2
        cases b with
        | true =>
          have HP : Hid (OneP s) := Or.inr (Or.inr (Or.inl (hb rfl)))
          clear hb
          go_wp2
          go_ret
          exact ⟨true, rfl, HG2.out, fun _ => HP.out⟩
        | false =>
          clear hb
          go_wp2_with fail
          refine (signs_any w2).mono ?_
          rintro e w' ⟨rfl, rfl⟩
          have HS := Lib.hid (has_any _ 48 48 _ s _ (strs_signs w2) (by decide))
          have HG := Lib.hid (World.grownBy_alloc w2 (.cells signsV 9) none)
          generalize w2.alloc (.cells signsV 9) = w3 at *
          go_wp2_with fail
          refine HS.out.mono ?_
          rintro e w' ⟨rfl, rfl⟩
          have HP : Hid (onList 48 (fun i => signs[i]?.getD ByteArray.empty) s = true → OneP s) := fun h => Or.inr (Or.inr (Or.inr h))
          generalize onList 48 (fun i => signs[i]?.getD ByteArray.empty) s = r at *
          cases r <;> go_wp2
          all_goals go_ret
          · exact ⟨false, rfl, grown_trans HG2.out HG.out, by simp⟩
          · exact ⟨true, rfl, grown_trans HG2.out HG.out, fun _ => HP.out (by simp)⟩
  · have h60' : ¬ (s.size : Int) ≤ 60 := by omega
    go_enter Tryd.func32, Tryd.ntmps32
    go_wp2
    go_ret
    exact ⟨false, rfl, grown_refl _ _, by simp⟩
end Go.Proofs.YtfooeinfgmfhpaaDoor
