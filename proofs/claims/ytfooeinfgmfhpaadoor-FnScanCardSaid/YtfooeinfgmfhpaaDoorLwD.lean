/- FnWords, walked. -/
import Derived.Test.YtfooeinfgmfhpaaDoorPuB
namespace Go.Proofs.YtfooeinfgmfhpaaDoor
open Go.RowKit

theorem nl_size (t : ByteArray) : (t ++ (⟨#[10]⟩ : ByteArray)).size = t.size + 1 := by simp [ByteArray.size_append]; rfl
theorem nl_list (t : ByteArray) : (t ++ (⟨#[10]⟩ : ByteArray)).data.toList = t.data.toList ++ [10] := by simp
theorem nl_in (t : ByteArray) (i : Nat) (h : i < t.size) : (((t ++ (⟨#[10]⟩ : ByteArray)).data.toList[i]?).getD 0).toNat = bAt t i := by
  rw [nl_list, List.getElem?_append_left (by rw [len_toList]; exact h)]; rfl
theorem nl_at (t : ByteArray) : (((t ++ (⟨#[10]⟩ : ByteArray)).data.toList[t.size]?).getD 0).toNat = 10 := by
  rw [nl_list, List.getElem?_append_right (by rw [len_toList]; omega), len_toList]; simp
theorem nl_cut (t : ByteArray) : cutB (t ++ (⟨#[10]⟩ : ByteArray)).data.toList 0 t.size = t := by
  unfold cutB
  rw [nl_list, List.drop_zero, List.take_append_of_le_length (by rw [len_toList]; omega), List.take_of_length_le (by rw [len_toList]; omega)]

theorem nl_ok (t : ByteArray) (h : t.size ≤ 999999) (ha : ∀ i, i < t.size → bAt t i < 128 ∧ bAt t i ≠ 92) : TextOk (t ++ (⟨#[10]⟩ : ByteArray)) := by
  refine ⟨by rw [nl_size]; omega, fun i hi => ?_, fun i hi => ?_, Or.inr ?_⟩
  · rw [nl_size] at hi
    rcases Nat.lt_or_ge i t.size with h1 | h1
    · rw [nl_in t i h1]; exact (ha i h1).1
    · have : i = t.size := by omega
      subst this; rw [nl_at]; omega
  · rw [nl_size] at hi
    rcases Nat.lt_or_ge i t.size with h1 | h1
    · rw [nl_in t i h1]; exact (ha i h1).2
    · have : i = t.size := by omega
      subst this; rw [nl_at]; omega
  · rw [nl_size, Nat.add_sub_cancel]; exact nl_at t

/-- What a name or a number is scanned to. -/
theorem word_scans (t : ByteArray) (h : t.size ≤ 999999) (hp : NameP t ∨ NumberP t) :
    TextOk (t ++ (⟨#[10]⟩ : ByteArray)) ∧ Scans (fun i => (((t ++ (⟨#[10]⟩ : ByteArray)).data.toList[i]?).getD 0).toNat) (t ++ (⟨#[10]⟩ : ByteArray)).size true 0 [(0, t.size)] := by
  rcases hp with hp | ⟨i0, h0, hi, hd, hall⟩
  · refine ⟨nl_ok t h (fun i hi => ?_), ?_⟩
    · rcases hp.all i hi with h1 | ⟨_, h1⟩
      · have := isLt_bounds h1; omega
      · have := isDg_bounds h1; omega
    · rw [nl_size]
      exact scans_name _ t.size hp.pos (fun i hi => by rw [nl_in t i hi]; exact hp.all i hi) (nl_at t)
  · refine ⟨nl_ok t h (fun i hi' => ?_), ?_⟩
    · rcases Nat.lt_trichotomy i i0 with h1 | h1 | h1
      · rcases h0 with h0 | ⟨h0, h46⟩
        · omega
        · have : i = 0 := by omega
          subst this; omega
      · subst h1; have := isDg_bounds hd; omega
      · rcases hall i h1 hi' with h2 | h2 | h2 | ⟨_, h2⟩
        · have := isLt_bounds h2; omega
        · have := isDg_bounds h2; omega
        · omega
        · have := isSg_bounds h2; omega
    · rw [nl_size]
      refine scans_number _ t.size i0 ?_ hi (by rw [nl_in t i0 hi]; exact hd) (fun i h1 h2 => by rw [nl_in t i h2, nl_in t (i - 1) (by omega)]; exact hall i h1 h2) (nl_at t)
      rcases h0 with h0 | ⟨h0, h46⟩
      · exact Or.inl h0
      · exact Or.inr ⟨h0, by rw [nl_in t 0 (by omega)]; exact h46⟩

set_option maxHeartbeats 4000000 in
set_option maxRecDepth 100000 in
theorem fnWords_walk (A : Option Addr) (n cap : Nat) (S : Nat → ByteArray) (w : World) (h : StrsAt w A n S) (hn : n ≤ 9223372036854775807) (hS : ∀ i, i < n → (S i).size ≤ 9223372036854775807) (h0 : 0 < w.heap.size)
    (hG : ∀ i, i < 128 → w.cell? ⟨0, i, none⟩ = some (.int .u8 (tbl i))) :
    Calls Tryd.prog 5 #[.slice A n cap] w fun e w' => e = .returned (.bool true) ∧ w.grownBy w' none := by
  have H := Lib.hid h
  have HN := Lib.hid hn
  have HSz := Lib.hid hS
  have HG := Lib.hid hG
  have HFit := Lib.hid (zzFits3_any A n cap S w h hn)
  clear h hn hS hG
  go_enter Tryd.func5, Tryd.ntmps5
  go_wp2_with fail
  refine HFit.out.mono ?_
  rintro e w' ⟨b, rfl, rfl, hb⟩
  cases b with
  | false =>
    clear hb
    go_wp2
    go_ret
    exact ⟨rfl, grown_refl _ _⟩
  | true =>
    have hn2 := hb rfl
    have HN2 := Lib.hid hn2
    clear hb hn2
    go_wp2_with fail
    go_loopg [3, 13] n (fun g c i wr => ∃ (k : Nat) (t : ByteArray), k ≤ n ∧ c = .string t ∧ i = .int .i64 k ∧ g = n - k ∧ wr = w' ∧ t.size ≤ 20 * k)
    case atStart => exact ⟨0, ByteArray.empty, Nat.zero_le _, rfl, rfl, rfl, rfl, Nat.zero_le _⟩
    case round =>
      obtain ⟨k, t, hk, rfl, rfl, hg, rfl, ht⟩ := hrel
      have HGg := Lib.hid hg
      have HT := Lib.hid ht
      clear hg ht
      by_cases hkn : k < n
      · obtain ⟨a, rfl, hc⟩ := H.out k hkn
        have hw : IntKind.i64.wrap ((k : Int) + 1) = (k : Int) + 1 := IntWalk.i64_in _ (by have := HN.out; omega)
        go_wp2_with fail
        refine (name_any (S k) _ (HSz.out k hkn)).mono ?_
        rintro e w' ⟨b1, rfl, rfl, _⟩
        cases b1 with
        | true =>
          by_cases hs : 20 < (S k).size
          · go_wp2
            go_ret
            exact ⟨rfl, grown_refl _ _⟩
          · have hs2 : ¬ (20 : Int) < ((S k).size : Int) := by omega
            have hadd : t.size + (S k).size ≤ 9223372036854775807 := by have := HT.out; have := HN2.out; omega
            have hadd2 : ¬ (9223372036854775807 : Int) < (t.size : Int) + ((S k).size : Int) := by omega
            go_wp2
            go_roundg (n - (k + 1))
            case measure => have := HGg.out; omega
            case rel => exact ⟨k + 1, t ++ S k, hkn, rfl, rfl, rfl, rfl, by have := HT.out; rw [ByteArray.size_append]; omega⟩
        | false =>
          go_wp2_with fail
          refine (number_spec (S k) _ (HSz.out k hkn)).mono ?_
          rintro e w' ⟨b2, rfl, rfl, _⟩
          cases b2 with
          | true =>
            by_cases hs : 20 < (S k).size
            · go_wp2
              go_ret
              exact ⟨rfl, grown_refl _ _⟩
            · have hs2 : ¬ (20 : Int) < ((S k).size : Int) := by omega
              have hadd : t.size + (S k).size ≤ 9223372036854775807 := by have := HT.out; have := HN2.out; omega
              have hadd2 : ¬ (9223372036854775807 : Int) < (t.size : Int) + ((S k).size : Int) := by omega
              go_wp2
              go_roundg (n - (k + 1))
              case measure => have := HGg.out; omega
              case rel => exact ⟨k + 1, t ++ S k, hkn, rfl, rfl, rfl, rfl, by have := HT.out; rw [ByteArray.size_append]; omega⟩
          | false =>
            go_wp2
            go_ret
            exact ⟨rfl, grown_refl _ _⟩
      · have hkn' : k = n := by omega
        subst hkn'
        by_cases h6 : 6 < k
        · go_wp2
          go_ret
          exact ⟨rfl, grown_refl _ _⟩
        · have h6' : decide (6 < k) = false := by rw [decide_eq_false_iff_not]; exact h6
          by_cases hz : k = 0
          · subst hz
            go_wp2
            go_ret
            exact ⟨rfl, grown_refl _ _⟩
          · have ht : t.size ≤ 120 := by have := HT.out; omega
            have HT2 := Lib.hid ht
            clear ht
            have e6 : ¬ (6 : Int) < (k : Int) := by omega
            have e0 : ((k : Int) == 0) = false := by simp; omega
            have hadd : ¬ (9223372036854775807 : Int) < (t.size : Int) + 1 := by have := HT2.out; omega
            have hadd' : t.size + 1 ≤ 9223372036854775807 := by have := HT2.out; omega
            go_wp2_with fail
            refine (name_any t _ (by have := HT2.out; omega)).mono ?_
            rintro e w' ⟨b1, rfl, rfl, hb1⟩
            cases b1 with
            | true =>
              have HP : NameP t ∨ NumberP t := Or.inl (hb1 rfl)
              clear hb1
              obtain ⟨htok, hsc⟩ := word_scans t (by have := HT2.out; omega) HP
              have hcall := implScan_any _ _ w' htok h0 HG.out hsc
              have HCall := Lib.hid hcall
              clear htok hsc hcall HP
              go_wp2_with fail
              refine HCall.out.mono ?_
              rintro e w2 ⟨v, rfl, hrow, hgr⟩
              have HGr := Lib.hid hgr
              obtain ⟨A2, c2, rfl, hform⟩ := row_form hrow
              obtain ⟨g, rfl⟩ := hform (Nat.zero_lt_one)
              have hst1 : StrsAt (w2.alloc (.cells #[.string t] 9)) (some ⟨g, 0, none⟩) 1 (fun _ => t) := by
                intro i hi
                refine ⟨_, rfl, ?_⟩
                have hcell := (own_grown0 hrow (World.grownBy_alloc w2 (.cells #[.string t] 9) none)).cells (g := g) rfl i (.string t) (by
                  have : i = 0 := by omega
                  subst this; simp only [List.map_cons, List.getElem?_cons_zero, nl_cut])
                exact hcell
              have hst2 : StrsAt (w2.alloc (.cells #[.string t] 9)) (some ⟨w2.heap.size, 0, none⟩) 1 (fun _ => t) := by
                intro i hi
                have : i = 0 := by omega
                subst this
                refine ⟨_, rfl, ?_⟩
                exact World.news_of_block (heap_alloc_new w2 (.cells #[.string t] 9)) 0 (.string t) rfl
              have HSame := Lib.hid (same_any (some ⟨g, 0, none⟩) (some ⟨w2.heap.size, 0, none⟩) 1 c2 1 (fun _ => t) _ hst1 hst2 (by decide))
              clear hgr hrow hform hst1 hst2 HCall
              go_wp2_with fail
              refine HSame.out.mono ?_
              rintro e w3 ⟨rfl, m, rfl⟩
              go_wp2
              go_ret
              exact ⟨rfl, grown_trans (grown_trans HGr.out (World.grownBy_alloc _ _ _)) (grown_drewN _ _ _)⟩
            | false =>
              clear hb1
              go_wp2_with fail
              refine (number_spec t _ (by have := HT2.out; omega)).mono ?_
              rintro e w' ⟨b2, rfl, rfl, hb2⟩
              cases b2 with
              | false =>
                go_wp2
                go_ret
                exact ⟨rfl, grown_refl _ _⟩
              | true =>
                have HP : NameP t ∨ NumberP t := Or.inr (hb2 rfl)
                clear hb2
                obtain ⟨htok, hsc⟩ := word_scans t (by have := HT2.out; omega) HP
                have hcall := implScan_any _ _ w' htok h0 HG.out hsc
                have HCall := Lib.hid hcall
                clear htok hsc hcall HP
                go_wp2_with fail
                refine HCall.out.mono ?_
                rintro e w2 ⟨v, rfl, hrow, hgr⟩
                have HGr := Lib.hid hgr
                obtain ⟨A2, c2, rfl, hform⟩ := row_form hrow
                obtain ⟨g, rfl⟩ := hform (Nat.zero_lt_one)
                have hst1 : StrsAt (w2.alloc (.cells #[.string t] 9)) (some ⟨g, 0, none⟩) 1 (fun _ => t) := by
                  intro i hi
                  refine ⟨_, rfl, ?_⟩
                  have hcell := (own_grown0 hrow (World.grownBy_alloc w2 (.cells #[.string t] 9) none)).cells (g := g) rfl i (.string t) (by
                    have : i = 0 := by omega
                    subst this; simp only [List.map_cons, List.getElem?_cons_zero, nl_cut])
                  exact hcell
                have hst2 : StrsAt (w2.alloc (.cells #[.string t] 9)) (some ⟨w2.heap.size, 0, none⟩) 1 (fun _ => t) := by
                  intro i hi
                  have : i = 0 := by omega
                  subst this
                  refine ⟨_, rfl, ?_⟩
                  exact World.news_of_block (heap_alloc_new w2 (.cells #[.string t] 9)) 0 (.string t) rfl
                have HSame := Lib.hid (same_any (some ⟨g, 0, none⟩) (some ⟨w2.heap.size, 0, none⟩) 1 c2 1 (fun _ => t) _ hst1 hst2 (by decide))
                clear hgr hrow hform hst1 hst2 HCall
                go_wp2_with fail
                refine HSame.out.mono ?_
                rintro e w3 ⟨rfl, m, rfl⟩
                go_wp2
                go_ret
                exact ⟨rfl, grown_trans (grown_trans HGr.out (World.grownBy_alloc _ _ _)) (grown_drewN _ _ _)⟩
end Go.Proofs.YtfooeinfgmfhpaaDoor
