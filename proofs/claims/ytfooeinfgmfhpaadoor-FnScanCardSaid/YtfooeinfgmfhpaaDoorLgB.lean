/- Longest. -/
import Derived.Test.YtfooeinfgmfhpaaDoorPuD
namespace Go.Proofs.YtfooeinfgmfhpaaDoor
open Go.RowKit

theorem ownsRow_zero {w : World} {g b : Nat} (h : w.heap[g]? = some (.cells #[] 9 (0, 0))) (hb : b ≤ g) : w.ownsRow b 9 1 (.slice (some ⟨g, 0, none⟩) 0 0) 0 [] :=
  ⟨rfl, Or.inr ⟨g, 0, #[], rfl, hb, h, by decide, by unfold maxLen; omega, rfl, rfl⟩⟩

/-- While Longest goes on. -/
structure Lon (w : World) (t : ByteArray) (p : List (Nat × Nat)) (out : Value) (wr : World) : Prop where
  row : wr.ownsRow w.heap.size 9 1 out p.length (p.map fun x => .string (cutB t.data.toList x.1 x.2))
  gr : w.grownBy wr none

theorem Lon.grown {w wr w' : World} {t : ByteArray} {p : List (Nat × Nat)} {out : Value} (h : Lon w t p out wr) (hg : wr.grownBy w' none) : Lon w t p out w' := ⟨own_grown0 h.row hg, grown_trans h.gr hg⟩

theorem Lon.more {w wr w' : World} {t : ByteArray} {p : List (Nat × Nat)} {out out' : Value} {x : Nat × Nat} (h : Lon w t p out wr)
    (ho : w'.ownsRow w.heap.size 9 1 out' (p.length + 1) ((p.map fun x => .string (cutB t.data.toList x.1 x.2)) ++ [.string (cutB t.data.toList x.1 x.2)])) (hg : wr.grownBy w' out.ownBlock) : Lon w t (p ++ [x]) out' w' := by
  refine ⟨by rw [List.length_append, List.map_append]; exact ho, ?_⟩
  exact ⟨hg.os.trans h.gr.os, hg.tape.trans h.gr.tape, hg.output.trans h.gr.output, Nat.le_trans h.gr.size hg.size, fun k hk _ => (hg.block k (Nat.lt_of_lt_of_le hk h.gr.size) (fun e => by have := h.row.lt k e.symm; omega)).trans (h.gr.block k hk (by simp))⟩

theorem ext_cut {t u : ByteArray} {k n : Nat} (hu : u.data.toList = t.data.toList.drop k) : u.extract 0 n = cutB t.data.toList k n := by
  apply WideShapes.bytes_inj
  rw [ext_list, hu, List.drop_zero, Nat.sub_zero]
  rfl
theorem ext_rest {t u : ByteArray} {k n : Nat} (hu : u.data.toList = t.data.toList.drop k) : (u.extract n u.size).data.toList = t.data.toList.drop (k + n) := by
  have hl : u.data.toList.length = u.size := len_toList u
  rw [ext_list, List.take_of_length_le (by rw [List.length_drop, hl]; exact Nat.le_refl _), hu, List.drop_drop]

set_option maxHeartbeats 4000000 in
set_option maxRecDepth 100000 in
theorem longest_any (t : ByteArray) (l : List (Nat × Nat)) (w : World) (ht : t.size ≤ 1000) (hS : SignText (withNl t) t.size) (hl : Cuts (withNl t) t.size 0 l) :
    Calls Tryd.prog 11 #[.string t] w fun e w' => ∃ v, e = .returned v ∧ Lon w t l v w' := by
  have HS := Lib.hid hS
  have HL := Lib.hid hl
  have HT := Lib.hid ht
  clear hS hl ht
  go_enter Tryd.func11, Tryd.ntmps11
  go_wp2_with fail
  have hL0 : Hid (Lon w t [] (.slice (some ⟨w.heap.size, 0, none⟩) 0 0) (w.alloc (.cells #[] 9))) := ⟨ownsRow_zero (heap_alloc_new _ _) (Nat.le_refl _), World.grownBy_alloc _ _ _⟩
  generalize w.alloc (.cells #[] 9) = w1 at *
  go_loopg [0, 3] t.size (fun g s v wr => ∃ (u : ByteArray) (k : Nat) (p l2 : List (Nat × Nat)), s = .string u ∧ u.data.toList = t.data.toList.drop k ∧ p ++ l2 = l ∧ Cuts (withNl t) t.size k l2 ∧ g = t.size - k ∧ Lon w t p v wr)
  case atStart => exact ⟨t, 0, [], l, rfl, rfl, rfl, HL.out, rfl, hL0.out⟩
  case round =>
    obtain ⟨u, k, p, l2, rfl, hu, hpl, hc, hg, hLon⟩ := hrel
    have HG := Lib.hid hg
    have HU := Lib.hid hu
    have HP := Lib.hid hpl
    have HC := Lib.hid hc
    have HLo := Lib.hid hLon
    have hus : u.size = t.size - k := by
      have := congrArg List.length hu
      rw [len_toList, List.length_drop, len_toList] at this; exact this
    have HUS := Lib.hid hus
    clear hg hu hpl hc hLon hL0 hus
    by_cases hk : k < t.size
    · have hpos : 0 < u.size := by have := HUS.out; omega
      by_cases h3 : 3 ≤ u.size
      · have h3' : (3 : Int) ≤ (u.size : Int) := by omega
        have hne : ¬ u = ByteArray.empty := by rintro rfl; simp at hpos
        go_wp2_with fail
        go_loopg [4] 3 (fun g c wr => ∃ n : Nat, c = .int .i64 n ∧ 1 ≤ n ∧ n ≤ 3 ∧ g = n ∧ (∀ m, n < m → m ≤ 3 → isSign (u.extract 0 m) = false) ∧ Lon w t p u3 wr)
        case atStart => exact ⟨3, rfl, by omega, Nat.le_refl _, rfl, fun m h1 h2 => by omega, HLo.out⟩
        case round =>
          obtain ⟨n, rfl, hn1, hn2, hg2, hno0, hL2⟩ := hrel
          have hno := Lib.hid hno0
          have HL20 := Lib.hid hL2
          have HG2 := Lib.hid hg2
          have hnu : n ≤ u.size := by omega
          have hnu' : (n : Int) ≤ (u.size : Int) := by omega
          clear hno0 hL2 hg2
          by_cases h1 : 1 < n
          · have h1' : (1 : Int) < (n : Int) := by omega
            go_wp2_with fail
            refine (sign_any2 _ _).mono ?_
            rintro e w4 ⟨rfl, hg4⟩
            have HL2 := Lib.hid (HL20.out.grown hg4)
            clear hg4
            cases hsg : isSign (u.extract 0 n) with
            | false =>
              have hsub : IntKind.i64.wrap ((n : Int) - 1) = ((n - 1 : Nat) : Int) := by rw [IntWalk.i64_in _ (by omega)]; omega
              go_wp2
              go_roundg (n - 1)
              case measure => have := HG2.out; omega
              case rel => exact ⟨n - 1, rfl, by omega, by omega, rfl, fun m h5 h6 => by
                rcases Nat.lt_or_ge n m with h | h
                · exact hno.out m h h6
                · have : m = n := by omega
                  subst this; exact hsg, HL2.out⟩
            | true =>
              generalize w4 = wr at *
              have hlen := lon_len HS.out hk HU.out hn1 (by omega) (by have := HUS.out; omega) (Or.inr hsg) (fun m h1 h2 h3 => hno.out m h1 (by have := HUS.out; omega))
              have HLen := Lib.hid hlen
              have hT5 := HL2.out.grown (World.grownBy_alloc wr (.cells #[.string (u.extract 0 n)] 9) none)
              have HT5 := Lib.hid hT5
              have hown := hT5.row
              have hgs := hT5.gr.size
              have hpl2 : p.length ≤ 1000 := by have := congrArg List.length HP.out; rw [List.length_append] at this; have := HL.out.count; have := HT.out; omega
              obtain ⟨i0, hi, hz0, hz1, hz2⟩ := info_parts info9
              have q1 := Lib.hid (World.news_of_block (heap_alloc_new wr (.cells #[.string (u.extract 0 n)] 9)))
              have q2 : Hid (∀ x ∈ [Value.string (u.extract 0 n)], x.oneCell' = true) := fun x hx => by simp at hx; subst hx; rfl
              have q3 : Hid (p.length + 1 ≤ maxLen) := by unfold Hid maxLen; omega
              have q4 : Hid ((p.length + 1) * 16 ≤ 140737488355328) := by unfold Hid; omega
              have q5 : Hid ((wr.alloc (.cells #[.string (u.extract 0 n)] 9)).heap.size = wr.heap.size + 1) := by unfold Hid; simp
              have q6 := Lib.hid hgs
              clear hT5 hlen hgs
              go_wp2_with (at_builtin; go_loud (refine wpList_append_lies _ rfl _ _ 22 rfl w.heap.size 9 i0 (.string ByteArray.empty) 1 16 Tryd.underlying22 hi hz0 hz1 hz2 rfl (by decide) _ p.length _ rfl hown ⟨wr.heap.size, 0, none⟩ 1 1 [.string (u.extract 0 n)] rfl rfl q1.out q2.out (by decide) q3.out q4.out q6.out (wr.heap.size + 1) q5.out ?_))
              · intro g' cap w5 hown' hgrow _ _
                have HH := Lib.hid (HT5.out.more (x := (k, n)) (by rw [ext_cut HU.out] at hown'; exact hown') hgrow)
                clear hown' hgrow hown hi hz0 hz1 hz2
                go_wp2
                go_roundg (t.size - (k + n))
                case measure => have := HG.out; omega
                case rel =>
                  have hc := HC.out
                  cases hc with
                  | done => omega
                  | more _ l3 _ _ hc3 => exact ⟨u.extract n u.size, k + n, p ++ [(k, n)], l3, rfl, ext_rest HU.out, by rw [← HP.out, HLen.out]; simp, by rw [HLen.out]; exact hc3, rfl, HH.out⟩
          · have HL2 := HL20
            have h1' : ¬ (1 : Int) < (n : Int) := by omega
            have hn1' : n = 1 := by omega
            have HNE := Lib.hid hn1'
            clear hn1'
            have hlen := lon_len HS.out hk HU.out hn1 (by omega) (by have := HUS.out; omega) (Or.inl HNE.out) (fun m h1 h2 h3 => hno.out m h1 (by have := HUS.out; omega))
            have HLen := Lib.hid hlen
            have hT5 := HL2.out.grown (World.grownBy_alloc wr (.cells #[.string (u.extract 0 n)] 9) none)
            have HT5 := Lib.hid hT5
            have hown := hT5.row
            have hgs := hT5.gr.size
            have hpl2 : p.length ≤ 1000 := by have := congrArg List.length HP.out; rw [List.length_append] at this; have := HL.out.count; have := HT.out; omega
            obtain ⟨i0, hi, hz0, hz1, hz2⟩ := info_parts info9
            have q1 := Lib.hid (World.news_of_block (heap_alloc_new wr (.cells #[.string (u.extract 0 n)] 9)))
            have q2 : Hid (∀ x ∈ [Value.string (u.extract 0 n)], x.oneCell' = true) := fun x hx => by simp at hx; subst hx; rfl
            have q3 : Hid (p.length + 1 ≤ maxLen) := by unfold Hid maxLen; omega
            have q4 : Hid ((p.length + 1) * 16 ≤ 140737488355328) := by unfold Hid; omega
            have q5 : Hid ((wr.alloc (.cells #[.string (u.extract 0 n)] 9)).heap.size = wr.heap.size + 1) := by unfold Hid; simp
            have q6 := Lib.hid hgs
            clear hT5 hlen hgs
            go_wp2_with (at_builtin; go_loud (refine wpList_append_lies _ rfl _ _ 22 rfl w.heap.size 9 i0 (.string ByteArray.empty) 1 16 Tryd.underlying22 hi hz0 hz1 hz2 rfl (by decide) _ p.length _ rfl hown ⟨wr.heap.size, 0, none⟩ 1 1 [.string (u.extract 0 n)] rfl rfl q1.out q2.out (by decide) q3.out q4.out q6.out (wr.heap.size + 1) q5.out ?_))
            · intro g' cap w5 hown' hgrow _ _
              have HH := Lib.hid (HT5.out.more (x := (k, n)) (by rw [ext_cut HU.out] at hown'; exact hown') hgrow)
              clear hown' hgrow hown hi hz0 hz1 hz2
              go_wp2
              go_roundg (t.size - (k + n))
              case measure => have := HG.out; omega
              case rel =>
                have hc := HC.out
                cases hc with
                | done => omega
                | more _ l3 _ _ hc3 => exact ⟨u.extract n u.size, k + n, p ++ [(k, n)], l3, rfl, ext_rest HU.out, by rw [← HP.out, HLen.out]; simp, by rw [HLen.out]; exact hc3, rfl, HH.out⟩
      · have h3' : (u.size : Int) ≤ 3 := by omega
        have h3'' : ¬ (3 : Int) ≤ (u.size : Int) := by omega
        have hne : ¬ u = ByteArray.empty := by rintro rfl; simp at hpos
        go_wp2_with fail
        go_loopg [4] u.size (fun g c wr => ∃ n : Nat, c = .int .i64 n ∧ 1 ≤ n ∧ n ≤ u.size ∧ g = n ∧ (∀ m, n < m → m ≤ u.size → isSign (u.extract 0 m) = false) ∧ Lon w t p u3 wr)
        case atStart => exact ⟨u.size, rfl, by omega, Nat.le_refl _, rfl, fun m h1 h2 => by omega, HLo.out⟩
        case round =>
          obtain ⟨n, rfl, hn1, hn2, hg2, hno0, hL2⟩ := hrel
          have hno := Lib.hid hno0
          have HL20 := Lib.hid hL2
          have HG2 := Lib.hid hg2
          have hnu : n ≤ u.size := by omega
          have hnu' : (n : Int) ≤ (u.size : Int) := by omega
          clear hno0 hL2 hg2
          by_cases h1 : 1 < n
          · have h1' : (1 : Int) < (n : Int) := by omega
            go_wp2_with fail
            refine (sign_any2 _ _).mono ?_
            rintro e w4 ⟨rfl, hg4⟩
            have HL2 := Lib.hid (HL20.out.grown hg4)
            clear hg4
            cases hsg : isSign (u.extract 0 n) with
            | false =>
              have hsub : IntKind.i64.wrap ((n : Int) - 1) = ((n - 1 : Nat) : Int) := by rw [IntWalk.i64_in _ (by omega)]; omega
              go_wp2
              go_roundg (n - 1)
              case measure => have := HG2.out; omega
              case rel => exact ⟨n - 1, rfl, by omega, by omega, rfl, fun m h5 h6 => by
                rcases Nat.lt_or_ge n m with h | h
                · exact hno.out m h h6
                · have : m = n := by omega
                  subst this; exact hsg, HL2.out⟩
            | true =>
              generalize w4 = wr at *
              have hlen := lon_len HS.out hk HU.out hn1 (by omega) (by have := HUS.out; omega) (Or.inr hsg) (fun m h1 h2 h3 => hno.out m h1 (by have := HUS.out; omega))
              have HLen := Lib.hid hlen
              have hT5 := HL2.out.grown (World.grownBy_alloc wr (.cells #[.string (u.extract 0 n)] 9) none)
              have HT5 := Lib.hid hT5
              have hown := hT5.row
              have hgs := hT5.gr.size
              have hpl2 : p.length ≤ 1000 := by have := congrArg List.length HP.out; rw [List.length_append] at this; have := HL.out.count; have := HT.out; omega
              obtain ⟨i0, hi, hz0, hz1, hz2⟩ := info_parts info9
              have q1 := Lib.hid (World.news_of_block (heap_alloc_new wr (.cells #[.string (u.extract 0 n)] 9)))
              have q2 : Hid (∀ x ∈ [Value.string (u.extract 0 n)], x.oneCell' = true) := fun x hx => by simp at hx; subst hx; rfl
              have q3 : Hid (p.length + 1 ≤ maxLen) := by unfold Hid maxLen; omega
              have q4 : Hid ((p.length + 1) * 16 ≤ 140737488355328) := by unfold Hid; omega
              have q5 : Hid ((wr.alloc (.cells #[.string (u.extract 0 n)] 9)).heap.size = wr.heap.size + 1) := by unfold Hid; simp
              have q6 := Lib.hid hgs
              clear hT5 hlen hgs
              go_wp2_with (at_builtin; go_loud (refine wpList_append_lies _ rfl _ _ 22 rfl w.heap.size 9 i0 (.string ByteArray.empty) 1 16 Tryd.underlying22 hi hz0 hz1 hz2 rfl (by decide) _ p.length _ rfl hown ⟨wr.heap.size, 0, none⟩ 1 1 [.string (u.extract 0 n)] rfl rfl q1.out q2.out (by decide) q3.out q4.out q6.out (wr.heap.size + 1) q5.out ?_))
              · intro g' cap w5 hown' hgrow _ _
                have HH := Lib.hid (HT5.out.more (x := (k, n)) (by rw [ext_cut HU.out] at hown'; exact hown') hgrow)
                clear hown' hgrow hown hi hz0 hz1 hz2
                go_wp2
                go_roundg (t.size - (k + n))
                case measure => have := HG.out; omega
                case rel =>
                  have hc := HC.out
                  cases hc with
                  | done => omega
                  | more _ l3 _ _ hc3 => exact ⟨u.extract n u.size, k + n, p ++ [(k, n)], l3, rfl, ext_rest HU.out, by rw [← HP.out, HLen.out]; simp, by rw [HLen.out]; exact hc3, rfl, HH.out⟩
          · have HL2 := HL20
            have h1' : ¬ (1 : Int) < (n : Int) := by omega
            have hn1' : n = 1 := by omega
            have HNE := Lib.hid hn1'
            clear hn1'
            have hlen := lon_len HS.out hk HU.out hn1 (by omega) (by have := HUS.out; omega) (Or.inl HNE.out) (fun m h1 h2 h3 => hno.out m h1 (by have := HUS.out; omega))
            have HLen := Lib.hid hlen
            have hT5 := HL2.out.grown (World.grownBy_alloc wr (.cells #[.string (u.extract 0 n)] 9) none)
            have HT5 := Lib.hid hT5
            have hown := hT5.row
            have hgs := hT5.gr.size
            have hpl2 : p.length ≤ 1000 := by have := congrArg List.length HP.out; rw [List.length_append] at this; have := HL.out.count; have := HT.out; omega
            obtain ⟨i0, hi, hz0, hz1, hz2⟩ := info_parts info9
            have q1 := Lib.hid (World.news_of_block (heap_alloc_new wr (.cells #[.string (u.extract 0 n)] 9)))
            have q2 : Hid (∀ x ∈ [Value.string (u.extract 0 n)], x.oneCell' = true) := fun x hx => by simp at hx; subst hx; rfl
            have q3 : Hid (p.length + 1 ≤ maxLen) := by unfold Hid maxLen; omega
            have q4 : Hid ((p.length + 1) * 16 ≤ 140737488355328) := by unfold Hid; omega
            have q5 : Hid ((wr.alloc (.cells #[.string (u.extract 0 n)] 9)).heap.size = wr.heap.size + 1) := by unfold Hid; simp
            have q6 := Lib.hid hgs
            clear hT5 hlen hgs
            go_wp2_with (at_builtin; go_loud (refine wpList_append_lies _ rfl _ _ 22 rfl w.heap.size 9 i0 (.string ByteArray.empty) 1 16 Tryd.underlying22 hi hz0 hz1 hz2 rfl (by decide) _ p.length _ rfl hown ⟨wr.heap.size, 0, none⟩ 1 1 [.string (u.extract 0 n)] rfl rfl q1.out q2.out (by decide) q3.out q4.out q6.out (wr.heap.size + 1) q5.out ?_))
            · intro g' cap w5 hown' hgrow _ _
              have HH := Lib.hid (HT5.out.more (x := (k, n)) (by rw [ext_cut HU.out] at hown'; exact hown') hgrow)
              clear hown' hgrow hown hi hz0 hz1 hz2
              go_wp2
              go_roundg (t.size - (k + n))
              case measure => have := HG.out; omega
              case rel =>
                have hc := HC.out
                cases hc with
                | done => omega
                | more _ l3 _ _ hc3 => exact ⟨u.extract n u.size, k + n, p ++ [(k, n)], l3, rfl, ext_rest HU.out, by rw [← HP.out, HLen.out]; simp, by rw [HLen.out]; exact hc3, rfl, HH.out⟩
    · have hu0 : u = ByteArray.empty := by
        have : u.size = 0 := by have := HUS.out; omega
        obtain ⟨d⟩ := u
        have : d.size = 0 := this
        have : d = #[] := Array.eq_empty_of_size_eq_zero this
        subst this; rfl
      subst hu0
      have hc := HC.out
      have hl2 : l2 = [] := by cases hc with | done => rfl | more _ _ h _ _ => omega
      have hp : p = l := by rw [← HP.out, hl2]; simp
      go_wp2
      go_ret
      exact ⟨_, rfl, by rw [← hp]; exact HLo.out⟩
end Go.Proofs.YtfooeinfgmfhpaaDoor
