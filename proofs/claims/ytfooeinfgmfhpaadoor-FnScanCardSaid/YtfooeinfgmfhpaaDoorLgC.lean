/- FnLongest, walked. -/
import Derived.Test.YtfooeinfgmfhpaaDoorLgB
namespace Go.Proofs.YtfooeinfgmfhpaaDoor
open Go.RowKit

theorem signs_ok : (signs.all fun x => decide (1 ≤ x.size) && decide (x.size ≤ 3) && (List.range x.size).all fun j => isS1 (bAt x j)) = true := by decide +kernel

theorem sign_bytes {x : ByteArray} (h : isSign x = true) : 1 ≤ x.size ∧ x.size ≤ 3 ∧ ∀ j, j < x.size → isS1 (bAt x j) = true := by
  have h1 := List.all_eq_true.1 signs_ok x ((isSign_iff x).1 h)
  simp only [Bool.and_eq_true, decide_eq_true_eq] at h1
  exact ⟨h1.1.1, h1.1.2, fun j hj => List.all_eq_true.1 h1.2 j (List.mem_range.2 hj)⟩

theorem bAt_append (t x : ByteArray) (j : Nat) : bAt (t ++ x) j = if j < t.size then bAt t j else bAt x (j - t.size) := by
  unfold bAt
  rw [ByteArray.data_append, Array.toList_append]
  split
  · rename_i h; rw [List.getElem?_append_left (by rw [len_toList]; exact h)]
  · rename_i h; rw [List.getElem?_append_right (by rw [len_toList]; omega), len_toList]

theorem not_pair {t : ByteArray} {j a b : Nat} (hj : j + 1 < t.size) (ha : a < 256) (hb : b < 256) (h : t.extract j (j + 2) ≠ ⟨#[UInt8.ofNat a, UInt8.ofNat b]⟩) : ¬ (bAt t j = a ∧ bAt t (j + 1) = b) := by
  rintro ⟨h1, h2⟩
  apply h
  apply WideShapes.bytes_inj
  have hl := len_toList t
  rw [ext_list, show j + 2 - j = 2 by omega, take2 (by rw [List.length_drop]; omega), List.getElem?_drop, List.getElem?_drop]
  have e1 : t.data.toList[j]?.getD 0 = UInt8.ofNat a := u8 h1 ha
  have e2 : t.data.toList[j + 1]?.getD 0 = UInt8.ofNat b := u8 h2 hb
  rw [Nat.add_zero, e1, e2]

theorem isS1_ascii {c : Nat} (h : isS1 c = true) : c < 128 ∧ c ≠ 92 := by
  simp [isS1] at h; omega

theorem sign_text (t : ByteArray) (h : ∀ j, j < t.size → isS1 (bAt t j) = true) (ho : ∀ j, j + 1 < t.size → OtherOk t j) : SignText (withNl t) t.size := by
  refine ⟨fun i hi => by rw [show withNl t i = bAt t i from nl_in t i hi]; exact h i hi, nl_at t, fun i hi => ?_⟩
  rw [show withNl t i = bAt t i from nl_in t i (by omega), show withNl t (i + 1) = bAt t (i + 1) from nl_in t (i + 1) hi]
  obtain ⟨h1, h2, h3⟩ := ho i hi
  exact ⟨not_pair hi (by decide) (by decide) h1, not_pair hi (by decide) (by decide) h2, not_pair hi (by decide) (by decide) h3⟩

theorem cuts_in {f : Nat → Nat} {N k : Nat} {l : List (Nat × Nat)} (h : Cuts f N k l) : ∀ x ∈ l, x.1 + x.2 ≤ N := by
  induction h with
  | done => intro x hx; simp at hx
  | more k l hk hf _ ih =>
    intro x hx
    rcases List.mem_cons.1 hx with rfl | hx
    · exact hf
    · exact ih x hx

theorem cut_nl (t : ByteArray) (x : Nat × Nat) (h : x.1 + x.2 ≤ t.size) : (Value.string (cutB (t ++ (⟨#[10]⟩ : ByteArray)).data.toList x.1 x.2)) = .string (cutB t.data.toList x.1 x.2) := by
  unfold cutB
  rw [nl_list, List.drop_append_of_le_length (by rw [len_toList]; omega), List.take_append_of_le_length (by rw [List.length_drop, len_toList]; omega)]

/-- A row of texts of the call's own, as a list of texts. -/
theorem strs_of_row {w : World} {b n cap : Nat} {A : Option Addr} {xs : List Value} (h : w.ownsRow b 9 1 (.slice A n cap) n xs) {α : Type} (g : α → ByteArray) (l : List α) (hl : l.length = n) (hx : xs = l.map fun x => .string (g x)) :
    StrsAt w A n (fun i => (l[i]?.map g).getD ByteArray.empty) := by
  intro i hi
  rcases h.2 with ⟨_, h0⟩ | ⟨q, cap', cur, hv, _⟩
  · omega
  · have hA : A = some ⟨q, 0, none⟩ := by injection hv
    subst hA
    refine ⟨_, rfl, ?_⟩
    have hil : i < l.length := by omega
    refine h.cells (g := q) rfl i _ ?_
    rw [hx, List.getElem?_map]
    show Option.map _ l[i]? = some (Value.string ((l[i]?.map g).getD ByteArray.empty))
    rw [List.getElem?_eq_getElem hil]
    rfl

set_option maxHeartbeats 4000000 in
set_option maxRecDepth 100000 in
theorem fnLongest_walk (A : Option Addr) (n cap : Nat) (S : Nat → ByteArray) (w : World) (h : StrsAt w A n S) (hn : n ≤ 9223372036854775807) (h0 : 0 < w.heap.size)
    (hG : ∀ i, i < 128 → w.cell? ⟨0, i, none⟩ = some (.int .u8 (tbl i))) :
    Calls Tryd.prog 3 #[.slice A n cap] w fun e w' => e = .returned (.bool true) ∧ w.grownBy w' none := by
  have H := Lib.hid h
  have HN := Lib.hid hn
  have HG := Lib.hid hG
  have HFit := Lib.hid (zzFits3_any A n cap S w h hn)
  clear h hn hG
  go_enter Tryd.func3, Tryd.ntmps3
  go_wp2_with fail
  refine HFit.out.mono ?_
  rintro e w' ⟨b, rfl, rfl, hb⟩
  cases b with
  | false =>
    clear hb
    go_wp2
    go_ret
    exact ⟨rfl, grown_refl _ _⟩
  | true =>
    have hn2 := hb rfl
    have HN2 := Lib.hid hn2
    clear hb hn2
    go_wp2_with fail
    go_loopg [3, 13] n (fun g c i wr => ∃ (k : Nat) (t : ByteArray), k ≤ n ∧ c = .string t ∧ i = .int .i64 k ∧ g = n - k ∧ w'.grownBy wr none ∧ t.size ≤ 3 * k ∧ k ≤ t.size ∧ ∀ j, j < t.size → isS1 (bAt t j) = true)
    case atStart => exact ⟨0, ByteArray.empty, Nat.zero_le _, rfl, rfl, rfl, grown_refl _ _, Nat.zero_le _, Nat.zero_le _, fun j hj => by simp at hj⟩
    case round =>
      obtain ⟨k, t, hk, rfl, rfl, hg, hgr, ht, hkt, hby⟩ := hrel
      have HGg := Lib.hid hg
      have HT := Lib.hid (And.intro ht hkt)
      have HBy0 := Lib.hid hby
      have HGR := Lib.hid hgr
      clear hg ht hkt hby hgr
      by_cases hkn : k < n
      · obtain ⟨a, rfl, hc⟩ := H.out k hkn
        have hw : IntKind.i64.wrap ((k : Int) + 1) = (k : Int) + 1 := IntWalk.i64_in _ (by have := HN.out; omega)
        have hc' : wr.cell? (a.add k) = some (.string (S k)) := by
          rw [World.cell?_of_block (w := w') (HGR.out.block _ (World.block_lt_of_cell? w' _ hc) (by simp))]; exact hc
        clear hc
        go_wp2_with fail
        refine (sign_any2 (S k) _).mono ?_
        rintro e w2 ⟨rfl, hg2⟩
        have HG2 := Lib.hid (grown_trans HGR.out hg2)
        clear hg2
        cases hsg : isSign (S k) with
        | false =>
          go_wp2
          go_ret
          exact ⟨rfl, HG2.out⟩
        | true =>
          have HSB := Lib.hid (sign_bytes hsg)
          have hadd : t.size + (S k).size ≤ 9223372036854775807 := by have := HT.out; have := HN2.out; have := HSB.out; omega
          have hadd2 : ¬ (9223372036854775807 : Int) < (t.size : Int) + ((S k).size : Int) := by omega
          clear hsg
          by_cases hsl : S k = ⟨#[47]⟩
          · go_wp2
            go_ret
            exact ⟨rfl, HG2.out⟩
          · have hsl2 : ((S k).toList == (⟨#[47]⟩ : ByteArray).toList) = false := by rw [beq_eq_false_iff_ne]; exact toList_ne hsl
            go_wp2
            all_goals first
              | (go_ret; exact ⟨rfl, HG2.out⟩)
              | skip
            go_roundg (n - (k + 1))
            case measure => have := HGg.out; omega
            case rel => exact ⟨k + 1, t ++ S k, hkn, rfl, rfl, rfl, HG2.out, by have := HT.out; have := HSB.out; rw [ByteArray.size_append]; omega, by have := HT.out; have := HSB.out; rw [ByteArray.size_append]; omega, fun j hj => by
              rw [ByteArray.size_append] at hj
              rw [bAt_append]
              split
              · rename_i h; exact HBy0.out j h
              · exact HSB.out.2.2 _ (by omega)⟩
      · have hkn' : k = n := by omega
        subst hkn'
        have hGw : ∀ i, i < 128 → wr.cell? ⟨0, i, none⟩ = some (.int .u8 (tbl i)) := fun i hi => by
          rw [← HG.out i hi]; exact World.cell?_of_block (HGR.out.block 0 h0 (by simp))
        have HGw := Lib.hid hGw
        have h0w : 0 < wr.heap.size := Nat.lt_of_lt_of_le h0 HGR.out.size
        clear hGw
        by_cases h6 : 12 < k
        · go_wp2
          go_ret
          exact ⟨rfl, HGR.out⟩
        · by_cases hz : k = 0
          · subst hz
            go_wp2
            go_ret
            exact ⟨rfl, HGR.out⟩
          · have e6 : ¬ (12 : Int) < (k : Int) := by omega
            have e0 : ((k : Int) == 0) = false := by simp; omega
            have ht0 : 0 < t.size := by have := HT.out; omega
            have ht : t.size ≤ 36 := by have := HT.out; omega
            have HT2 := Lib.hid ht
            clear ht
            have hne : ¬ t = ByteArray.empty := by rintro rfl; simp at ht0
            have HB0 := Lib.hid (bAt_eq t 0 ht0)
            by_cases h35 : t[0].toNat = 35
            · have f35 : (((t[0].toNat : Nat) : Int) == 35) = true := by simp; omega
              clear h35
              go_wp2
              go_ret
              exact ⟨rfl, HGR.out⟩
            · have f35 : (((t[0].toNat : Nat) : Int) == 35) = false := by simp; omega
              have HFst : Hid (0 < t.size → withNl t 0 ≠ 35) := fun _ => by rw [show withNl t 0 = bAt t 0 from nl_in t 0 ht0, ← HB0.out]; exact h35
              clear h35
              go_wp2_with fail
              refine (other_any t _ (by have := HT2.out; omega)).mono ?_
              rintro e w2 ⟨b, rfl, rfl, hb⟩
              cases b with
              | true =>
                clear hb
                go_wp2
                go_ret
                exact ⟨rfl, HGR.out⟩
              | false =>
                have HSig := Lib.hid (sign_text t HBy0.out (hb rfl))
                have HBy : Hid (∀ i, i < t.size → bAt t i < 128 ∧ bAt t i ≠ 92) := fun i hi => isS1_ascii (HBy0.out i hi)
                have hadd : ¬ (9223372036854775807 : Int) < (t.size : Int) + 1 := by have := HT2.out; omega
                have hadd' : t.size + 1 ≤ 9223372036854775807 := by have := HT2.out; omega
                clear hb
                obtain ⟨l, hcuts⟩ := HSig.out.cuts (t.size) 0 (by omega) (Nat.zero_le _)
                have hok := nl_ok t (by have := HT2.out; omega) HBy.out
                have hscan := HSig.out.scans hcuts true (fun _ h0 => HFst.out h0)
                have hcall := implScan_any _ l w2 hok h0w HGw.out (by rw [nl_size]; exact hscan)
                have HCall := Lib.hid hcall
                have HCuts := Lib.hid hcuts
                clear hok hscan hcall hcuts
                go_wp2_with fail
                refine HCall.out.mono ?_
                rintro e w5 ⟨v, rfl, hrow, hgr⟩
                have HGr := Lib.hid hgr
                have HRow := Lib.hid hrow
                obtain ⟨A2, c2, rfl, hform⟩ := row_form hrow
                have HForm := Lib.hid hform
                clear hrow hgr hform HCall
                go_wp2_with fail
                refine (longest_any t l w5 (by have := HT2.out; omega) HSig.out HCuts.out).mono ?_
                rintro e w3 ⟨v, rfl, hLon⟩
                obtain ⟨A3, c3, rfl, hform3⟩ := row_form hLon.row
                have hst1 := strs_of_row (own_grown0 HRow.out hLon.gr) (fun x : Nat × Nat => cutB t.data.toList x.1 x.2) l rfl (by
                  refine List.map_congr_left fun x hx => ?_
                  rw [cut_nl t x (cuts_in HCuts.out x hx)])
                have hst2 := strs_of_row hLon.row (fun x : Nat × Nat => cutB t.data.toList x.1 x.2) l rfl rfl
                have hlen : l.length ≤ 9223372036854775807 := by have := HCuts.out.count; have := HT2.out; omega
                have HSame := Lib.hid (same_any A2 A3 l.length c2 c3 _ w3 hst1 hst2 hlen)
                have HGr3 := Lib.hid hLon.gr
                clear hLon hform3 hst1 hst2 hlen
                go_wp2_with fail
                refine HSame.out.mono ?_
                rintro e w4 ⟨rfl, m, rfl⟩
                go_wp2
                go_ret
                exact ⟨rfl, grown_trans (grown_trans (grown_trans HGR.out HGr.out) HGr3.out) (grown_drewN _ _ _)⟩
end Go.Proofs.YtfooeinfgmfhpaaDoor
