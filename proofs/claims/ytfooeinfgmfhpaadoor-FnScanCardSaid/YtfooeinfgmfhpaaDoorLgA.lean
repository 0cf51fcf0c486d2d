/- Signs, has, Sign, Other. -/
import Derived.Test.YtfooeinfgmfhpaaDoorLwB
import Derived.Test.YtfooeinfgmfhpaaDoorScT
import Derived.Test.YtfooeinfgmfhpaaDoorPuC
import Derived.WideShapes
namespace Go.Proofs.YtfooeinfgmfhpaaDoor
open Go.RowKit

def signs : List ByteArray := [⟨#[46, 46, 46]⟩, ⟨#[60, 60, 61]⟩, ⟨#[62, 62, 61]⟩, ⟨#[45, 62]⟩, ⟨#[43, 43]⟩, ⟨#[45, 45]⟩, ⟨#[60, 60]⟩, ⟨#[62, 62]⟩, ⟨#[60, 61]⟩, ⟨#[62, 61]⟩, ⟨#[61, 61]⟩, ⟨#[33, 61]⟩, ⟨#[38, 38]⟩, ⟨#[124, 124]⟩, ⟨#[42, 61]⟩, ⟨#[47, 61]⟩, ⟨#[37, 61]⟩, ⟨#[43, 61]⟩, ⟨#[45, 61]⟩, ⟨#[38, 61]⟩, ⟨#[94, 61]⟩, ⟨#[124, 61]⟩, ⟨#[35, 35]⟩, ⟨#[91]⟩, ⟨#[93]⟩, ⟨#[40]⟩, ⟨#[41]⟩, ⟨#[123]⟩, ⟨#[125]⟩, ⟨#[46]⟩, ⟨#[38]⟩, ⟨#[42]⟩, ⟨#[43]⟩, ⟨#[45]⟩, ⟨#[126]⟩, ⟨#[33]⟩, ⟨#[47]⟩, ⟨#[37]⟩, ⟨#[60]⟩, ⟨#[62]⟩, ⟨#[94]⟩, ⟨#[124]⟩, ⟨#[63]⟩, ⟨#[58]⟩, ⟨#[59]⟩, ⟨#[61]⟩, ⟨#[44]⟩, ⟨#[35]⟩]
def signsV : Array Value := #[.string ⟨#[46, 46, 46]⟩, .string ⟨#[60, 60, 61]⟩, .string ⟨#[62, 62, 61]⟩, .string ⟨#[45, 62]⟩, .string ⟨#[43, 43]⟩, .string ⟨#[45, 45]⟩, .string ⟨#[60, 60]⟩, .string ⟨#[62, 62]⟩, .string ⟨#[60, 61]⟩, .string ⟨#[62, 61]⟩, .string ⟨#[61, 61]⟩, .string ⟨#[33, 61]⟩, .string ⟨#[38, 38]⟩, .string ⟨#[124, 124]⟩, .string ⟨#[42, 61]⟩, .string ⟨#[47, 61]⟩, .string ⟨#[37, 61]⟩, .string ⟨#[43, 61]⟩, .string ⟨#[45, 61]⟩, .string ⟨#[38, 61]⟩, .string ⟨#[94, 61]⟩, .string ⟨#[124, 61]⟩, .string ⟨#[35, 35]⟩, .string ⟨#[91]⟩, .string ⟨#[93]⟩, .string ⟨#[40]⟩, .string ⟨#[41]⟩, .string ⟨#[123]⟩, .string ⟨#[125]⟩, .string ⟨#[46]⟩, .string ⟨#[38]⟩, .string ⟨#[42]⟩, .string ⟨#[43]⟩, .string ⟨#[45]⟩, .string ⟨#[126]⟩, .string ⟨#[33]⟩, .string ⟨#[47]⟩, .string ⟨#[37]⟩, .string ⟨#[60]⟩, .string ⟨#[62]⟩, .string ⟨#[94]⟩, .string ⟨#[124]⟩, .string ⟨#[63]⟩, .string ⟨#[58]⟩, .string ⟨#[59]⟩, .string ⟨#[61]⟩, .string ⟨#[44]⟩, .string ⟨#[35]⟩]
theorem signsV_at : ∀ i, i < 48 → signsV[i]? = some (.string (signs[i]?.getD ByteArray.empty)) := by
  have h : signsV.toList = signs.map Value.string := rfl
  intro i hi
  have hl : signs.length = 48 := rfl
  rw [← Array.getElem?_toList, h, List.getElem?_map, List.getElem?_eq_getElem (by omega)]
  rfl

set_option maxHeartbeats 4000000 in
set_option maxRecDepth 100000 in
theorem signs_any (w : World) : Calls Tryd.prog 20 #[] w fun e w' => e = .returned (.slice (some ⟨w.heap.size, 0, none⟩) 48 48) ∧ w' = w.alloc (.cells signsV 9) := by
  go_enter Tryd.func20, Tryd.ntmps20
  go_wp2
  go_ret
  exact ⟨rfl, rfl⟩

theorem toList_ne {a b : ByteArray} (h : a ≠ b) : a.toList ≠ b.toList := by
  rw [ByteArray.toList_eq, ByteArray.toList_eq]
  exact fun e => h (WideShapes.bytes_inj e)

/-- The text is on the list. -/
def onList (n : Nat) (S : Nat → ByteArray) (s : ByteArray) : Bool := (List.range n).any fun i => decide (S i = s)

set_option maxHeartbeats 4000000 in
set_option maxRecDepth 100000 in
theorem has_any (A : Option Addr) (n cap : Nat) (S : Nat → ByteArray) (s : ByteArray) (w : World) (h : StrsAt w A n S) (hn : n ≤ 9223372036854775807) :
    Calls Tryd.prog 19 #[.slice A n cap, .string s] w fun e w' => e = .returned (.bool (onList n S s)) ∧ w' = w := by
  have H := Lib.hid h
  have HN := Lib.hid hn
  clear h hn
  go_enter Tryd.func19, Tryd.ntmps19
  go_wp2_with fail
  go_loopg [9] n (fun g c wr => ∃ i : Nat, i ≤ n ∧ c = .int .i64 i ∧ g = n - i ∧ wr = w ∧ ∀ j, j < i → S j ≠ s)
  case atStart => exact ⟨0, Nat.zero_le _, rfl, rfl, rfl, fun j hj => by omega⟩
  case round =>
    obtain ⟨i, hi, rfl, hg, rfl, hall⟩ := hrel
    have HG := Lib.hid hg
    have HA := Lib.hid hall
    clear hg hall
    by_cases hk : i < n
    · obtain ⟨a, rfl, hc⟩ := H.out i hk
      have hw : IntKind.i64.wrap ((i : Int) + 1) = (i : Int) + 1 := IntWalk.i64_in _ (by have := HN.out; omega)
      by_cases he : S i = s
      · have hr : onList n S s = true := List.any_eq_true.2 ⟨i, List.mem_range.2 hk, decide_eq_true he⟩
        rw [he] at hc
        go_wp2
        go_ret
        exact ⟨by rw [hr]; rfl, rfl⟩
      · have he2 : ((S i).toList == s.toList) = false := by rw [beq_eq_false_iff_ne]; exact toList_ne he
        go_wp2
        go_roundg (n - (i + 1))
        case measure => have := HG.out; omega
        case rel => exact ⟨i + 1, hk, rfl, rfl, rfl, fun j hj => by
          rcases Nat.lt_succ_iff_lt_or_eq.1 hj with h | rfl
          · exact HA.out j h
          · exact he⟩
    · have hk' : i = n := by omega
      subst hk'
      have hr : onList i S s = false := List.any_eq_false.2 fun j hj => by
        have := HA.out j (List.mem_range.1 hj)
        simpa using this
      go_wp2
      go_ret
      exact ⟨by rw [hr]; rfl, rfl⟩
/-- The text is a sign. -/
def isSign (u : ByteArray) : Bool := onList 48 (fun i => signs[i]?.getD ByteArray.empty) u

theorem strs_signs (w : World) : StrsAt (w.alloc (.cells signsV 9)) (some ⟨w.heap.size, 0, none⟩) 48 (fun i => signs[i]?.getD ByteArray.empty) := by
  intro i hi
  refine ⟨_, rfl, ?_⟩
  refine World.news_of_block (heap_alloc_new w (.cells signsV 9)) i _ ?_
  rw [Array.getElem?_toList]
  exact signsV_at i hi

set_option maxHeartbeats 4000000 in
set_option maxRecDepth 100000 in
theorem sign_any2 (u : ByteArray) (w : World) : Calls Tryd.prog 7 #[.string u] w fun e w' => e = .returned (.bool (isSign u)) ∧ w.grownBy w' none := by
  have HS := Lib.hid (has_any _ 48 48 _ u _ (strs_signs w) (by decide))
  have HG := Lib.hid (World.grownBy_alloc w (.cells signsV 9) none)
  go_enter Tryd.func7, Tryd.ntmps7
  go_wp2_with fail
  refine (signs_any w).mono ?_
  rintro e w' ⟨rfl, rfl⟩
  generalize w.alloc (.cells signsV 9) = w2 at *
  go_wp2_with fail
  refine HS.out.mono ?_
  rintro e w' ⟨rfl, rfl⟩
  go_wp2
  go_ret
  exact ⟨rfl, HG.out⟩

/-- The two bytes from j on are none of three pairs. -/
def OtherOk (s : ByteArray) (j : Nat) : Prop := s.extract j (j + 2) ≠ ⟨#[47, 47]⟩ ∧ s.extract j (j + 2) ≠ ⟨#[47, 42]⟩ ∧ s.extract j (j + 2) ≠ ⟨#[46, 46]⟩

set_option maxHeartbeats 4000000 in
set_option maxRecDepth 100000 in
theorem other_any (s : ByteArray) (w : World) (hs : s.size ≤ 9223372036854775806) : Calls Tryd.prog 8 #[.string s] w fun e w' => ∃ b : Bool, e = .returned (.bool b) ∧ w' = w ∧ (b = false → ∀ j, j + 1 < s.size → OtherOk s j) := by
  have HS := Lib.hid hs
  clear hs
  go_enter Tryd.func8, Tryd.ntmps8
  go_wp2_with fail
  go_loopg [3] (s.size - 1) (fun g c wr => ∃ i : Nat, 0 < i ∧ (i ≤ s.size ∨ i = 1) ∧ c = .int .i64 i ∧ g = s.size - i ∧ wr = w ∧ ∀ j, j + 1 < i → OtherOk s j)
  case atStart => exact ⟨1, by omega, Or.inr rfl, rfl, rfl, rfl, fun j hj => by omega⟩
  case round =>
    obtain ⟨i, h0, hi, rfl, hg, rfl, hall⟩ := hrel
    have HG := Lib.hid hg
    have HA := Lib.hid hall
    clear hg hall
    by_cases hk : i < s.size
    · have a1 : IntKind.i64.wrap ((i : Int) - 1) = (i : Int) - 1 := IntWalk.i64_in _ (by have := HS.out; omega)
      have a2 : IntKind.i64.wrap ((i : Int) + 1) = (i : Int) + 1 := IntWalk.i64_in _ (by have := HS.out; omega)
      have a3 : (0 : Int) ≤ (i : Int) - 1 := by omega
      have a4 : ((i : Int) - 1).toNat = i - 1 := by omega
      have a5 : (i : Int) - 1 ≤ (i : Int) + 1 := by omega
      have a6 : (i : Int) + 1 ≤ (s.size : Int) := by omega
      have a7 : ((i : Int) + 1).toNat = i + 1 := by omega
      have a8 : i + 1 ≤ s.size := by omega
      have a9 : (1 : Int) ≤ (i : Int) := by omega
      by_cases e0 : s.extract (i - 1) (i + 1) = ⟨#[47, 47]⟩
      · go_wp2
        go_ret
        first | exact ⟨true, rfl, rfl, by simp⟩ | exact Or.inr ⟨rfl, rfl⟩
      · by_cases e1 : s.extract (i - 1) (i + 1) = ⟨#[47, 42]⟩
        · go_wp2
          go_ret
          first | exact ⟨true, rfl, rfl, by simp⟩ | exact Or.inr ⟨rfl, rfl⟩
        · by_cases e8 : s.extract (i - 1) (i + 1) = ⟨#[46, 46]⟩
          · go_wp2
            go_ret
            first | exact ⟨true, rfl, rfl, by simp⟩ | exact Or.inr ⟨rfl, rfl⟩
          · have HO : Hid (OtherOk s (i - 1)) := ⟨by rw [show i - 1 + 2 = i + 1 by omega]; exact e0, by rw [show i - 1 + 2 = i + 1 by omega]; exact e1, by rw [show i - 1 + 2 = i + 1 by omega]; exact e8⟩
            go_wp2
            all_goals first
              | (go_ret; exact ⟨true, rfl, rfl, by simp⟩)
              | (go_ret; exact Or.inr ⟨rfl, rfl⟩)
              | skip
            go_roundg (s.size - (i + 1))
            case measure => have := HG.out; omega
            case rel => exact ⟨i + 1, by omega, Or.inl hk, rfl, rfl, rfl, fun j hj => by
              rcases Nat.lt_or_ge (j + 1) i with h | h
              · exact HA.out j h
              · have : j = i - 1 := by omega
                subst this; exact HO.out⟩
    · go_wp2
      go_ret
      exact ⟨false, rfl, rfl, fun _ j hj => HA.out j (by omega)⟩
end Go.Proofs.YtfooeinfgmfhpaaDoor
