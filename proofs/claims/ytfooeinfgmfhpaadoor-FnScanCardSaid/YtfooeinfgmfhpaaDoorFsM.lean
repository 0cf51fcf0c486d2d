/- FnScan, walked. -/
import Derived.Test.YtfooeinfgmfhpaaDoorFsL
namespace Go.Proofs.YtfooeinfgmfhpaaDoor
open Go.RowKit

/-- What the source of lines is scanned to. -/
def ScansTo (s : ByteArray) (ts : List ByteArray) : Prop :=
  TextOk s ∧ ∃ l, Scans (fun i => (s.data.toList[i]?.getD 0).toNat) s.size true 0 l ∧ l.map (fun x => cutB s.data.toList x.1 x.2) = ts

set_option maxHeartbeats 4000000 in
set_option maxRecDepth 100000 in
theorem fnScan_walk (hpure : ∀ (n : Nat) (X : Nat → Ln), LinesP n X → ScansTo (srcS X n) (allT X n)) (A : Option Addr) (n cap : Nat) (X : Nat → Ln) (w : World) (h : LinesAt w A n X) (hn : n ≤ 9223372036854775807)
    (hS : ∀ i, i < n → ∀ j, j < (X i).n → ((X i).T j).size ≤ 9223372036854775807) (h0 : 0 < w.heap.size) (hG : ∀ i, i < 128 → w.cell? ⟨0, i, none⟩ = some (.int .u8 (tbl i))) :
    Calls Tryd.prog 4 #[.slice A n cap] w fun e w' => e = .returned (.bool true) ∧ w.grownBy w' none := by
  have HF := Lib.hid (zzFits6_any A n cap X w h hn)
  have H := Lib.hid h
  have HS := Lib.hid hS
  have HG := Lib.hid hG
  have HPu := Lib.hid hpure
  clear h hn hS hG hpure
  go_enter Tryd.func4, Tryd.ntmps4
  go_wp2_with fail
  refine HF.out.mono ?_
  rintro e w1 ⟨b, rfl, hg1, hb⟩
  have HG1 := Lib.hid hg1
  clear hg1
  cases b with
  | false =>
    clear hb
    go_wp2
    go_ret
    exact ⟨rfl, HG1.out⟩
  | true =>
    have HB := Lib.hid (hb rfl)
    clear hb
    go_wp2_with fail
    refine (lawLines_any A n cap X w1 (H.out.grown HG1.out) HB.out.1 HB.out.2).mono ?_
    rintro e w2 ⟨A2, c2, Y, rfl, hY, hlike, hg2⟩
    have HG2 := Lib.hid (grown_trans HG1.out hg2)
    have HY := Lib.hid hY
    have HLk := Lib.hid hlike
    clear hg2 hY hlike
    go_wp2_with fail
    refine (specLines_any A2 n c2 Y w2 HY.out HB.out.1 (fun i hi => by rw [(HLk.out i hi).1]; exact HB.out.2 i hi) (fun i hi j hj => by
      obtain ⟨e1, e2, _⟩ := HLk.out i hi
      rw [e2]; rw [e1] at hj; exact HS.out i hi j hj)).mono ?_
    rintro e w3 ⟨b, rfl, hg3, hb⟩
    have HG3 := Lib.hid (grown_trans HG2.out hg3)
    have HY3 := Lib.hid (HY.out.grown hg3)
    clear hg3
    cases b with
    | false =>
      clear hb
      go_wp2
      go_ret
      exact ⟨rfl, HG3.out⟩
    | true =>
      have HP := Lib.hid (hb rfl)
      clear hb
      go_wp2_with fail
      refine (source_law A2 n c2 Y w3 HY3.out HP.out).mono ?_
      rintro e w4 ⟨rfl, hg4⟩
      have HG4 := Lib.hid (grown_trans HG3.out hg4)
      have HY4 := Lib.hid (HY3.out.grown hg4)
      obtain ⟨hok, l, hsc, hcut⟩ := HPu.out n Y HP.out
      have hGw : ∀ i, i < 128 → w4.cell? ⟨0, i, none⟩ = some (.int .u8 (tbl i)) := fun i hi => by
        rw [← HG.out i hi]; exact World.cell?_of_block (HG4.out.block 0 h0 (by simp))
      have HCall := Lib.hid (implScan_any _ l w4 hok (Nat.lt_of_lt_of_le h0 HG4.out.size) hGw hsc)
      have HCut := Lib.hid hcut
      have HCnt := Lib.hid (And.intro (hsc.count (Nat.zero_le _)) hok.len)
      clear hg4 hok hsc hcut hGw
      go_wp2_with fail
      refine HCall.out.mono ?_
      rintro e w5 ⟨v, rfl, hrow, hgr⟩
      have HG5 := Lib.hid (grown_trans HG4.out hgr)
      have HY5 := Lib.hid (HY4.out.grown hgr)
      have HRow := Lib.hid hrow
      obtain ⟨A5, c5, rfl, _⟩ := row_form hrow
      clear hrow hgr HCall
      go_wp2_with fail
      refine (texts_law A2 n c2 Y w5 HY5.out HP.out).mono ?_
      rintro e w6 ⟨v, rfl, hO⟩
      obtain ⟨A6, c6, rfl, _⟩ := row_form hO.row
      have hlen : (allT Y n).length = l.length := by rw [← HCut.out, List.length_map]
      have hst1 := strs_of_row (own_grown0 HRow.out hO.gr) (fun x : ByteArray => x) (allT Y n) hlen (by rw [← HCut.out, List.map_map]; rfl)
      have hst2 := strs_of_row hO.row (fun x : ByteArray => x) (allT Y n) rfl rfl
      rw [← hlen] at hst1
      have HSame := Lib.hid (same_any A5 A6 (allT Y n).length c5 c6 _ w6 hst1 hst2 (by have := HCnt.out; omega))
      have HGr6 := Lib.hid (grown_trans HG5.out hO.gr)
      rw [← hlen]
      clear hO hst1 hst2 hlen
      go_wp2_with fail
      refine HSame.out.mono ?_
      rintro e w7 ⟨rfl, m, rfl⟩
      go_wp2
      go_ret
      exact ⟨rfl, grown_trans HGr6.out (grown_drewN _ _ _)⟩
end Go.Proofs.YtfooeinfgmfhpaaDoor
