/- A token's text, and Scan. -/
import Derived.Test.YtfooeinfgmfhpaaDoorScR
import Derived.Lib.ConvBytes
namespace Go.Proofs.YtfooeinfgmfhpaaDoor
open Go.RowKit

set_option maxHeartbeats 4000000 in
set_option maxRecDepth 100000 in
theorem src_any (E : Env) (hE : EnvOk E) (s : St) (w : World) (h : Sc E s w) (T K n : Nat) (h0 : w.cell? ⟨T, 0, none⟩ = some (.pointer (some ⟨E.SS, 0, none⟩))) (h5 : w.cell? ⟨T, 5, none⟩ = some (.int .u32 K))
    (h6 : w.cell? ⟨T, 6, none⟩ = some (.int .u32 n)) (hn : 0 < n) (hl : K + n ≤ E.text.length) :
    Calls Tryd.prog 39 #[.pointer (some ⟨T, 0, none⟩)] w (Quietly (.slice (some ⟨E.B, K, none⟩) n n) w) := by
  have g0 : w.cell? ⟨E.SS, 0, none⟩ = some (.slice (some ⟨E.B, 0, none⟩) E.text.length E.cap) := h.scell 0
  have a1 := hE.len
  have a2 := hE.cap
  have a3 : IntKind.u32.wrap ((K : Int) + (n : Int)) = (K : Int) + (n : Int) := IntWalk.u32_in _ (by omega)
  have a4 : (K : Int) + (n : Int) ≤ (E.cap : Int) := by omega
  have a5 : (0 : Int) ≤ (K : Int) + (n : Int) := by omega
  have a6 : (K : Int) ≤ (K : Int) + (n : Int) := by omega
  have a7 : ((K : Int) + (n : Int)).toNat = K + n := by omega
  have a8 : K + n - K = n := by omega
  have a9 : ¬ n = 0 := by omega
  clear h hE a1 hl
  go_enter Tryd.func39, Tryd.ntmps39
  go_wp2_with fail
  go_quiet (fail)
  go_wp2
  go_ret
  exact ⟨rfl, nq, rfl⟩

/-- n bytes of a text from K on. -/
def cutB (t : List UInt8) (K n : Nat) : ByteArray := ⟨((t.drop K).take n).toArray⟩

theorem str_cut (t : List UInt8) : strOfNums (t.map fun b => (b.toNat : Int)) = ⟨t.toArray⟩ := by
  have h : ∀ t : List UInt8, (t.map fun b => (b.toNat : Int)).map (fun n : Int => UInt8.ofNat n.toNat) = t := by
    intro t
    induction t with
    | nil => rfl
    | cons x t ih => rw [List.map_cons, List.map_cons, ih]; simp
  unfold strOfNums
  rw [h]

theorem conv_cut (E : Env) (s : St) (w : World) (h : Sc E s w) (K n : Nat) (hl : K + n ≤ E.text.length) : (convert 77 9 (.slice (some ⟨E.B, K, none⟩) n n)).run Tryd.prog w = .ok (.string (cutB E.text K n)) w := by
  have := run_convert_bytes_arg (P := Tryd.prog) w 77 5 Tryd.underlying77 Tryd.underlying5 E.B K n n (((E.text.drop K).take n).map fun b => (b.toNat : Int)) (by simp; omega) (fun i hi => by
    rw [h.bcell (K + i) (by omega)]
    simp only [List.getD, List.getElem?_map, List.getElem?_take, List.getElem?_drop, hi, if_pos, Env.at]
    rw [List.getElem?_eq_getElem (show K + i < E.text.length by omega)]
    simp) 9 Tryd.underlying9
  rw [this, str_cut]
  rfl

set_option maxHeartbeats 4000000 in
set_option maxRecDepth 100000 in
theorem srcStr_any (E : Env) (hE : EnvOk E) (s : St) (w : World) (h : Sc E s w) (T K n : Nat) (h0 : w.cell? ⟨T, 0, none⟩ = some (.pointer (some ⟨E.SS, 0, none⟩))) (h5 : w.cell? ⟨T, 5, none⟩ = some (.int .u32 K))
    (h6 : w.cell? ⟨T, 6, none⟩ = some (.int .u32 n)) (hn : 0 < n) (hl : K + n ≤ E.text.length) :
    Calls Tryd.prog 30 #[.pointer (some ⟨T, 0, none⟩)] w (Quietly (.string (cutB E.text K n)) w) := by
  have hc := src_any E hE s w h T K n h0 h5 h6 hn hl
  have HC := Lib.hid hc
  have hcv : ∀ m, (convert 77 9 (.slice (some ⟨E.B, K, none⟩) n n)).run Tryd.prog (w.drewN m) = .ok (.string (cutB E.text K n)) (w.drewN m) := fun m => conv_cut E s _ (h.drewN m) K n hl
  have HV := Lib.hid hcv
  clear h hE h0 h5 h6 hc hcv hn hl
  go_enter Tryd.func30, Tryd.ntmps30
  go_wp2_with fail
  refine HC.out.mono ?_
  rintro e w1 ⟨rfl, m, rfl⟩
  have hcv := HV.out m
  go_wp2
  go_ret
  exact ⟨rfl, m, rfl⟩
end Go.Proofs.YtfooeinfgmfhpaaDoor
