/- The scanner's scanSep: blanks ahead of a token. -/
import Derived.Test.YtfooeinfgmfhpaaDoorScG
namespace Go.Proofs.YtfooeinfgmfhpaaDoor
open Go.RowKit

/-- No blank. -/
def noSep (c : Nat) : Prop := c ≠ 32 ∧ c ≠ 9 ∧ c ≠ 12 ∧ c ≠ 11 ∧ c ≠ 13

/-- The scanner at k, whatever it has looked at. -/
def ml (t : St) (k : Nat) (x y : Int) : St := { t with off := k, ch := x, chSize := y }

theorem rune_ml (E : Env) (hE : EnvOk E) (t : St) (k : Nat) (x y : Int) (w : World) (h : Sc E (ml t k x y) w) (hcl : t.closed = false) (ho : k < E.text.length) :
    Calls Tryd.prog 54 #[.pointer (some ⟨E.S, 0, none⟩)] w (Moves E (mv E t k) (.int .i32 (E.at k)) w) := rune_live E hE (ml t k x y) w h hcl ho

set_option maxHeartbeats 2000000 in
set_option maxRecDepth 20000 in
theorem scanSep_plain (E : Env) (hE : EnvOk E) (t : St) (w : World) (h : Sc E t w) (hcl : t.closed = false) (K : Nat) (hK : t.off ≤ K) (hl : K < E.text.length)
    (hsp : ∀ i, t.off ≤ i → i < K → E.at i = 32) (hn : noSep (E.at K)) (h47 : E.at K ≠ 47) :
    Calls Tryd.prog 53 #[.pointer (some ⟨E.S, 0, none⟩)] w (Moves E (mv E { t with sep := t.off } K) (.tuple #[]) w) := by
  have h5 : w.cell? ⟨E.S, 5, none⟩ = some (.int .u32 t.off) := h.cell 5
  have h6 : w.cell? ⟨E.S, 6, none⟩ = some (.int .u32 t.sep) := h.cell 6
  have hf := h.frozen
  have H := Lib.hid h
  have HE := Lib.hid hE
  have HC := Lib.hid hcl
  have HSP := Lib.hid hsp
  have HN := Lib.hid hn
  have H47 := Lib.hid h47
  clear h hE hcl hsp hn h47
  go_enter Tryd.func53, Tryd.ntmps53
  go_wp2_with fail
  have T0 : Hid (Sc E { t with sep := t.off } (w.setCell ⟨E.S, 6, none⟩ (.int .u32 t.off)) ∧ Kept E w (w.setCell ⟨E.S, 6, none⟩ (.int .u32 t.off))) := ⟨H.out.set 6 _ rfl, (Kept.refl _ _).setS 6 _⟩
  clear h5 h6 hf
  generalize w.setCell ⟨E.S, 6, none⟩ (.int .u32 t.off) = w1 at *
  go_loopg [11] (K - t.off) (fun g c wr => ∃ (k : Nat) (x y : Int), t.off ≤ k ∧ k ≤ K ∧ g = K - k ∧ Sc E (ml { t with sep := t.off } k x y) wr ∧ Kept E w wr)
  case atStart => exact ⟨t.off, t.ch, t.chSize, by omega, by omega, rfl, T0.out.1, T0.out.2⟩
  case round =>
    obtain ⟨k, x, y, hk1, hk2, hg, hsc, hkk⟩ := hrel
    have HG := Lib.hid hg
    have HS := Lib.hid hsc
    have HK := Lib.hid hkk
    clear hg hsc hkk T0
    by_cases hkK : k < K
    · have b32 : ((E.at k : Int) == 32) = true := by have := HSP.out k hk1 hkK; simp; omega
      go_wp2_with fail
      refine (rune_ml E HE.out _ k x y _ HS.out HC.out (by omega)).mono ?_
      rintro e w2 ⟨rfl, hsc, hkk⟩
      have HS2 := Lib.hid hsc
      have HK2 := Lib.hid (HK.out.trans hkk)
      clear hsc hkk
      go_wp2_with fail
      refine (shift_mv E HE.out _ k _ HS2.out HC.out (by omega)).mono ?_
      rintro e w3 ⟨rfl, hsc, hkk⟩
      have HS3 := Lib.hid hsc
      have HK3 := Lib.hid (HK2.out.trans hkk)
      clear hsc hkk
      go_wp2
      go_roundg (K - (k + 1))
      case measure => have := HG.out; omega
      case rel => exact ⟨k + 1, E.at (k + 1), 1, by omega, by omega, rfl, HS3.out, HK3.out⟩
    · obtain rfl : k = K := by omega
      have b32 : ((E.at k : Int) == 32) = false := by have := HN.out.1; simp; omega
      have b9 : ((E.at k : Int) == 9) = false := by have := HN.out.2.1; simp; omega
      have b12 : ((E.at k : Int) == 12) = false := by have := HN.out.2.2.1; simp; omega
      have b11 : ((E.at k : Int) == 11) = false := by have := HN.out.2.2.2.1; simp; omega
      have b13 : ((E.at k : Int) == 13) = false := by have := HN.out.2.2.2.2; simp; omega
      have b47 : ((E.at k : Int) == 47) = false := by have := H47.out; simp; omega
      go_wp2_with fail
      refine (rune_ml E HE.out _ k x y _ HS.out HC.out (by omega)).mono ?_
      rintro e w2 ⟨rfl, hsc, hkk⟩
      have HS2 := Lib.hid hsc
      have HK2 := Lib.hid (HK.out.trans hkk)
      clear hsc hkk
      go_wp2
      go_end0
      exact ⟨rfl, HS2.out, HK2.out⟩

set_option maxHeartbeats 2000000 in
set_option maxRecDepth 20000 in
theorem scanSep_slash (E : Env) (hE : EnvOk E) (t : St) (w : World) (h : Sc E t w) (hcl : t.closed = false) (K : Nat) (hK : t.off ≤ K) (hl : K < E.text.length)
    (hsp : ∀ i, t.off ≤ i → i < K → E.at i = 32) (hn : noSep (E.at K)) (h47 : E.at K = 47) (hl2 : K + 1 < E.text.length) (hx1 : E.at (K + 1) ≠ 42) (hx2 : E.at (K + 1) ≠ 47) :
    Calls Tryd.prog 53 #[.pointer (some ⟨E.S, 0, none⟩)] w (Moves E (ml { t with sep := t.off } K (-1) 1) (.tuple #[]) w) := by
  have h5 : w.cell? ⟨E.S, 5, none⟩ = some (.int .u32 t.off) := h.cell 5
  have h6 : w.cell? ⟨E.S, 6, none⟩ = some (.int .u32 t.sep) := h.cell 6
  have hf := h.frozen
  have H := Lib.hid h
  have HE := Lib.hid hE
  have HC := Lib.hid hcl
  have HSP := Lib.hid hsp
  have HN := Lib.hid hn
  have H47 := Lib.hid h47
  have HX1 := Lib.hid hx1
  have HX2 := Lib.hid hx2
  clear h hE hcl hsp hn h47 hx1 hx2
  go_enter Tryd.func53, Tryd.ntmps53
  go_wp2_with fail
  have T0 : Hid (Sc E { t with sep := t.off } (w.setCell ⟨E.S, 6, none⟩ (.int .u32 t.off)) ∧ Kept E w (w.setCell ⟨E.S, 6, none⟩ (.int .u32 t.off))) := ⟨H.out.set 6 _ rfl, (Kept.refl _ _).setS 6 _⟩
  clear h5 h6 hf
  generalize w.setCell ⟨E.S, 6, none⟩ (.int .u32 t.off) = w1 at *
  go_loopg [11] (K - t.off) (fun g c wr => ∃ (k : Nat) (x y : Int), t.off ≤ k ∧ k ≤ K ∧ g = K - k ∧ Sc E (ml { t with sep := t.off } k x y) wr ∧ Kept E w wr)
  case atStart => exact ⟨t.off, t.ch, t.chSize, by omega, by omega, rfl, T0.out.1, T0.out.2⟩
  case round =>
    obtain ⟨k, x, y, hk1, hk2, hg, hsc, hkk⟩ := hrel
    have HG := Lib.hid hg
    have HS := Lib.hid hsc
    have HK := Lib.hid hkk
    clear hg hsc hkk T0
    by_cases hkK : k < K
    · have b32 : ((E.at k : Int) == 32) = true := by have := HSP.out k hk1 hkK; simp; omega
      go_wp2_with fail
      refine (rune_ml E HE.out _ k x y _ HS.out HC.out (by omega)).mono ?_
      rintro e w2 ⟨rfl, hsc, hkk⟩
      have HS2 := Lib.hid hsc
      have HK2 := Lib.hid (HK.out.trans hkk)
      clear hsc hkk
      go_wp2_with fail
      refine (shift_mv E HE.out _ k _ HS2.out HC.out (by omega)).mono ?_
      rintro e w3 ⟨rfl, hsc, hkk⟩
      have HS3 := Lib.hid hsc
      have HK3 := Lib.hid (HK2.out.trans hkk)
      clear hsc hkk
      go_wp2
      go_roundg (K - (k + 1))
      case measure => have := HG.out; omega
      case rel => exact ⟨k + 1, E.at (k + 1), 1, by omega, by omega, rfl, HS3.out, HK3.out⟩
    · obtain rfl : k = K := by omega
      have b32 : ((E.at k : Int) == 32) = false := by have := HN.out.1; simp; omega
      have b9 : ((E.at k : Int) == 9) = false := by have := HN.out.2.1; simp; omega
      have b12 : ((E.at k : Int) == 12) = false := by have := HN.out.2.2.1; simp; omega
      have b11 : ((E.at k : Int) == 11) = false := by have := HN.out.2.2.2.1; simp; omega
      have b13 : ((E.at k : Int) == 13) = false := by have := HN.out.2.2.2.2; simp; omega
      have b47 : ((E.at k : Int) == 47) = true := by have := H47.out; simp; omega
      have c42 : ((E.at (k + 1) : Int) == 42) = false := by have := HX1.out; simp; omega
      have c47 : ((E.at (k + 1) : Int) == 47) = false := by have := HX2.out; simp; omega
      go_wp2_with fail
      refine (rune_ml E HE.out _ k x y _ HS.out HC.out (by omega)).mono ?_
      rintro e w2 ⟨rfl, hsc, hkk⟩
      have q5 : w2.cell? ⟨E.S, 5, none⟩ = some (.int .u32 k) := hsc.cell 5
      have HS2 := Lib.hid hsc
      have HK2 := Lib.hid (HK.out.trans hkk)
      clear hsc hkk
      go_wp2_with fail
      refine (shift_mv E HE.out _ k _ HS2.out HC.out (by omega)).mono ?_
      rintro e w3 ⟨rfl, hsc, hkk⟩
      have p4 : w3.cell? ⟨E.S, 4, none⟩ = some (.int .i32 (E.at (k + 1))) := hsc.cell 4
      have p5 : w3.cell? ⟨E.S, 5, none⟩ = some (.int .u32 ((k : Int) + 1)) := hsc.cell 5
      have pf := hsc.frozen
      have HS3 := Lib.hid hsc
      have HK3 := Lib.hid (HK2.out.trans hkk)
      clear hsc hkk q5
      go_wp2
      go_end0
      exact ⟨rfl, (HS3.out.set (s' := mv E { t with sep := t.off } (k + 1) |> fun u => { u with off := k }) 5 _ rfl).set 4 _ rfl, (HK3.out.setS 5 _).setS 4 _⟩

set_option maxHeartbeats 2000000 in
set_option maxRecDepth 20000 in
theorem scanSep_closed (E : Env) (t : St) (w : World) (h : Sc E t w) (hcl : t.closed = true) :
    Calls Tryd.prog 53 #[.pointer (some ⟨E.S, 0, none⟩)] w (Moves E { t with sep := t.off } (.tuple #[]) w) := by
  have h5 : w.cell? ⟨E.S, 5, none⟩ = some (.int .u32 t.off) := h.cell 5
  have h6 : w.cell? ⟨E.S, 6, none⟩ = some (.int .u32 t.sep) := h.cell 6
  have hf := h.frozen
  have H := Lib.hid h
  have HC := Lib.hid hcl
  clear h hcl
  go_enter Tryd.func53, Tryd.ntmps53
  go_wp2_with fail
  go_loopg [11] 0 (fun g c wr => wr = w.setCell ⟨E.S, 6, none⟩ (.int .u32 t.off))
  case atStart => rfl
  case round =>
    obtain rfl := hrel
    clear h5 h6 hf
    go_wp2_with fail
    refine (rune_closed E _ _ (H.out.set (s' := { t with sep := t.off }) 6 _ rfl) HC.out).mono ?_
    rintro e w3 ⟨rfl, hsc, hkk⟩
    have HS3 := Lib.hid hsc
    have HK3 := Lib.hid hkk
    clear hsc hkk
    go_wp2
    go_end0
    exact ⟨rfl, HS3.out, ((Kept.refl _ _).setS 6 _).trans HK3.out⟩

set_option maxHeartbeats 2000000 in
set_option maxRecDepth 20000 in
theorem scanSep_end (E : Env) (t : St) (w : World) (h : Sc E t w) (hcl : t.closed = false) (hch : t.ch < 0) (ho : t.off = E.text.length) :
    Calls Tryd.prog 53 #[.pointer (some ⟨E.S, 0, none⟩)] w (Moves E { t with sep := t.off, closed := true } (.tuple #[]) w) := by
  have h5 : w.cell? ⟨E.S, 5, none⟩ = some (.int .u32 t.off) := h.cell 5
  have h6 : w.cell? ⟨E.S, 6, none⟩ = some (.int .u32 t.sep) := h.cell 6
  have hf := h.frozen
  have H := Lib.hid h
  have HC := Lib.hid hcl
  have HH := Lib.hid hch
  have HO := Lib.hid ho
  clear h hcl hch ho
  go_enter Tryd.func53, Tryd.ntmps53
  go_wp2_with fail
  go_loopg [11] 0 (fun g c wr => wr = w.setCell ⟨E.S, 6, none⟩ (.int .u32 t.off))
  case atStart => rfl
  case round =>
    obtain rfl := hrel
    clear h5 h6 hf
    go_wp2_with fail
    refine (rune_end E _ _ (H.out.set (s' := { t with sep := t.off }) 6 _ rfl) HC.out HH.out HO.out).mono ?_
    rintro e w3 ⟨rfl, hsc, hkk⟩
    have HS3 := Lib.hid hsc
    have HK3 := Lib.hid hkk
    clear hsc hkk
    go_wp2
    go_end0
    exact ⟨rfl, HS3.out, ((Kept.refl _ _).setS 6 _).trans HK3.out⟩
end Go.Proofs.YtfooeinfgmfhpaaDoor
