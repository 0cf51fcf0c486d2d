/- The scanner's cppScan0: words for its walks. -/
import Derived.Test.YtfooeinfgmfhpaaDoorScH
namespace Go.Proofs.YtfooeinfgmfhpaaDoor
open Go.RowKit

/-- The scanner behind the blanks ahead of a token at K. -/
abbrev tk (t : St) (K : Nat) : St := { t with sep := t.off, src := K }

theorem TokAt.setS {E : Env} {s s' : St} {w wr : World} (h0 : Sc E s' w) (h : TokAt E s w wr) {s2 : St} (i : Nat) (v : Value) (hs : Sc E s2 (wr.setCell ⟨E.S, i, none⟩ v)) : TokAt E s2 w (wr.setCell ⟨E.S, i, none⟩ v) :=
  ⟨hs, h.kept.setS i v, by
    rw [heap_setCell_other wr _ _ v (by have := h0.lt; simp; omega)]
    exact h.res⟩

theorem rune_lit (E : Env) (hE : EnvOk E) (t : St) (k : Nat) (x y c : Int) (hc : (E.at k : Int) = c) (w : World) (h : Sc E (ml t k x y) w) (hcl : t.closed = false) (ho : k < E.text.length) :
    Calls Tryd.prog 54 #[.pointer (some ⟨E.S, 0, none⟩)] w (Moves E (mv E t k) (.int .i32 c) w) := hc ▸ rune_live E hE (ml t k x y) w h hcl ho
theorem shift_lit (E : Env) (hE : EnvOk E) (t : St) (k : Nat) (c : Int) (hc : (E.at (k + 1) : Int) = c) (w : World) (h : Sc E (mv E t k) w) (hcl : t.closed = false) (ho : k + 1 < E.text.length) :
    Calls Tryd.prog 55 #[.pointer (some ⟨E.S, 0, none⟩)] w (Moves E (mv E t (k + 1)) (.int .i32 c) w) := hc ▸ shift_in E hE (mv E t k) w h hcl rfl rfl ho
theorem peek_mv (E : Env) (hE : EnvOk E) (t : St) (k d : Nat) (w : World) (h : Sc E (mv E t k) w) (ho : k + d < E.text.length) :
    Calls Tryd.prog 43 #[.pointer (some ⟨E.S, 0, none⟩), .int .u32 d] w (Moves E (mv E t k) (.int .i64 (E.at (k + d))) w) :=
  (peek_in E hE (mv E t k) w h d ho).mono fun _ _ ⟨h1, n, h2⟩ => ⟨h1, h2 ▸ h.drewN n, h2 ▸ (Kept.refl _ _).drewN n⟩

theorem peek_lit (E : Env) (hE : EnvOk E) (t : St) (k d : Nat) (c : Int) (hc : (E.at (k + d) : Int) = c) (w : World) (h : Sc E (mv E t k) w) (ho : k + d < E.text.length) :
    Calls Tryd.prog 43 #[.pointer (some ⟨E.S, 0, none⟩), .int .u32 d] w (Moves E (mv E t k) (.int .i64 c) w) := hc ▸ peek_mv E hE t k d w h ho
theorem letter_lit (b : Bool) (c : Int) (n : Nat) (hb : isAl n = b) (hn : n < 128) (hc : (n : Int) = c) (w : World) (h : w.cell? ⟨0, n, none⟩ = some (.int .u8 (tbl n))) :
    Calls Tryd.prog 60 #[.int .i32 c] w fun e w' => e = .returned (.bool b) ∧ w = w' := hc ▸ letter_is b n hb hn w h
theorem newTok_end (E : Env) (hE : EnvOk E) (t : St) (k : Nat) (w : World) (h : Sc E { ml t k (-1) 1 with closed := true } w) (ch : Int) (n : Nat) (hn : k = t.src + n) (ho : k ≤ E.text.length) :
    Calls Tryd.prog 56 #[.pointer (some ⟨E.S, 0, none⟩), .int .i32 ch] w (Moves E { ml t k (-1) 1 with closed := true } (tokV E ch t.sep t.src n) w) := newToken_any E hE { ml t k (-1) 1 with closed := true } w h ch n hn ho
theorem shift_end_mv (E : Env) (hE : EnvOk E) (t : St) (k : Nat) (w : World) (h : Sc E (mv E t k) w) (hcl : t.closed = false) (ho : k + 1 = E.text.length) :
    Calls Tryd.prog 55 #[.pointer (some ⟨E.S, 0, none⟩)] w (Moves E { ml t (k + 1) (-1) 1 with closed := true } (.int .i32 (-1)) w) := shift_end E hE (mv E t k) w h hcl rfl rfl ho
end Go.Proofs.YtfooeinfgmfhpaaDoor
