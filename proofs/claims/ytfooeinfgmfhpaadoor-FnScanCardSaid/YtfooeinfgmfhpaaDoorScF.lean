/- Letters and figures, and the names that the scanner reads. -/
import Derived.Test.YtfooeinfgmfhpaaDoorScE
import Derived.Test.YtfooeinfgmfhpaaDoorPuA
import Derived.Deep.LoopGhost
namespace Go.Proofs.YtfooeinfgmfhpaaDoor
open Go.RowKit

theorem ret_bool {a b : Bool} (h : a = b) : Ending.returned (.bool a) = .returned (.bool b) := by rw [h]


theorem tbl_al : ∀ c, c < 128 → isAl c = true → tbl c = 160 ∨ tbl c = 192 := by decide
theorem tbl_no : ∀ c, c < 128 → isAl c = false → tbl c = 1 ∨ tbl c = 144 ∨ tbl c = 130 ∨ tbl c = 136 ∨ tbl c = 132 := by decide

set_option maxHeartbeats 400000 in
set_option maxRecDepth 20000 in
theorem isLetter_any (c : Nat) (hc : c < 128) (w : World) (h : w.cell? ⟨0, c, none⟩ = some (.int .u8 (tbl c))) :
    Calls Tryd.prog 60 #[.int .i32 c] w fun e w' => e = .returned (.bool (isAl c)) ∧ w' = w := by
  cases ha : isAl c
  · have HA := Lib.hid ha
    rcases tbl_no c hc ha with h1 | h1 | h1 | h1 | h1 <;> rw [h1] at h <;> clear h1 ha <;>
    · go_enter Tryd.func60, Tryd.ntmps60
      go_wp2
      go_ret
      exact ⟨ret_bool (by decide), rfl⟩
  · have HA := Lib.hid ha
    rcases tbl_al c hc ha with h1 | h1 <;> rw [h1] at h <;> clear h1 ha <;>
    · go_enter Tryd.func60, Tryd.ntmps60
      go_wp2
      go_ret
      exact ⟨ret_bool (by decide), rfl⟩

set_option maxHeartbeats 400000 in
set_option maxRecDepth 20000 in
theorem isDigit_any (c : Nat) (hc : c < 128) (w : World)  :
    Calls Tryd.prog 78 #[.int .i32 c] w fun e w' => e = .returned (.bool (isDg c)) ∧ w' = w := by
  by_cases h1 : 48 ≤ c
  · go_enter Tryd.func78, Tryd.ntmps78
    go_wp2
    go_ret
    exact ⟨by unfold isDg; simp [h1]; try omega, rfl⟩
  · go_enter Tryd.func78, Tryd.ntmps78
    go_wp2
    go_ret
    exact ⟨by unfold isDg; simp [h1]; try omega, rfl⟩

theorem letter_is (b : Bool) (c : Nat) (hb : isAl c = b) (hc : c < 128) (w : World) (h : w.cell? ⟨0, c, none⟩ = some (.int .u8 (tbl c))) :
    Calls Tryd.prog 60 #[.int .i32 c] w fun e w' => e = .returned (.bool b) ∧ w = w' :=
  (isLetter_any c hc w h).mono fun _ _ ⟨h1, h2⟩ => ⟨by rw [h1, hb], h2.symm⟩
theorem digit_is (b : Bool) (c : Nat) (hb : isDg c = b) (hc : c < 128) (w : World) :
    Calls Tryd.prog 78 #[.int .i32 c] w fun e w' => e = .returned (.bool b) ∧ w = w' :=
  (isDigit_any c hc w).mono fun _ _ ⟨h1, h2⟩ => ⟨by rw [h1, hb], h2.symm⟩

/-- The scanner stands at k, and has looked. -/
def mv (E : Env) (t : St) (k : Nat) : St := { t with off := k, ch := E.at k, chSize := 1 }

/-- What a reader of a token holds: the scanner at k, its own result's block as it was. -/
structure TokAt (E : Env) (s : St) (w : World) (wr : World) : Prop where
  sc : Sc E s wr
  kept : Kept E w wr
  res : wr.heap[w.heap.size]? = some (.cells zeroTok 58 (0, 0))

theorem TokAt.next {E : Env} {s s' : St} {w wr wx : World} (h0 : Sc E s w) (h : TokAt E s' w wr) {s2 : St} (hs : Sc E s2 wx) (hk : Kept E wr wx) : TokAt E s2 w wx :=
  ⟨hs, h.kept.trans hk, hk.blk h0 h.res (by decide) (Nat.le_refl _)⟩

theorem TokAt.start {E : Env} {s : St} {w : World} (h : Sc E s w) : TokAt E s w (w.alloc (.cells zeroTok 58)) :=
  ⟨h.alloc _, (Kept.refl _ _).alloc _, heap_alloc_new w _⟩

theorem zero_cells {w : World} {k : Nat} (h : w.heap[k]? = some (.cells zeroTok 58 (0, 0))) :
    w.cell? ⟨k, 0, none⟩ = some (.pointer none) ∧ w.cell? ⟨k, 1, none⟩ = some (.int .i32 0) ∧ w.cell? ⟨k, 2, none⟩ = some (.int .u32 0) ∧ w.cell? ⟨k, 3, none⟩ = some (.int .i32 0) ∧
    w.cell? ⟨k, 4, none⟩ = some (.int .u32 0) ∧ w.cell? ⟨k, 5, none⟩ = some (.int .u32 0) ∧ w.cell? ⟨k, 6, none⟩ = some (.int .u32 0) ∧ w.cell? ⟨k, 7, none⟩ = some (.pointer none) ∧ (∀ i, w.frozen? ⟨k, i, none⟩ = false) :=
  ⟨cell_of_row w _ 0 _ 58 (0, 0) h, cell_of_row w _ 1 _ 58 (0, 0) h, cell_of_row w _ 2 _ 58 (0, 0) h, cell_of_row w _ 3 _ 58 (0, 0) h, cell_of_row w _ 4 _ 58 (0, 0) h, cell_of_row w _ 5 _ 58 (0, 0) h,
    cell_of_row w _ 6 _ 58 (0, 0) h, cell_of_row w _ 7 _ 58 (0, 0) h, fun i => by simp [World.frozen?, h]⟩

/-- The result is stored into its block. -/
theorem TokAt.store {E : Env} {s : St} {w wr : World} (h : TokAt E s w wr) (h0 : 0 < w.heap.size) (v0 v1 v2 v3 v4 v5 v6 v7 : Value) :
    Sc E s ((((((((wr.setCell ⟨w.heap.size, 0, none⟩ v0).setCell ⟨w.heap.size, 1, none⟩ v1).setCell ⟨w.heap.size, 2, none⟩ v2).setCell ⟨w.heap.size, 3, none⟩ v3).setCell ⟨w.heap.size, 4, none⟩ v4).setCell ⟨w.heap.size, 5, none⟩ v5).setCell ⟨w.heap.size, 6, none⟩ v6).setCell ⟨w.heap.size, 7, none⟩ v7) ∧
    Kept E w ((((((((wr.setCell ⟨w.heap.size, 0, none⟩ v0).setCell ⟨w.heap.size, 1, none⟩ v1).setCell ⟨w.heap.size, 2, none⟩ v2).setCell ⟨w.heap.size, 3, none⟩ v3).setCell ⟨w.heap.size, 4, none⟩ v4).setCell ⟨w.heap.size, 5, none⟩ v5).setCell ⟨w.heap.size, 6, none⟩ v6).setCell ⟨w.heap.size, 7, none⟩ v7) := by
  have q0 : Tk wr w.heap.size 58 := ⟨_, h.res⟩
  have q1 := q0.set ⟨w.heap.size, 0, none⟩ rfl v0
  have q2 := q1.set ⟨w.heap.size, 1, none⟩ rfl v1
  have q3 := q2.set ⟨w.heap.size, 2, none⟩ rfl v2
  have q4 := q3.set ⟨w.heap.size, 3, none⟩ rfl v3
  have q5 := q4.set ⟨w.heap.size, 4, none⟩ rfl v4
  have q6 := q5.set ⟨w.heap.size, 5, none⟩ rfl v5
  have q7 := q6.set ⟨w.heap.size, 6, none⟩ rfl v6
  exact ⟨(((((((h.sc.setT q0 h0 (by decide) _).setT q1 h0 (by decide) _).setT q2 h0 (by decide) _).setT q3 h0 (by decide) _).setT q4 h0 (by decide) _).setT q5 h0 (by decide) _).setT q6 h0 (by decide) _).setT q7 h0 (by decide) _,
    (((((((h.kept.setNew _ _ (Nat.le_refl _)).setNew _ _ (Nat.le_refl _)).setNew _ _ (Nat.le_refl _)).setNew _ _ (Nat.le_refl _)).setNew _ _ (Nat.le_refl _)).setNew _ _ (Nat.le_refl _)).setNew _ _ (Nat.le_refl _)).setNew _ _ (Nat.le_refl _)⟩

theorem rune_mv (E : Env) (hE : EnvOk E) (t : St) (k : Nat) (w : World) (h : Sc E (mv E t k) w) (hcl : t.closed = false) (ho : k < E.text.length) :
    Calls Tryd.prog 54 #[.pointer (some ⟨E.S, 0, none⟩)] w (Moves E (mv E t k) (.int .i32 (E.at k)) w) := rune_live E hE (mv E t k) w h hcl ho
theorem shift_mv (E : Env) (hE : EnvOk E) (t : St) (k : Nat) (w : World) (h : Sc E (mv E t k) w) (hcl : t.closed = false) (ho : k + 1 < E.text.length) :
    Calls Tryd.prog 55 #[.pointer (some ⟨E.S, 0, none⟩)] w (Moves E (mv E t (k + 1)) (.int .i32 (E.at (k + 1))) w) := shift_in E hE (mv E t k) w h hcl rfl rfl ho
theorem newTok_mv (E : Env) (hE : EnvOk E) (t : St) (k : Nat) (w : World) (h : Sc E (mv E t k) w) (ch : Int) (n : Nat) (hn : k = t.src + n) (ho : k ≤ E.text.length) :
    Calls Tryd.prog 56 #[.pointer (some ⟨E.S, 0, none⟩), .int .i32 ch] w (Moves E (mv E t k) (tokV E ch t.sep t.src n) w) := newToken_any E hE (mv E t k) w h ch n hn ho

set_option maxHeartbeats 2000000 in
set_option maxRecDepth 20000 in
theorem ident_any (E : Env) (hE : EnvOk E) (t : St) (k0 : Nat) (w : World) (h : Sc E (mv E t k0) w) (hcl : t.closed = false) (N n : Nat) (hN : N = t.src + n) (hk0 : k0 < N) (hl : N < E.text.length)
    (hin : ∀ j, k0 < j → j < N → isId (E.at j) = true) (hout : isId (E.at N) = false) (hd : E.at N ≠ 36) :
    Calls Tryd.prog 61 #[.pointer (some ⟨E.S, 0, none⟩)] w (Moves E (mv E t N) (tokV E 57393 t.sep t.src n) w) := by
  have l0 := h.lt
  have hlen := hE.len
  have H := Lib.hid h
  have HE := Lib.hid hE
  have HC := Lib.hid hcl
  have HI := Lib.hid hin
  have HO := Lib.hid hout
  have HD := Lib.hid hd
  have HN := Lib.hid hN
  clear h hE hcl hin hout hd hN
  go_enter Tryd.func61, Tryd.ntmps61
  go_wp2_with fail
  refine (shift_mv E HE.out t k0 _ (H.out.alloc _) HC.out (by omega)).mono ?_
  rintro e w1 ⟨rfl, hsc, hk⟩
  have T1 := Lib.hid ((TokAt.start H.out).next H.out hsc hk)
  clear hsc hk
  go_wp2_with fail
  go_loopg [3] (N - (k0 + 1)) (fun g c wr => ∃ k : Nat, k0 < k ∧ k ≤ N ∧ g = N - k ∧ TokAt E (mv E t k) w wr)
  case atStart => exact ⟨k0 + 1, by omega, by omega, rfl, T1.out⟩
  case round =>
    obtain ⟨k, hk0k, hkn, hg, hT⟩ := hrel
    have HT := Lib.hid hT
    have HG := Lib.hid hg
    clear hT hg T1
    have hc : E.at k < 128 := HE.out.asc k (by omega)
    by_cases hkN : k < N
    · have hid := HI.out k hk0k hkN
      by_cases hal : isAl (E.at k) = true
      · have HA := Lib.hid hal
        clear hid hal
        go_wp2_with fail
        refine (rune_mv E HE.out t k _ HT.out.sc HC.out (by omega)).mono ?_
        rintro e w2 ⟨rfl, hsc, hk⟩
        have T2 := Lib.hid (HT.out.next H.out hsc hk)
        clear hsc hk
        go_wp2_with fail
        refine (letter_is true (E.at k) HA.out hc _ (T2.out.sc.hG _ hc)).mono ?_
        rintro e w3 ⟨rfl, rfl⟩
        go_wp2_with fail
        refine (shift_mv E HE.out t k _ T2.out.sc HC.out (by omega)).mono ?_
        rintro e w3 ⟨rfl, hsc, hk⟩
        have T3 := Lib.hid (T2.out.next H.out hsc hk)
        clear hsc hk
        go_wp2
        go_roundg (N - (k + 1))
        case measure => have := HG.out; omega
        case rel => exact ⟨k + 1, by omega, by omega, rfl, T3.out⟩
      · have hal' : isAl (E.at k) = false := by simpa using hal
        have HA := Lib.hid hal'
        by_cases hu : E.at k = 95
        · have hb : ((E.at k : Int) == 95) = true := by simp; omega
          clear hid hal hal' hu
          go_wp2_with fail
          refine (rune_mv E HE.out t k _ HT.out.sc HC.out (by omega)).mono ?_
          rintro e w2 ⟨rfl, hsc, hk⟩
          have T2 := Lib.hid (HT.out.next H.out hsc hk)
          clear hsc hk
          go_wp2_with fail
          refine (letter_is false (E.at k) HA.out hc _ (T2.out.sc.hG _ hc)).mono ?_
          rintro e w3 ⟨rfl, rfl⟩
          go_wp2_with fail
          refine (shift_mv E HE.out t k _ T2.out.sc HC.out (by omega)).mono ?_
          rintro e w3 ⟨rfl, hsc, hk⟩
          have T3 := Lib.hid (T2.out.next H.out hsc hk)
          clear hsc hk
          go_wp2
          go_roundg (N - (k + 1))
          case measure => have := HG.out; omega
          case rel => exact ⟨k + 1, by omega, by omega, rfl, T3.out⟩
        · have hb : ((E.at k : Int) == 95) = false := by simp; omega
          have hdg : isDg (E.at k) = true := by unfold isId at hid; simpa [hal', hu] using hid
          have HD2 := Lib.hid hdg
          clear hid hal hal' hu hdg
          go_wp2_with fail
          refine (rune_mv E HE.out t k _ HT.out.sc HC.out (by omega)).mono ?_
          rintro e w2 ⟨rfl, hsc, hk⟩
          have T2 := Lib.hid (HT.out.next H.out hsc hk)
          clear hsc hk
          go_wp2_with fail
          refine (letter_is false (E.at k) HA.out hc _ (T2.out.sc.hG _ hc)).mono ?_
          rintro e w3 ⟨rfl, rfl⟩
          go_wp2_with fail
          refine (digit_is true (E.at k) HD2.out hc _).mono ?_
          rintro e w3 ⟨rfl, rfl⟩
          go_wp2_with fail
          refine (shift_mv E HE.out t k _ T2.out.sc HC.out (by omega)).mono ?_
          rintro e w3 ⟨rfl, hsc, hk⟩
          have T3 := Lib.hid (T2.out.next H.out hsc hk)
          clear hsc hk
          go_wp2
          go_roundg (N - (k + 1))
          case measure => have := HG.out; omega
          case rel => exact ⟨k + 1, by omega, by omega, rfl, T3.out⟩
    · obtain rfl : k = N := by omega
      have o1 : isAl (E.at k) = false := by have := HO.out; unfold isId at this; simp at this; exact this.1.1
      have o2 : isDg (E.at k) = false := by have := HO.out; unfold isId at this; simp at this; exact this.2
      have o3 : ((E.at k : Int) == 95) = false := by have := HO.out; unfold isId at this; simp at this; simp; omega
      have o4 : ((E.at k : Int) == 36) = false := by have := HD.out; simp; omega
      have O1 := Lib.hid o1
      have O2 := Lib.hid o2
      clear o1 o2
      go_wp2_with fail
      refine (rune_mv E HE.out t k _ HT.out.sc HC.out (by omega)).mono ?_
      rintro e w2 ⟨rfl, hsc, hk⟩
      have T2 := Lib.hid (HT.out.next H.out hsc hk)
      clear hsc hk
      go_wp2_with fail
      refine (letter_is false (E.at k) O1.out hc _ (T2.out.sc.hG _ hc)).mono ?_
      rintro e w3 ⟨rfl, rfl⟩
      go_wp2_with fail
      refine (digit_is false (E.at k) O2.out hc _).mono ?_
      rintro e w3 ⟨rfl, rfl⟩
      go_wp2_with fail
      refine (newTok_mv E HE.out t k _ T2.out.sc 57393 n HN.out (by omega)).mono ?_
      rintro e w3 ⟨rfl, hsc, hk⟩
      have T3 := T2.out.next H.out hsc hk
      obtain ⟨z0, z1, z2, z3, z4, z5, z6, z7, zf⟩ := zero_cells T3.res
      have HT3 := Lib.hid T3
      clear hsc hk T3
      go_wp2
      refine bodyPost_ret (v := tokV E 57393 t.sep t.src n) (by simp [results, Tryd.results61, go_sem, z0, z1, z2, z3, z4, z5, z6, z7]) rfl ⟨rfl, HT3.out.store (by omega) _ _ _ _ _ _ _ _⟩
end Go.Proofs.YtfooeinfgmfhpaaDoor
