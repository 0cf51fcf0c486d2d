/- The scanner's readers of numbers, strings and characters. -/
import Derived.Test.YtfooeinfgmfhpaaDoorScF
namespace Go.Proofs.YtfooeinfgmfhpaaDoor
open Go.RowKit

set_option maxHeartbeats 1000000 in
set_option maxRecDepth 20000 in
theorem sign_yes (E : Env) (hE : EnvOk E) (t : St) (k : Nat) (w : World) (h : Sc E (mv E t k) w) (hcl : t.closed = false) (ho : k + 1 < E.text.length) (hs : isSg (E.at k) = true) :
    Calls Tryd.prog 74 #[.pointer (some ⟨E.S, 0, none⟩), .bool false] w (Moves E (mv E t (k + 1)) (.tuple #[]) w) := by
  have H := Lib.hid h
  have HE := Lib.hid hE
  have HC := Lib.hid hcl
  by_cases h43 : E.at k = 43
  · have hb : ((E.at k : Int) == 43) = true := by simp; omega
    clear h hE hcl hs h43
    go_enter Tryd.func74, Tryd.ntmps74
    go_wp2_with fail
    refine (rune_mv E HE.out t k _ H.out HC.out (by omega)).mono ?_
    rintro e w2 ⟨rfl, hsc, hk⟩
    have HS2 := Lib.hid hsc
    have HK2 := Lib.hid hk
    clear hsc hk
    go_wp2_with fail
    refine (shift_mv E HE.out t k _ HS2.out HC.out ho).mono ?_
    rintro e w3 ⟨rfl, hsc, hk⟩
    have HS3 := Lib.hid hsc
    have HK3 := Lib.hid hk
    clear hsc hk
    go_wp2
    go_end0
    exact ⟨rfl, HS3.out, HK2.out.trans HK3.out⟩
  · have hb : ((E.at k : Int) == 43) = false := by simp; omega
    have hb2 : ((E.at k : Int) == 45) = true := by unfold isSg at hs; simp [h43] at hs; simp [hs]
    clear h hE hcl hs h43
    go_enter Tryd.func74, Tryd.ntmps74
    go_wp2_with fail
    refine (rune_mv E HE.out t k _ H.out HC.out (by omega)).mono ?_
    rintro e w2 ⟨rfl, hsc, hk⟩
    have HS2 := Lib.hid hsc
    have HK2 := Lib.hid hk
    clear hsc hk
    go_wp2_with fail
    refine (shift_mv E HE.out t k _ HS2.out HC.out ho).mono ?_
    rintro e w3 ⟨rfl, hsc, hk⟩
    have HS3 := Lib.hid hsc
    have HK3 := Lib.hid hk
    clear hsc hk
    go_wp2
    go_end0
    exact ⟨rfl, HS3.out, HK2.out.trans HK3.out⟩

set_option maxHeartbeats 1000000 in
set_option maxRecDepth 20000 in
theorem sign_no (E : Env) (hE : EnvOk E) (t : St) (k : Nat) (w : World) (h : Sc E (mv E t k) w) (hcl : t.closed = false) (ho : k < E.text.length) (hs : isSg (E.at k) = false) :
    Calls Tryd.prog 74 #[.pointer (some ⟨E.S, 0, none⟩), .bool false] w (Moves E (mv E t k) (.tuple #[]) w) := by
  have H := Lib.hid h
  have HE := Lib.hid hE
  have HC := Lib.hid hcl
  have hb : ((E.at k : Int) == 43) = false := by unfold isSg at hs; simp at hs; simp; omega
  have hb2 : ((E.at k : Int) == 45) = false := by unfold isSg at hs; simp at hs; simp; omega
  clear h hE hcl hs
  go_enter Tryd.func74, Tryd.ntmps74
  go_wp2_with fail
  refine (rune_mv E HE.out t k _ H.out HC.out ho).mono ?_
  rintro e w2 ⟨rfl, hsc, hk⟩
  have HS2 := Lib.hid hsc
  have HK2 := Lib.hid hk
  clear hsc hk
  go_wp2
  go_end0
  exact ⟨rfl, HS2.out, HK2.out⟩

set_option maxHeartbeats 4000000 in
set_option maxRecDepth 20000 in
/-- A number goes on from k + 1 to N; the sign at k is taken first. -/
theorem number_any (E : Env) (hE : EnvOk E) (t : St) (k0 : Nat) (w : World) (h : Sc E (mv E t k0) w) (hcl : t.closed = false) (N n : Nat) (hN : N = t.src + n) (hl : N < E.text.length)
    (hr : NumRun E.at (k0 + 1) N) :
    Calls Tryd.prog 57 #[.pointer (some ⟨E.S, 0, none⟩)] w (Moves E (mv E t N) (tokV E 57416 t.sep t.src n) w) := by
  have l0 := h.lt
  have hlen := hE.len
  have hle := hr.le
  have H := Lib.hid h
  have HE := Lib.hid hE
  have HC := Lib.hid hcl
  have HN := Lib.hid hN
  have HR0 := Lib.hid hr
  clear h hE hcl hN hr
  go_enter Tryd.func57, Tryd.ntmps57
  go_wp2_with fail
  refine (shift_mv E HE.out t k0 _ (H.out.alloc _) HC.out (by omega)).mono ?_
  rintro e w1 ⟨rfl, hsc, hk⟩
  have T1 := Lib.hid ((TokAt.start H.out).next H.out hsc hk)
  clear hsc hk
  go_wp2_with fail
  go_loopg [3] (N - (k0 + 1)) (fun g c wr => ∃ k : Nat, k0 < k ∧ NumRun E.at k N ∧ g = N - k ∧ TokAt E (mv E t k) w wr)
  case atStart => exact ⟨k0 + 1, by omega, HR0.out, rfl, T1.out⟩
  case round =>
    obtain ⟨k, hk0k, hrn, hg, hT⟩ := hrel
    have HT := Lib.hid hT
    have HG := Lib.hid hg
    have hkn := hrn.le
    clear hT hg T1 HR0
    have hc : E.at k < 128 := HE.out.asc k (by omega)
    cases hrn with
    | stop _ hno =>
      have n1 : isAl (E.at N) = false ∧ isDg (E.at N) = false ∧ E.at N ≠ 95 ∧ E.at N ≠ 46 := by simpa [isNumC, and_assoc] using hno
      obtain ⟨n1, n2, n3, n4⟩ := n1
      have m1 : ¬ (65 ≤ E.at N ∧ E.at N ≤ 90) ∧ ¬ (97 ≤ E.at N ∧ E.at N ≤ 122) ∧ ¬ (48 ≤ E.at N ∧ E.at N ≤ 57) := by unfold isAl at n1; unfold isDg at n2; simp at n1 n2; omega
      have HA := Lib.hid n1
      have b46 : ((E.at N : Int) == 46) = false := by simp; omega
      have b95 : ((E.at N : Int) == 95) = false := by simp; omega
      have b101 : ((E.at N : Int) == 101) = false := by simp; omega
      have b69 : ((E.at N : Int) == 69) = false := by simp; omega
      have b112 : ((E.at N : Int) == 112) = false := by simp; omega
      have b80 : ((E.at N : Int) == 80) = false := by simp; omega
      clear hno n1 n2 n3 n4
      by_cases d1 : (48 : Int) ≤ (E.at N : Int)
      · have d2 : ¬ ((E.at N : Int) ≤ 57) := by omega
        have d3 : decide (E.at N ≤ 57) = false := by simp; omega
        clear m1
        go_wp2_with fail
        refine (rune_mv E HE.out t N _ HT.out.sc HC.out (by omega)).mono ?_
        rintro e w2 ⟨rfl, hsc, hk⟩
        have T2 := Lib.hid (HT.out.next H.out hsc hk)
        clear hsc hk
        go_wp2_with fail
        refine (letter_is false (E.at N) HA.out hc _ (T2.out.sc.hG _ hc)).mono ?_
        rintro e w3 ⟨rfl, rfl⟩
        go_wp2_with fail
        refine (newTok_mv E HE.out t N _ T2.out.sc 57416 n HN.out (by omega)).mono ?_
        rintro e w3 ⟨rfl, hsc, hk⟩
        have T3 := T2.out.next H.out hsc hk
        obtain ⟨z0, z1, z2, z3, z4, z5, z6, z7, zf⟩ := zero_cells T3.res
        have HT3 := Lib.hid T3
        clear hsc hk T3
        go_wp2
        refine bodyPost_ret (v := tokV E 57416 t.sep t.src n) (by simp [results, Tryd.results57, go_sem, z0, z1, z2, z3, z4, z5, z6, z7]) rfl ⟨rfl, HT3.out.store (by omega) _ _ _ _ _ _ _ _⟩
      · clear m1
        go_wp2_with fail
        refine (rune_mv E HE.out t N _ HT.out.sc HC.out (by omega)).mono ?_
        rintro e w2 ⟨rfl, hsc, hk⟩
        have T2 := Lib.hid (HT.out.next H.out hsc hk)
        clear hsc hk
        go_wp2_with fail
        refine (letter_is false (E.at N) HA.out hc _ (T2.out.sc.hG _ hc)).mono ?_
        rintro e w3 ⟨rfl, rfl⟩
        go_wp2_with fail
        refine (newTok_mv E HE.out t N _ T2.out.sc 57416 n HN.out (by omega)).mono ?_
        rintro e w3 ⟨rfl, hsc, hk⟩
        have T3 := T2.out.next H.out hsc hk
        obtain ⟨z0, z1, z2, z3, z4, z5, z6, z7, zf⟩ := zero_cells T3.res
        have HT3 := Lib.hid T3
        clear hsc hk T3
        go_wp2
        refine bodyPost_ret (v := tokV E 57416 t.sep t.src n) (by simp [results, Tryd.results57, go_sem, z0, z1, z2, z3, z4, z5, z6, z7]) rfl ⟨rfl, HT3.out.store (by omega) _ _ _ _ _ _ _ _⟩
    | step _ _ hy hx hr =>
      have HR := Lib.hid hr
      have hle1 := hr.le
      clear hr
      have m1 : E.at k ≠ 101 ∧ E.at k ≠ 69 ∧ E.at k ≠ 112 ∧ E.at k ≠ 80 := by unfold isExp at hx; simp at hx; omega
      obtain ⟨m1, m2, m3, m4⟩ := m1
      have hy2 : isAl (E.at k) = true ∨ isDg (E.at k) = true ∨ E.at k = 95 ∨ E.at k = 46 := by simpa [isNumC, or_assoc] using hy
      clear hy hx
      have b101 : ((E.at k : Int) == 101) = false := by simp; omega
      have b69 : ((E.at k : Int) == 69) = false := by simp; omega
      have b112 : ((E.at k : Int) == 112) = false := by simp; omega
      have b80 : ((E.at k : Int) == 80) = false := by simp; omega
      clear m1 m2 m3 m4
      by_cases p : E.at k = 46
      · have b46 : ((E.at k : Int) == 46) = true := by simp; omega
        clear hy2 p
        go_wp2_with fail
        refine (rune_mv E HE.out t k _ HT.out.sc HC.out (by omega)).mono ?_
        rintro e w2 ⟨rfl, hsc, hk⟩
        have T2 := Lib.hid (HT.out.next H.out hsc hk)
        clear hsc hk
        go_wp2_with fail
        refine (shift_mv E HE.out t (k) _ T2.out.sc HC.out (by omega)).mono ?_
        rintro e w3 ⟨rfl, hsc, hk⟩
        have T3 := Lib.hid (T2.out.next H.out hsc hk)
        clear hsc hk
        go_wp2
        go_roundg (N - (k + 1))
        case measure => have := HG.out; have := HR.out.le; omega
        case rel => exact ⟨k + 1, by omega, HR.out, rfl, T3.out⟩
      · have b46 : ((E.at k : Int) == 46) = false := by simp; omega
        by_cases d : isDg (E.at k) = true
        · have d1 : (48 : Int) ≤ (E.at k : Int) ∧ (E.at k : Int) ≤ 57 := by unfold isDg at d; simp at d; omega
          obtain ⟨d1, d2⟩ := d1
          clear hy2 p d
          go_wp2_with fail
          refine (rune_mv E HE.out t k _ HT.out.sc HC.out (by omega)).mono ?_
          rintro e w2 ⟨rfl, hsc, hk⟩
          have T2 := Lib.hid (HT.out.next H.out hsc hk)
          clear hsc hk
          go_wp2_with fail
          refine (shift_mv E HE.out t (k) _ T2.out.sc HC.out (by omega)).mono ?_
          rintro e w3 ⟨rfl, hsc, hk⟩
          have T3 := Lib.hid (T2.out.next H.out hsc hk)
          clear hsc hk
          go_wp2
          go_roundg (N - (k + 1))
          case measure => have := HG.out; have := HR.out.le; omega
          case rel => exact ⟨k + 1, by omega, HR.out, rfl, T3.out⟩
        · have nd : ¬ (48 ≤ E.at k ∧ E.at k ≤ 57) := by unfold isDg at d; simp at d; omega
          have hy3 : isAl (E.at k) = true ∨ E.at k = 95 := by rcases hy2 with h | h | h | h <;> first | exact Or.inl h | exact Or.inr h | exact absurd h d | exact absurd h p
          clear hy2 p d
          have d1 : (57 : Int) < (E.at k : Int) := by rcases hy3 with h | h
                                                      · unfold isAl at h; simp at h; omega
                                                      · omega
          have d3 : decide (E.at k ≤ 57) = false := by simp; omega
          clear nd
          by_cases al : isAl (E.at k) = true
          · have HA := Lib.hid al
            clear hy3 al
            go_wp2_with fail
            refine (rune_mv E HE.out t k _ HT.out.sc HC.out (by omega)).mono ?_
            rintro e w2 ⟨rfl, hsc, hk⟩
            have T2 := Lib.hid (HT.out.next H.out hsc hk)
            clear hsc hk
            go_wp2_with fail
            refine (letter_is true (E.at k) HA.out hc _ (T2.out.sc.hG _ hc)).mono ?_
            rintro e w3 ⟨rfl, rfl⟩
            go_wp2_with fail
            refine (shift_mv E HE.out t (k) _ T2.out.sc HC.out (by omega)).mono ?_
            rintro e w3 ⟨rfl, hsc, hk⟩
            have T3 := Lib.hid (T2.out.next H.out hsc hk)
            clear hsc hk
            go_wp2
            go_roundg (N - (k + 1))
            case measure => have := HG.out; have := HR.out.le; omega
            case rel => exact ⟨k + 1, by omega, HR.out, rfl, T3.out⟩
          · have al' : isAl (E.at k) = false := by simpa using al
            have HA := Lib.hid al'
            have u : E.at k = 95 := by rcases hy3 with h | h
                                       · exact absurd h al
                                       · exact h
            have b95 : ((E.at k : Int) == 95) = true := by simp; omega
            clear hy3 al al' u
            go_wp2_with fail
            refine (rune_mv E HE.out t k _ HT.out.sc HC.out (by omega)).mono ?_
            rintro e w2 ⟨rfl, hsc, hk⟩
            have T2 := Lib.hid (HT.out.next H.out hsc hk)
            clear hsc hk
            go_wp2_with fail
            refine (letter_is false (E.at k) HA.out hc _ (T2.out.sc.hG _ hc)).mono ?_
            rintro e w3 ⟨rfl, rfl⟩
            go_wp2_with fail
            refine (shift_mv E HE.out t (k) _ T2.out.sc HC.out (by omega)).mono ?_
            rintro e w3 ⟨rfl, hsc, hk⟩
            have T3 := Lib.hid (T2.out.next H.out hsc hk)
            clear hsc hk
            go_wp2
            go_roundg (N - (k + 1))
            case measure => have := HG.out; have := HR.out.le; omega
            case rel => exact ⟨k + 1, by omega, HR.out, rfl, T3.out⟩
    | exp _ _ hx hs hr =>
      have HR := Lib.hid hr
      have hle1 := hr.le
      have HSG := Lib.hid hs
      clear hr hs
      have m0 : E.at k = 101 ∨ E.at k = 69 ∨ E.at k = 112 ∨ E.at k = 80 := by unfold isExp at hx; simp at hx; omega
      clear hx
      have b46 : ((E.at k : Int) == 46) = false := by simp; omega
      by_cases e101 : E.at k = 101
      · have b101 : ((E.at k : Int) == 101) = true := by simp; omega
        clear m0 e101
        go_wp2_with fail
        refine (rune_mv E HE.out t k _ HT.out.sc HC.out (by omega)).mono ?_
        rintro e w2 ⟨rfl, hsc, hk⟩
        have T2 := Lib.hid (HT.out.next H.out hsc hk)
        clear hsc hk
        go_wp2_with fail
        refine (shift_mv E HE.out t (k) _ T2.out.sc HC.out (by omega)).mono ?_
        rintro e w3 ⟨rfl, hsc, hk⟩
        have T3 := Lib.hid (T2.out.next H.out hsc hk)
        clear hsc hk
        go_wp2_with fail
        refine (sign_no E HE.out t (k + 1) _ T3.out.sc HC.out (by omega) HSG.out).mono ?_
        rintro e w4 ⟨rfl, hsc, hk⟩
        have T4 := Lib.hid (T3.out.next H.out hsc hk)
        clear hsc hk
        go_wp2
        go_roundg (N - (k + 1))
        case measure => have := HG.out; have := HR.out.le; omega
        case rel => exact ⟨k + 1, by omega, HR.out, rfl, T4.out⟩
      have b101 : ((E.at k : Int) == 101) = false := by simp; omega
      by_cases e69 : E.at k = 69
      · have b69 : ((E.at k : Int) == 69) = true := by simp; omega
        clear m0 e69
        go_wp2_with fail
        refine (rune_mv E HE.out t k _ HT.out.sc HC.out (by omega)).mono ?_
        rintro e w2 ⟨rfl, hsc, hk⟩
        have T2 := Lib.hid (HT.out.next H.out hsc hk)
        clear hsc hk
        go_wp2_with fail
        refine (shift_mv E HE.out t (k) _ T2.out.sc HC.out (by omega)).mono ?_
        rintro e w3 ⟨rfl, hsc, hk⟩
        have T3 := Lib.hid (T2.out.next H.out hsc hk)
        clear hsc hk
        go_wp2_with fail
        refine (sign_no E HE.out t (k + 1) _ T3.out.sc HC.out (by omega) HSG.out).mono ?_
        rintro e w4 ⟨rfl, hsc, hk⟩
        have T4 := Lib.hid (T3.out.next H.out hsc hk)
        clear hsc hk
        go_wp2
        go_roundg (N - (k + 1))
        case measure => have := HG.out; have := HR.out.le; omega
        case rel => exact ⟨k + 1, by omega, HR.out, rfl, T4.out⟩
      have b69 : ((E.at k : Int) == 69) = false := by simp; omega
      by_cases e112 : E.at k = 112
      · have b112 : ((E.at k : Int) == 112) = true := by simp; omega
        clear m0 e112
        go_wp2_with fail
        refine (rune_mv E HE.out t k _ HT.out.sc HC.out (by omega)).mono ?_
        rintro e w2 ⟨rfl, hsc, hk⟩
        have T2 := Lib.hid (HT.out.next H.out hsc hk)
        clear hsc hk
        go_wp2_with fail
        refine (shift_mv E HE.out t (k) _ T2.out.sc HC.out (by omega)).mono ?_
        rintro e w3 ⟨rfl, hsc, hk⟩
        have T3 := Lib.hid (T2.out.next H.out hsc hk)
        clear hsc hk
        go_wp2_with fail
        refine (sign_no E HE.out t (k + 1) _ T3.out.sc HC.out (by omega) HSG.out).mono ?_
        rintro e w4 ⟨rfl, hsc, hk⟩
        have T4 := Lib.hid (T3.out.next H.out hsc hk)
        clear hsc hk
        go_wp2
        go_roundg (N - (k + 1))
        case measure => have := HG.out; have := HR.out.le; omega
        case rel => exact ⟨k + 1, by omega, HR.out, rfl, T4.out⟩
      have b112 : ((E.at k : Int) == 112) = false := by simp; omega
      have b80 : ((E.at k : Int) == 80) = true := by simp; omega
      clear m0
      clear e101 e69 e112
      go_wp2_with fail
      refine (rune_mv E HE.out t k _ HT.out.sc HC.out (by omega)).mono ?_
      rintro e w2 ⟨rfl, hsc, hk⟩
      have T2 := Lib.hid (HT.out.next H.out hsc hk)
      clear hsc hk
      go_wp2_with fail
      refine (shift_mv E HE.out t (k) _ T2.out.sc HC.out (by omega)).mono ?_
      rintro e w3 ⟨rfl, hsc, hk⟩
      have T3 := Lib.hid (T2.out.next H.out hsc hk)
      clear hsc hk
      go_wp2_with fail
      refine (sign_no E HE.out t (k + 1) _ T3.out.sc HC.out (by omega) HSG.out).mono ?_
      rintro e w4 ⟨rfl, hsc, hk⟩
      have T4 := Lib.hid (T3.out.next H.out hsc hk)
      clear hsc hk
      go_wp2
      go_roundg (N - (k + 1))
      case measure => have := HG.out; have := HR.out.le; omega
      case rel => exact ⟨k + 1, by omega, HR.out, rfl, T4.out⟩
    | sgn _ _ hx hs hr =>
      have HR := Lib.hid hr
      have hle1 := hr.le
      have HSG := Lib.hid hs
      clear hr hs
      have m0 : E.at k = 101 ∨ E.at k = 69 ∨ E.at k = 112 ∨ E.at k = 80 := by unfold isExp at hx; simp at hx; omega
      clear hx
      have b46 : ((E.at k : Int) == 46) = false := by simp; omega
      by_cases e101 : E.at k = 101
      · have b101 : ((E.at k : Int) == 101) = true := by simp; omega
        clear m0 e101
        go_wp2_with fail
        refine (rune_mv E HE.out t k _ HT.out.sc HC.out (by omega)).mono ?_
        rintro e w2 ⟨rfl, hsc, hk⟩
        have T2 := Lib.hid (HT.out.next H.out hsc hk)
        clear hsc hk
        go_wp2_with fail
        refine (shift_mv E HE.out t (k) _ T2.out.sc HC.out (by omega)).mono ?_
        rintro e w3 ⟨rfl, hsc, hk⟩
        have T3 := Lib.hid (T2.out.next H.out hsc hk)
        clear hsc hk
        go_wp2_with fail
        refine (sign_yes E HE.out t (k + 1) _ T3.out.sc HC.out (by omega) HSG.out).mono ?_
        rintro e w4 ⟨rfl, hsc, hk⟩
        have T4 := Lib.hid (T3.out.next H.out hsc hk)
        clear hsc hk
        go_wp2
        go_roundg (N - (k + 2))
        case measure => have := HG.out; have := HR.out.le; omega
        case rel => exact ⟨k + 2, by omega, HR.out, rfl, T4.out⟩
      have b101 : ((E.at k : Int) == 101) = false := by simp; omega
      by_cases e69 : E.at k = 69
      · have b69 : ((E.at k : Int) == 69) = true := by simp; omega
        clear m0 e69
        go_wp2_with fail
        refine (rune_mv E HE.out t k _ HT.out.sc HC.out (by omega)).mono ?_
        rintro e w2 ⟨rfl, hsc, hk⟩
        have T2 := Lib.hid (HT.out.next H.out hsc hk)
        clear hsc hk
        go_wp2_with fail
        refine (shift_mv E HE.out t (k) _ T2.out.sc HC.out (by omega)).mono ?_
        rintro e w3 ⟨rfl, hsc, hk⟩
        have T3 := Lib.hid (T2.out.next H.out hsc hk)
        clear hsc hk
        go_wp2_with fail
        refine (sign_yes E HE.out t (k + 1) _ T3.out.sc HC.out (by omega) HSG.out).mono ?_
        rintro e w4 ⟨rfl, hsc, hk⟩
        have T4 := Lib.hid (T3.out.next H.out hsc hk)
        clear hsc hk
        go_wp2
        go_roundg (N - (k + 2))
        case measure => have := HG.out; have := HR.out.le; omega
        case rel => exact ⟨k + 2, by omega, HR.out, rfl, T4.out⟩
      have b69 : ((E.at k : Int) == 69) = false := by simp; omega
      by_cases e112 : E.at k = 112
      · have b112 : ((E.at k : Int) == 112) = true := by simp; omega
        clear m0 e112
        go_wp2_with fail
        refine (rune_mv E HE.out t k _ HT.out.sc HC.out (by omega)).mono ?_
        rintro e w2 ⟨rfl, hsc, hk⟩
        have T2 := Lib.hid (HT.out.next H.out hsc hk)
        clear hsc hk
        go_wp2_with fail
        refine (shift_mv E HE.out t (k) _ T2.out.sc HC.out (by omega)).mono ?_
        rintro e w3 ⟨rfl, hsc, hk⟩
        have T3 := Lib.hid (T2.out.next H.out hsc hk)
        clear hsc hk
        go_wp2_with fail
        refine (sign_yes E HE.out t (k + 1) _ T3.out.sc HC.out (by omega) HSG.out).mono ?_
        rintro e w4 ⟨rfl, hsc, hk⟩
        have T4 := Lib.hid (T3.out.next H.out hsc hk)
        clear hsc hk
        go_wp2
        go_roundg (N - (k + 2))
        case measure => have := HG.out; have := HR.out.le; omega
        case rel => exact ⟨k + 2, by omega, HR.out, rfl, T4.out⟩
      have b112 : ((E.at k : Int) == 112) = false := by simp; omega
      have b80 : ((E.at k : Int) == 80) = true := by simp; omega
      clear m0
      clear e101 e69 e112
      go_wp2_with fail
      refine (rune_mv E HE.out t k _ HT.out.sc HC.out (by omega)).mono ?_
      rintro e w2 ⟨rfl, hsc, hk⟩
      have T2 := Lib.hid (HT.out.next H.out hsc hk)
      clear hsc hk
      go_wp2_with fail
      refine (shift_mv E HE.out t (k) _ T2.out.sc HC.out (by omega)).mono ?_
      rintro e w3 ⟨rfl, hsc, hk⟩
      have T3 := Lib.hid (T2.out.next H.out hsc hk)
      clear hsc hk
      go_wp2_with fail
      refine (sign_yes E HE.out t (k + 1) _ T3.out.sc HC.out (by omega) HSG.out).mono ?_
      rintro e w4 ⟨rfl, hsc, hk⟩
      have T4 := Lib.hid (T3.out.next H.out hsc hk)
      clear hsc hk
      go_wp2
      go_roundg (N - (k + 2))
      case measure => have := HG.out; have := HR.out.le; omega
      case rel => exact ⟨k + 2, by omega, HR.out, rfl, T4.out⟩

set_option maxHeartbeats 1000000 in
set_option maxRecDepth 20000 in
theorem sChar_yes (E : Env) (hE : EnvOk E) (t : St) (k : Nat) (w : World) (h : Sc E (mv E t k) w) (hcl : t.closed = false) (ho : k + 1 < E.text.length) (h1 : E.at k ≠ 34) (h2 : E.at k ≠ 10) :
    Calls Tryd.prog 75 #[.pointer (some ⟨E.S, 0, none⟩)] w (Moves E (mv E t (k + 1)) (.bool true) w) := by
  have H := Lib.hid h
  have HE := Lib.hid hE
  have HC := Lib.hid hcl
  have hb : ((E.at k : Int) == 34) = false := by simp; omega
  have hb2 : ((E.at k : Int) == 10) = false := by simp; omega
  have hb3 : ((E.at k : Int) == 92) = false := by have := hE.bsl k (by omega); simp; omega
  clear h hE hcl h1 h2
  go_enter Tryd.func75, Tryd.ntmps75
  go_wp2_with fail
  refine (rune_mv E HE.out t k _ H.out HC.out (by omega)).mono ?_
  rintro e w2 ⟨rfl, hsc, hk⟩
  have HS2 := Lib.hid hsc
  have HK2 := Lib.hid hk
  clear hsc hk
  go_wp2_with fail
  refine (shift_mv E HE.out t k _ HS2.out HC.out ho).mono ?_
  rintro e w3 ⟨rfl, hsc, hk⟩
  have HS3 := Lib.hid hsc
  have HK3 := Lib.hid hk
  clear hsc hk
  go_wp2
  go_ret
  exact ⟨rfl, HS3.out, HK2.out.trans HK3.out⟩

set_option maxHeartbeats 1000000 in
set_option maxRecDepth 20000 in
theorem sChar_no (E : Env) (hE : EnvOk E) (t : St) (k : Nat) (w : World) (h : Sc E (mv E t k) w) (hcl : t.closed = false) (ho : k < E.text.length) (h1 : E.at k = 34) :
    Calls Tryd.prog 75 #[.pointer (some ⟨E.S, 0, none⟩)] w (Moves E (mv E t k) (.bool false) w) := by
  have H := Lib.hid h
  have HE := Lib.hid hE
  have HC := Lib.hid hcl
  have hb : ((E.at k : Int) == 34) = true := by simp; omega
  clear h hE hcl h1
  go_enter Tryd.func75, Tryd.ntmps75
  go_wp2_with fail
  refine (rune_mv E HE.out t k _ H.out HC.out ho).mono ?_
  rintro e w2 ⟨rfl, hsc, hk⟩
  have HS2 := Lib.hid hsc
  have HK2 := Lib.hid hk
  clear hsc hk
  go_wp2
  go_ret
  exact ⟨rfl, HS2.out, HK2.out⟩

set_option maxHeartbeats 1000000 in
set_option maxRecDepth 20000 in
theorem cChar_yes (E : Env) (hE : EnvOk E) (t : St) (k : Nat) (w : World) (h : Sc E (mv E t k) w) (hcl : t.closed = false) (ho : k + 1 < E.text.length) (h1 : E.at k ≠ 39) (h2 : E.at k ≠ 10) :
    Calls Tryd.prog 76 #[.pointer (some ⟨E.S, 0, none⟩)] w (Moves E (mv E t (k + 1)) (.bool true) w) := by
  have H := Lib.hid h
  have HE := Lib.hid hE
  have HC := Lib.hid hcl
  have hb : ((E.at k : Int) == 39) = false := by simp; omega
  have hb2 : ((E.at k : Int) == 10) = false := by simp; omega
  have hb3 : ((E.at k : Int) == 92) = false := by have := hE.bsl k (by omega); simp; omega
  clear h hE hcl h1 h2
  go_enter Tryd.func76, Tryd.ntmps76
  go_wp2_with fail
  refine (rune_mv E HE.out t k _ H.out HC.out (by omega)).mono ?_
  rintro e w2 ⟨rfl, hsc, hk⟩
  have HS2 := Lib.hid hsc
  have HK2 := Lib.hid hk
  clear hsc hk
  go_wp2_with fail
  refine (shift_mv E HE.out t k _ HS2.out HC.out ho).mono ?_
  rintro e w3 ⟨rfl, hsc, hk⟩
  have HS3 := Lib.hid hsc
  have HK3 := Lib.hid hk
  clear hsc hk
  go_wp2
  go_ret
  exact ⟨rfl, HS3.out, HK2.out.trans HK3.out⟩

set_option maxHeartbeats 1000000 in
set_option maxRecDepth 20000 in
theorem cChar_no (E : Env) (hE : EnvOk E) (t : St) (k : Nat) (w : World) (h : Sc E (mv E t k) w) (hcl : t.closed = false) (ho : k < E.text.length) (h1 : E.at k = 39) :
    Calls Tryd.prog 76 #[.pointer (some ⟨E.S, 0, none⟩)] w (Moves E (mv E t k) (.bool false) w) := by
  have H := Lib.hid h
  have HE := Lib.hid hE
  have HC := Lib.hid hcl
  have hb : ((E.at k : Int) == 39) = true := by simp; omega
  clear h hE hcl h1
  go_enter Tryd.func76, Tryd.ntmps76
  go_wp2_with fail
  refine (rune_mv E HE.out t k _ H.out HC.out ho).mono ?_
  rintro e w2 ⟨rfl, hsc, hk⟩
  have HS2 := Lib.hid hsc
  have HK2 := Lib.hid hk
  clear hsc hk
  go_wp2
  go_ret
  exact ⟨rfl, HS2.out, HK2.out⟩

set_option maxHeartbeats 2000000 in
set_option maxRecDepth 20000 in
/-- From the sign at k0 to the next one of its kind, at M. -/
theorem string_any (E : Env) (hE : EnvOk E) (t : St) (k0 : Nat) (w : World) (h : Sc E (mv E t k0) w) (hcl : t.closed = false) (ch : Int) (M n : Nat) (hN : M + 1 = t.src + n) (hk0 : k0 < M) (hl : M + 1 < E.text.length)
    (hin : ∀ j, k0 < j → j < M → E.at j ≠ 34 ∧ E.at j ≠ 10) (hq : E.at M = 34) :
    Calls Tryd.prog 58 #[.pointer (some ⟨E.S, 0, none⟩), .int .i32 ch] w (Moves E (mv E t (M + 1)) (tokV E ch t.sep t.src n) w) := by
  have l0 := h.lt
  have hlen := hE.len
  have H := Lib.hid h
  have HE := Lib.hid hE
  have HC := Lib.hid hcl
  have HN := Lib.hid hN
  have HI := Lib.hid hin
  have HQ := Lib.hid hq
  clear h hE hcl hN hin hq
  go_enter Tryd.func58, Tryd.ntmps58
  go_wp2_with fail
  refine (shift_mv E HE.out t k0 _ (H.out.alloc _) HC.out (by omega)).mono ?_
  rintro e w1 ⟨rfl, hsc, hk⟩
  have T1 := Lib.hid ((TokAt.start H.out).next H.out hsc hk)
  clear hsc hk
  go_wp2_with fail
  go_loopg [7] (M - (k0 + 1)) (fun g c wr => ∃ k : Nat, k0 < k ∧ k ≤ M ∧ g = M - k ∧ TokAt E (mv E t k) w wr)
  case atStart => exact ⟨k0 + 1, by omega, by omega, rfl, T1.out⟩
  case round =>
    obtain ⟨k, hk0k, hkn, hg, hT⟩ := hrel
    have HT := Lib.hid hT
    have HG := Lib.hid hg
    clear hT hg T1
    by_cases hkM : k < M
    · go_wp2_with fail
      refine (sChar_yes E HE.out t k _ HT.out.sc HC.out (by omega) (HI.out k hk0k hkM).1 (HI.out k hk0k hkM).2).mono ?_
      rintro e w2 ⟨rfl, hsc, hk⟩
      have T2 := Lib.hid (HT.out.next H.out hsc hk)
      clear hsc hk
      go_wp2
      go_roundg (M - (k + 1))
      case measure => have := HG.out; omega
      case rel => exact ⟨k + 1, by omega, by omega, rfl, T2.out⟩
    · obtain rfl : k = M := by omega
      go_wp2_with fail
      refine (sChar_no E HE.out t k _ HT.out.sc HC.out (by omega) HQ.out).mono ?_
      rintro e w2 ⟨rfl, hsc, hk⟩
      have T2 := Lib.hid (HT.out.next H.out hsc hk)
      clear hsc hk
      have hb : ((E.at k : Int) == 34) = true := by have := HQ.out; simp; omega
      go_wp2_with fail
      refine (rune_mv E HE.out t k _ T2.out.sc HC.out (by omega)).mono ?_
      rintro e w3 ⟨rfl, hsc, hk⟩
      have T3 := Lib.hid (T2.out.next H.out hsc hk)
      clear hsc hk
      go_wp2_with fail
      refine (shift_mv E HE.out t k _ T3.out.sc HC.out (by omega)).mono ?_
      rintro e w4 ⟨rfl, hsc, hk⟩
      have T4 := Lib.hid (T3.out.next H.out hsc hk)
      clear hsc hk
      go_wp2_with fail
      refine (newTok_mv E HE.out t (k + 1) _ T4.out.sc ch n HN.out (by omega)).mono ?_
      rintro e w5 ⟨rfl, hsc, hk⟩
      have T5 := T4.out.next H.out hsc hk
      obtain ⟨z0, z1, z2, z3, z4, z5, z6, z7, zf⟩ := zero_cells T5.res
      have HT5 := Lib.hid T5
      clear hsc hk T5
      go_wp2
      refine bodyPost_ret (v := tokV E ch t.sep t.src n) (by simp [results, Tryd.results58, go_sem, z0, z1, z2, z3, z4, z5, z6, z7]) rfl ⟨rfl, HT5.out.store (by omega) _ _ _ _ _ _ _ _⟩

set_option maxHeartbeats 2000000 in
set_option maxRecDepth 20000 in
/-- From the sign at k0 to the next one of its kind, at M. -/
theorem char_any (E : Env) (hE : EnvOk E) (t : St) (k0 : Nat) (w : World) (h : Sc E (mv E t k0) w) (hcl : t.closed = false) (ch : Int) (M n : Nat) (hN : M + 1 = t.src + n) (hk0 : k0 < M) (hl : M + 1 < E.text.length)
    (hin : ∀ j, k0 < j → j < M → E.at j ≠ 39 ∧ E.at j ≠ 10) (hq : E.at M = 39) :
    Calls Tryd.prog 59 #[.pointer (some ⟨E.S, 0, none⟩), .int .i32 ch] w (Moves E (mv E t (M + 1)) (tokV E ch t.sep t.src n) w) := by
  have l0 := h.lt
  have hlen := hE.len
  have H := Lib.hid h
  have HE := Lib.hid hE
  have HC := Lib.hid hcl
  have HN := Lib.hid hN
  have HI := Lib.hid hin
  have HQ := Lib.hid hq
  clear h hE hcl hN hin hq
  go_enter Tryd.func59, Tryd.ntmps59
  go_wp2_with fail
  refine (shift_mv E HE.out t k0 _ (H.out.alloc _) HC.out (by omega)).mono ?_
  rintro e w1 ⟨rfl, hsc, hk⟩
  have T1 := Lib.hid ((TokAt.start H.out).next H.out hsc hk)
  clear hsc hk
  go_wp2_with fail
  go_loopg [7] (M - (k0 + 1)) (fun g c wr => ∃ k : Nat, k0 < k ∧ k ≤ M ∧ g = M - k ∧ TokAt E (mv E t k) w wr)
  case atStart => exact ⟨k0 + 1, by omega, by omega, rfl, T1.out⟩
  case round =>
    obtain ⟨k, hk0k, hkn, hg, hT⟩ := hrel
    have HT := Lib.hid hT
    have HG := Lib.hid hg
    clear hT hg T1
    by_cases hkM : k < M
    · go_wp2_with fail
      refine (cChar_yes E HE.out t k _ HT.out.sc HC.out (by omega) (HI.out k hk0k hkM).1 (HI.out k hk0k hkM).2).mono ?_
      rintro e w2 ⟨rfl, hsc, hk⟩
      have T2 := Lib.hid (HT.out.next H.out hsc hk)
      clear hsc hk
      go_wp2
      go_roundg (M - (k + 1))
      case measure => have := HG.out; omega
      case rel => exact ⟨k + 1, by omega, by omega, rfl, T2.out⟩
    · obtain rfl : k = M := by omega
      go_wp2_with fail
      refine (cChar_no E HE.out t k _ HT.out.sc HC.out (by omega) HQ.out).mono ?_
      rintro e w2 ⟨rfl, hsc, hk⟩
      have T2 := Lib.hid (HT.out.next H.out hsc hk)
      clear hsc hk
      have hb : ((E.at k : Int) == 39) = true := by have := HQ.out; simp; omega
      go_wp2_with fail
      refine (rune_mv E HE.out t k _ T2.out.sc HC.out (by omega)).mono ?_
      rintro e w3 ⟨rfl, hsc, hk⟩
      have T3 := Lib.hid (T2.out.next H.out hsc hk)
      clear hsc hk
      go_wp2_with fail
      refine (shift_mv E HE.out t k _ T3.out.sc HC.out (by omega)).mono ?_
      rintro e w4 ⟨rfl, hsc, hk⟩
      have T4 := Lib.hid (T3.out.next H.out hsc hk)
      clear hsc hk
      go_wp2_with fail
      refine (newTok_mv E HE.out t (k + 1) _ T4.out.sc ch n HN.out (by omega)).mono ?_
      rintro e w5 ⟨rfl, hsc, hk⟩
      have T5 := T4.out.next H.out hsc hk
      obtain ⟨z0, z1, z2, z3, z4, z5, z6, z7, zf⟩ := zero_cells T5.res
      have HT5 := Lib.hid T5
      clear hsc hk T5
      go_wp2
      refine bodyPost_ret (v := tokV E ch t.sep t.src n) (by simp [results, Tryd.results59, go_sem, z0, z1, z2, z3, z4, z5, z6, z7]) rfl ⟨rfl, HT5.out.store (by omega) _ _ _ _ _ _ _ _⟩
end Go.Proofs.YtfooeinfgmfhpaaDoor
