/- The scanner's cppScan by what stands in the text: a token, a line end, or the end. -/
import Derived.Test.YtfooeinfgmfhpaaDoorScJ
import Derived.Test.YtfooeinfgmfhpaaDoorScK
import Derived.Test.YtfooeinfgmfhpaaDoorScL
import Derived.Test.YtfooeinfgmfhpaaDoorScM
namespace Go.Proofs.YtfooeinfgmfhpaaDoor
open Go.RowKit

/-- The kind of a token at K that is no line end. -/
def kindOk (E : Env) (K : Nat) (ch : Int) : Prop := ch ≠ 10 ∧ ch ≠ -1 ∧ (ch = 35 → E.at K = 35 ∧ E.at (K + 1) ≠ 35)

theorem kind_lit {E : Env} {K : Nat} {ch : Int} (h1 : ch ≠ 10) (h2 : ch ≠ -1) (h3 : ch ≠ 35) : kindOk E K ch := ⟨h1, h2, fun h => absurd h h3⟩

theorem c0_any (E : Env) (hE : EnvOk E) (t : St) (w : World) (h : Sc E t w) (hcl : t.closed = false) (K : Nat) (hK : t.off ≤ K) (n : Nat) (hl : K + n < E.text.length)
    (hsp : ∀ i, t.off ≤ i → i < K → E.at i = 32) (hnl : E.at K ≠ 10) (ht : Tok1 E.at K n) :
    Calls Tryd.prog 44 #[.pointer (some ⟨E.S, 0, none⟩)] w (TokP E (kindOk E K) (mv E (tk t K) (K + n)) t.off K n w) := by
  have L : ∀ {n' : Nat} (ch : Int), ch ≠ 10 → ch ≠ -1 → ch ≠ 35 → Calls Tryd.prog 44 #[.pointer (some ⟨E.S, 0, none⟩)] w (Moves E (mv E (tk t K) (K + n')) (tokV E ch t.off K n') w) →
      Calls Tryd.prog 44 #[.pointer (some ⟨E.S, 0, none⟩)] w (TokP E (kindOk E K) (mv E (tk t K) (K + n')) t.off K n' w) :=
    fun ch h1 h2 h3 hm => hm.mono fun _ _ hq => TokP.of_moves hq (kind_lit h1 h2 h3)
  cases ht with
  | one hc =>
    simp only [List.mem_cons, List.mem_nil_iff, or_false] at hc
    rcases hc with hc | hc | hc | hc | hc | hc | hc | hc | hc | hc | hc | hc
    · exact L 40 (by decide) (by decide) (by decide) (c0_40 E hE t w h hcl K hK hl hsp hc)
    · exact L 41 (by decide) (by decide) (by decide) (c0_41 E hE t w h hcl K hK hl hsp hc)
    · exact L 44 (by decide) (by decide) (by decide) (c0_44 E hE t w h hcl K hK hl hsp hc)
    · exact L 58 (by decide) (by decide) (by decide) (c0_58 E hE t w h hcl K hK hl hsp hc)
    · exact L 59 (by decide) (by decide) (by decide) (c0_59 E hE t w h hcl K hK hl hsp hc)
    · exact L 63 (by decide) (by decide) (by decide) (c0_63 E hE t w h hcl K hK hl hsp hc)
    · exact L 91 (by decide) (by decide) (by decide) (c0_91 E hE t w h hcl K hK hl hsp hc)
    · exact absurd hc hnl
    · exact L 93 (by decide) (by decide) (by decide) (c0_93 E hE t w h hcl K hK hl hsp hc)
    · exact L 123 (by decide) (by decide) (by decide) (c0_123 E hE t w h hcl K hK hl hsp hc)
    · exact L 125 (by decide) (by decide) (by decide) (c0_125 E hE t w h hcl K hK hl hsp hc)
    · exact L 126 (by decide) (by decide) (by decide) (c0_126 E hE t w h hcl K hK hl hsp hc)
  | eq1 hc hx =>
    simp only [List.mem_cons, List.mem_nil_iff, or_false] at hc
    rcases hc with hc | hc | hc | hc | hc
    · exact L 42 (by decide) (by decide) (by decide) (c0_42a E hE t w h hcl K hK hl hsp hc hx)
    · exact L 61 (by decide) (by decide) (by decide) (c0_61a E hE t w h hcl K hK hl hsp hc hx)
    · exact L 94 (by decide) (by decide) (by decide) (c0_94a E hE t w h hcl K hK hl hsp hc hx)
    · exact L 37 (by decide) (by decide) (by decide) (c0_37a E hE t w h hcl K hK hl hsp hc hx)
    · exact L 33 (by decide) (by decide) (by decide) (c0_33a E hE t w h hcl K hK hl hsp hc hx)
  | eq2 hc hx =>
    simp only [List.mem_cons, List.mem_nil_iff, or_false] at hc
    rcases hc with hc | hc | hc | hc | hc
    · exact L _ (by decide) (by decide) (by decide) (c0_42b E hE t w h hcl K hK hl hsp hc hx)
    · exact L _ (by decide) (by decide) (by decide) (c0_61b E hE t w h hcl K hK hl hsp hc hx)
    · exact L _ (by decide) (by decide) (by decide) (c0_94b E hE t w h hcl K hK hl hsp hc hx)
    · exact L _ (by decide) (by decide) (by decide) (c0_37b E hE t w h hcl K hK hl hsp hc hx)
    · exact L _ (by decide) (by decide) (by decide) (c0_33b E hE t w h hcl K hK hl hsp hc hx)
  | div1 hc hx h1 h2 => exact L _ (by decide) (by decide) (by decide) (c0_47a E hE t w h hcl K hK hl hsp hc hx h1 h2)
  | div2 hc hx => exact L _ (by decide) (by decide) (by decide) (c0_47b E hE t w h hcl K hK hl hsp hc hx)
  | dbl1 hc hx hy =>
    simp only [List.mem_cons, List.mem_nil_iff, or_false] at hc
    rcases hc with hc | hc | hc
    · exact L _ (by decide) (by decide) (by decide) (c0_43a E hE t w h hcl K hK hl hsp hc hx (hc ▸ hy))
    · exact L _ (by decide) (by decide) (by decide) (c0_38a E hE t w h hcl K hK hl hsp hc hx (hc ▸ hy))
    · exact L _ (by decide) (by decide) (by decide) (c0_124a E hE t w h hcl K hK hl hsp hc hx (hc ▸ hy))
  | dbl2 hc hx =>
    simp only [List.mem_cons, List.mem_nil_iff, or_false] at hc
    rcases hc with hc | hc | hc <;> rcases hx with hx | hx
    · exact L _ (by decide) (by decide) (by decide) (c0_43b E hE t w h hcl K hK hl hsp hc hx)
    · exact L _ (by decide) (by decide) (by decide) (c0_43c E hE t w h hcl K hK hl hsp hc (hx.trans hc))
    · exact L _ (by decide) (by decide) (by decide) (c0_38b E hE t w h hcl K hK hl hsp hc hx)
    · exact L _ (by decide) (by decide) (by decide) (c0_38c E hE t w h hcl K hK hl hsp hc (hx.trans hc))
    · exact L _ (by decide) (by decide) (by decide) (c0_124b E hE t w h hcl K hK hl hsp hc hx)
    · exact L _ (by decide) (by decide) (by decide) (c0_124c E hE t w h hcl K hK hl hsp hc (hx.trans hc))
  | min1 hc hx hy hz => exact L _ (by decide) (by decide) (by decide) (c0_45a E hE t w h hcl K hK hl hsp hc hx hy hz)
  | min2 hc hx =>
    rcases hx with hx | hx | hx
    · exact L _ (by decide) (by decide) (by decide) (c0_45b E hE t w h hcl K hK hl hsp hc hx)
    · exact L _ (by decide) (by decide) (by decide) (c0_45c E hE t w h hcl K hK hl hsp hc hx)
    · exact L _ (by decide) (by decide) (by decide) (c0_45d E hE t w h hcl K hK hl hsp hc hx)
  | hash1 hc hx => exact (c0_35a E hE t w h hcl K hK hl hsp hc hx).mono fun _ _ hq => TokP.of_moves hq ⟨by decide, by decide, fun _ => ⟨hc, hx⟩⟩
  | hash2 hc hx => exact L _ (by decide) (by decide) (by decide) (c0_35b E hE t w h hcl K hK hl hsp hc hx)
  | ang1 hc hx hy =>
    simp only [List.mem_cons, List.mem_nil_iff, or_false] at hc
    rcases hc with hc | hc
    · exact L _ (by decide) (by decide) (by decide) (c0_60a E hE t w h hcl K hK hl hsp hc hx (hc ▸ hy))
    · exact L _ (by decide) (by decide) (by decide) (c0_62a E hE t w h hcl K hK hl hsp hc hx (hc ▸ hy))
  | ang2 hc hx =>
    simp only [List.mem_cons, List.mem_nil_iff, or_false] at hc
    rcases hc with hc | hc
    · exact L _ (by decide) (by decide) (by decide) (c0_60b E hE t w h hcl K hK hl hsp hc hx)
    · exact L _ (by decide) (by decide) (by decide) (c0_62b E hE t w h hcl K hK hl hsp hc hx)
  | ang2b hc hx hy =>
    simp only [List.mem_cons, List.mem_nil_iff, or_false] at hc
    rcases hc with hc | hc
    · exact L _ (by decide) (by decide) (by decide) (c0_60c E hE t w h hcl K hK hl hsp hc (hx.trans hc) hy)
    · exact L _ (by decide) (by decide) (by decide) (c0_62c E hE t w h hcl K hK hl hsp hc (hx.trans hc) hy)
  | ang3 hc hx hy =>
    simp only [List.mem_cons, List.mem_nil_iff, or_false] at hc
    rcases hc with hc | hc
    · exact L _ (by decide) (by decide) (by decide) (c0_60d E hE t w h hcl K hK hl hsp hc (hx.trans hc) hy)
    · exact L _ (by decide) (by decide) (by decide) (c0_62d E hE t w h hcl K hK hl hsp hc (hx.trans hc) hy)
  | dot1 hc hx hy =>
    have hy2 : E.at (K + 1) < 48 ∨ 57 < E.at (K + 1) := by unfold isDg at hy; simp at hy; omega
    rcases hy2 with hy2 | hy2
    · exact L _ (by decide) (by decide) (by decide) (c0_46a1 E hE t w h hcl K hK hl hsp hc hx hy2)
    · exact L _ (by decide) (by decide) (by decide) (c0_46a2 E hE t w h hcl K hK hl hsp hc hy2)
  | dot3 hc hx hy => exact L _ (by decide) (by decide) (by decide) (c0_46c E hE t w h hcl K hK hl hsp hc hx hy)
  | dotNum _ hc hy hr => exact L _ (by decide) (by decide) (by decide) (c0_46n E hE t w h hcl K hK hsp hc n hl hy hr)
  | num _ hd hr => exact L _ (by decide) (by decide) (by decide) (c0_num E hE t w h hcl K hK hsp hd n hl hr)
  | str _ hc h2 hin hq =>
    obtain ⟨m, rfl⟩ : ∃ m, n = m + 2 := ⟨n - 2, by omega⟩
    exact L _ (by decide) (by decide) (by decide) (c0_str E hE t w h hcl K hK hsp hc (K + m + 1) (m + 2) rfl (by omega) hl (fun j h1 h2 => hin j h1 (by omega)) hq)
  | chr _ hc h2 hin hq =>
    obtain ⟨m, rfl⟩ : ∃ m, n = m + 2 := ⟨n - 2, by omega⟩
    exact L _ (by decide) (by decide) (by decide) (c0_chr E hE t w h hcl K hK hsp hc (K + m + 1) (m + 2) rfl (by omega) hl (fun j h1 h2 => hin j h1 (by omega)) hq)
  | ident _ hc hL hu hn hin hout hd =>
    rcases hc with hc | hc
    · have hr : (65 ≤ E.at K ∧ E.at K ≤ 75) ∨ E.at K = 76 ∨ (77 ≤ E.at K ∧ E.at K ≤ 90) ∨ (97 ≤ E.at K ∧ E.at K ≤ 116) ∨ E.at K = 117 ∨ (118 ≤ E.at K ∧ E.at K ≤ 122) := by
        unfold isAl at hc; simp at hc; omega
      rcases hr with ⟨a, b⟩ | a | ⟨a, b⟩ | ⟨a, b⟩ | a | ⟨a, b⟩
      · exact L _ (by decide) (by decide) (by decide) (c0_idA E hE t w h hcl K hK hsp a b n hn hl hin hout hd)
      · exact L _ (by decide) (by decide) (by decide) (c0_idL E hE t w h hcl K hK hsp a n hn hl hin hout hd (hL a).1 (hL a).2)
      · exact L _ (by decide) (by decide) (by decide) (c0_idM E hE t w h hcl K hK hsp a b n hn hl hin hout hd)
      · exact L _ (by decide) (by decide) (by decide) (c0_ida E hE t w h hcl K hK hsp a b n hn hl hin hout hd)
      · by_cases h56 : E.at (K + 1) = 56
        · exact L _ (by decide) (by decide) (by decide) (c0_idub E hE t w h hcl K hK hsp a n hn hl hin hout hd h56 ((hu a).resolve_left (fun h => h h56)))
        · exact L _ (by decide) (by decide) (by decide) (c0_idua E hE t w h hcl K hK hsp a n hn hl hin hout hd h56)
      · exact L _ (by decide) (by decide) (by decide) (c0_idv E hE t w h hcl K hK hsp a b n hn hl hin hout hd)
    · exact L _ (by decide) (by decide) (by decide) (c0_idu E hE t w h hcl K hK hsp hc n hn hl hin hout hd)

/-- cppScan at a token. -/
theorem cpp_tok (E : Env) (hE : EnvOk E) (t : St) (w : World) (h : Sc E t w) (hcl : t.closed = false) (hst : t.state = 0 ∨ t.state = 2) (K : Nat) (hK : t.off ≤ K) (n : Nat) (hl : K + n < E.text.length)
    (hsp : ∀ i, t.off ≤ i → i < K → E.at i = 32) (hnl : E.at K ≠ 10) (ht : Tok1 E.at K n) (hh : t.state = 0 → E.at K = 35 → E.at (K + 1) = 35) :
    Calls Tryd.prog 38 #[.pointer (some ⟨E.S, 0, none⟩)] w (TokP E (kindOk E K) { mv E (tk t K) (K + n) with state := 2 } t.off K n w) := by
  rcases hst with hst | hst
  · refine cpp_other0 E (kindOk E K) t (mv E (tk t K) (K + n)) w h hst hst t.off K n ?_ (fun w' h' => c0_any E hE t w' h' hcl K hK n hl hsp hnl ht)
    intro ch ⟨h1, _, h3⟩
    exact ⟨h1, fun e => (h3 e).2 (hh hst (h3 e).1)⟩
  · have := cpp_other2 E (kindOk E K) t (mv E (tk t K) (K + n)) w h hst hst t.off K n (fun _ hp => hp.1) (fun w' h' => c0_any E hE t w' h' hcl K hK n hl hsp hnl ht)
    have e : { mv E (tk t K) (K + n) with state := 2 } = mv E (tk t K) (K + n) := by
      simp [mv, hst]
    rw [e]; exact this

/-- cppScan at a line end with more behind it. -/
theorem cpp_nl (E : Env) (hE : EnvOk E) (t : St) (w : World) (h : Sc E t w) (hcl : t.closed = false) (hst : t.state = 0 ∨ t.state = 2) (K : Nat) (hK : t.off ≤ K) (hl : K + 1 < E.text.length)
    (hsp : ∀ i, t.off ≤ i → i < K → E.at i = 32) (hnl : E.at K = 10) :
    Calls Tryd.prog 38 #[.pointer (some ⟨E.S, 0, none⟩)] w (TokP E (· = 10) { mv E (tk t K) (K + 1) with state := 0 } t.off K 1 w) := by
  have hc : ∀ w : World, Sc E t w → Calls Tryd.prog 44 #[.pointer (some ⟨E.S, 0, none⟩)] w (TokP E (· = 10) (mv E (tk t K) (K + 1)) t.off K 1 w) :=
    fun w' h' => (c0_10 E hE t w' h' hcl K hK hl hsp hnl).mono fun _ _ hq => TokP.of_moves hq rfl
  rcases hst with hst | hst
  · exact cpp_nl0 E (· = 10) t (mv E (tk t K) (K + 1)) w h hst hst t.off K 1 (fun _ hp => hp) hc
  · exact cpp_nl2 E (· = 10) t (mv E (tk t K) (K + 1)) w h hst hst t.off K 1 (fun _ hp => hp) hc

/-- cppScan at the last line end. -/
theorem cpp_nle (E : Env) (hE : EnvOk E) (t : St) (w : World) (h : Sc E t w) (hcl : t.closed = false) (hst : t.state = 0 ∨ t.state = 2) (K : Nat) (hK : t.off ≤ K) (hl : K + 1 = E.text.length)
    (hsp : ∀ i, t.off ≤ i → i < K → E.at i = 32) (hnl : E.at K = 10) :
    Calls Tryd.prog 38 #[.pointer (some ⟨E.S, 0, none⟩)] w (TokP E (· = 10) { ml (tk t K) (K + 1) (-1) 1 with closed := true, state := 0 } t.off K 1 w) := by
  have hc : ∀ w : World, Sc E t w → Calls Tryd.prog 44 #[.pointer (some ⟨E.S, 0, none⟩)] w (TokP E (· = 10) { ml (tk t K) (K + 1) (-1) 1 with closed := true } t.off K 1 w) :=
    fun w' h' => (c0_10e E hE t w' h' hcl K hK hl hsp hnl).mono fun _ _ hq => TokP.of_moves hq rfl
  rcases hst with hst | hst
  · exact cpp_nl0 E (· = 10) t { ml (tk t K) (K + 1) (-1) 1 with closed := true } w h hst hst t.off K 1 (fun _ hp => hp) hc
  · exact cpp_nl2 E (· = 10) t { ml (tk t K) (K + 1) (-1) 1 with closed := true } w h hst hst t.off K 1 (fun _ hp => hp) hc

/-- At the end: whatever is left of the scanner. -/
def AtEnd (E : Env) (w : World) (e : Ending) (w' : World) : Prop := ∃ (s : St) (sep src : Nat), e = .returned (tokV E (-1) sep src 0) ∧ Sc E s w' ∧ Kept E w w'

/-- cppScan at the end. -/
theorem cpp_eof (E : Env) (hE : EnvOk E) (t : St) (w : World) (h : Sc E t w) (hst : t.state = 0 ∨ t.state = 2) (ho : t.off = E.text.length) (hcl : t.closed = true ∨ (t.closed = false ∧ t.ch < 0)) :
    Calls Tryd.prog 38 #[.pointer (some ⟨E.S, 0, none⟩)] w (AtEnd E w) := by
  have hc : ∃ s1 : St, s1.state = t.state ∧ ∀ w : World, Sc E t w → Calls Tryd.prog 44 #[.pointer (some ⟨E.S, 0, none⟩)] w (TokP E (· = -1) s1 t.off t.off 0 w) := by
    rcases hcl with hcl | ⟨hcl, hch⟩
    · exact ⟨{ t with sep := t.off, src := t.off }, rfl, fun w' h' => (c0_closed E hE t w' h' hcl (Nat.le_of_eq ho)).mono fun _ _ hq => TokP.of_moves hq rfl⟩
    · exact ⟨{ t with sep := t.off, src := t.off, closed := true }, rfl, fun w' h' => (c0_end E hE t w' h' hcl hch ho).mono fun _ _ hq => TokP.of_moves hq rfl⟩
  obtain ⟨s1, hs1, hc⟩ := hc
  rcases hst with hst | hst
  · refine (cpp_other0 E (· = -1) t s1 w h hst (hs1.trans hst) t.off t.off 0 (fun _ hp => by subst hp; decide) hc).mono ?_
    rintro e w' ⟨ch, rfl, hch, hsc, hk⟩
    subst hch
    exact ⟨_, _, _, rfl, hsc, hk⟩
  · refine (cpp_other2 E (· = -1) t s1 w h hst (hs1.trans hst) t.off t.off 0 (fun _ hp => by subst hp; decide) hc).mono ?_
    rintro e w' ⟨ch, rfl, hch, hsc, hk⟩
    subst hch
    exact ⟨_, _, _, rfl, hsc, hk⟩
end Go.Proofs.YtfooeinfgmfhpaaDoor
