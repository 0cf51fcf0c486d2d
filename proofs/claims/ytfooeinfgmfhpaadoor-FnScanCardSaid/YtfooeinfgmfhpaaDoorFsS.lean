/- FnScan: the row and its tied card. -/
import Derived.Test.YtfooeinfgmfhpaaDoorFsR
import Derived.Test.YtfooeinfgmfhpaaDoorLwE
import Derived.Test.YtfooeinfgmfhpaaDoorTie
import Derived.Test.YtfooeinfgmfhpaaDoorCards
import Derived.Deep.Strs
import Derived.Deep.SlicePairs
namespace Go.Proofs.YtfooeinfgmfhpaaDoor
open Go.ChangeShapes Go.WideShapes Go.ChangeAt Go.RowKit

theorem cells9 : Tryd.prog.cellsOf 9 = 1 := by kernel_rfl

theorem below_of {W W' : World} (h : W.grownBy W' none) : Below W.heap.size W W' := ⟨h.os, h.tape, h.output, h.size, fun k hk => h.block k hk (by simp)⟩

instance : Inhabited Ln := ⟨⟨none, 0, 0, fun _ => ByteArray.empty, fun _ => false⟩⟩
theorem cells38 : Tryd.prog.cellsOf 38 = 1 := by kernel_rfl
theorem cells60 : Tryd.prog.cellsOf 60 = 2 := by kernel_rfl
theorem cells4 : Tryd.prog.cellsOf 4 = 1 := by kernel_rfl

theorem open_line {H : Type} {enc : TypeId × Value → H} {W : World} {sp : Nat → Bool} {fuel : Nat} {v : Value} {x : DataW H × List MemPlace} (h : DataW.trod enc Tryd.prog W 0 sp true fuel 38 [v] = some x) :
    ∃ y : Ln, v = .slice y.A y.n y.c ∧ ToksAt W y.A y.n y.T y.B ∧ y.n ≤ 9223372036854775807 ∧ ∀ j, j < y.n → (y.T j).size ≤ 9223372036854775807 := by
  rcases Deep.open_slice_pairs Tryd.underlying38 Tryd.underlying60 cells60 rfl rfl cells9 cells4 h with ⟨hc, _⟩ | ⟨a, len, cap, m, k, V0, V1, D0, D1, P0, P1, hc, _, hl, hm, hmm, _, hcell⟩
  · simp at hc
    subst hc
    exact ⟨⟨none, 0, 0, fun _ => ByteArray.empty, fun _ => false⟩, rfl, fun i hi => absurd hi (Nat.not_lt_zero i), Nat.zero_le _, fun j hj => absurd hj (Nat.not_lt_zero j)⟩
  · simp at hc
    subst hc
    have hlm : len ≤ m := by rw [hmm]; split <;> omega
    have hmax : maxLen = 9223372036854775807 := rfl
    have each : ∀ i, i < len → ∃ q : ByteArray × Bool, V0 i = .string q.1 ∧ V1 i = .bool q.2 ∧ q.1.size ≤ 9223372036854775807 := by
      intro i hi
      obtain ⟨h1, h2, h3, h4⟩ := hcell i (by omega)
      obtain ⟨s, e1, _, e3⟩ := DataW.trod_string Tryd.underlying9 h3
      obtain ⟨b, e4, _⟩ := DataW.trod_bool Tryd.underlying4 h4
      exact ⟨(s, b), by simpa using e1, by simpa using e4, by show s.size ≤ _; omega⟩
    obtain ⟨Q, hQ⟩ := Deep.choose_lt each
    refine ⟨⟨some a, len, cap, fun i => (Q i).1, fun i => (Q i).2⟩, rfl, fun i hi => ⟨a, rfl, ?_, ?_⟩, by show len ≤ _; omega, fun j hj => (hQ j hj).2.2⟩
    · rw [(hcell i (by have : i < len := hi; omega)).1, (hQ i hi).1]
    · rw [(hcell i (by have : i < len := hi; omega)).2.1, (hQ i hi).2.1]

theorem open_lines {H : Type} {enc : TypeId × Value → H} {W : World} {sp : Nat → Bool} {fuel : Nat} {A : Option Addr} {n cap : Nat} {x : DataW H × List MemPlace} (h : DataW.trod enc Tryd.prog W 0 sp true fuel 29 (Value.slice A n cap).cells.toList = some x) :
    ∃ X : Nat → Ln, LinesAt W A n X ∧ n ≤ 9223372036854775807 ∧ ∀ i, i < n → ∀ j, j < (X i).n → ((X i).T j).size ≤ 9223372036854775807 := by
  have hmax : maxLen = 9223372036854775807 := rfl
  rcases Deep.open_slice1 Tryd.underlying29 cells38 h with ⟨hc, _⟩ | ⟨a, len, cp, m, k, V, D, Pl, hc, _, hl, hm, hmm, _, hx⟩
  · simp [Value.cells] at hc
    obtain ⟨rfl, rfl, rfl⟩ := hc
    exact ⟨fun _ => ⟨none, 0, 0, fun _ => ByteArray.empty, fun _ => false⟩, fun i hi => absurd hi (Nat.not_lt_zero i), by decide, fun i hi => absurd hi (Nat.not_lt_zero i)⟩
  · simp [Value.cells] at hc
    obtain ⟨rfl, rfl, rfl⟩ := hc
    have hlm : n ≤ m := by rw [hmm]; split <;> omega
    have each : ∀ i, i < n → ∃ y : Ln, V i = .slice y.A y.n y.c ∧ ToksAt W y.A y.n y.T y.B ∧ y.n ≤ 9223372036854775807 ∧ ∀ j, j < y.n → (y.T j).size ≤ 9223372036854775807 := fun i hi => open_line (hx i (by omega)).2
    obtain ⟨X, hX⟩ := Deep.choose_lt each
    refine ⟨X, fun i hi => ⟨a, rfl, ?_, (hX i hi).2.1, (hX i hi).2.2.1⟩, by omega, fun i hi j hj => (hX i hi).2.2.2 j hj⟩
    rw [(hx i (by omega)).1, (hX i hi).1]

set_option maxRecDepth 200000 in
theorem fnScan_lifted (os : Os) (started : os.Started) (H : Type) (enc : TypeId × Value → H) :
    ReturnsInHanded {} Tryd.checked os 4 .any (fun w args => (Rows.fnScanSpec.pre enc Tryd.prog Tryd.f4 [] false w args ∧ laidMetH Tryd.prog laid5 w) ∧ sizedMet enc Tryd.prog Tryd.f4 (OpenSpec.ofChange Rows.fnScanSpec) false w args)
      (Rows.fnScanSpec.post enc Tryd.prog Tryd.f4 false true false false) := by
  refine returnsInHanded_of_change_and (C := Tryd.checked) (X := fun w _ => laidMetH Tryd.prog laid5 w) (fun _ _ _ hh h => h.of_heap hh) own started (by kernel_rfl) Tryd.func4
    (ChangeSpec.witness_shaped (enc := enc) (C := Tryd.checked) (os := os) (X := fun w _ => laidMetH Tryd.prog laid5 w) false (World.laidAll Tryd.prog os laid5) #[.slice none 0 0] 8 (World.laidAll_os _ _ _)
      (World.shaped_of_ZipB (by kernel_rfl) (by kernel_rfl)) (by kernel_rfl) (by kernel_rfl) (by kernel_rfl) (met5 os _)) ?_
  intro W base args ds gs before hval0 hW _ _ hL _
  have hval : ∀ (j : Nat) t v, Tryd.f4.params[j]? = some t → args[j]? = some v → Value.okWide Tryd.prog W .any base t v := hval0
  have hW' := hW
  obtain ⟨p, q, hA0, hV, rfl, _, _⟩ := hW
  have hA : DataW.TrodAll enc Tryd.prog W 0 (fun _ => true) true Tryd.f4.params.toList args.toList ds p := hA0
  rw [Tryd.params4] at hA hval
  obtain ⟨v0, d0, rfl, rfl, h0⟩ := trodAll_one hA
  obtain ⟨rfl, rfl⟩ := trodVars_none hV
  obtain ⟨a0, len, cap, rfl⟩ := okWide_slice Tryd.underlying29 (hval 0 29 v0 rfl rfl)
  simp only [List.append_nil] at hW'
  have hlt : ∀ x ∈ p, x.block < W.heap.size := fun x hx => by simpa using hW'.lt x hx
  obtain ⟨hG, hpos⟩ := tbl_of_laid hL
  have h0' := h0
  obtain ⟨fuel, hf⟩ := h0
  obtain ⟨X, hX, hn, hS⟩ := open_lines hf
  refine (fnScan_walk scans_to a0 len cap X W hX hn hS hpos hG).mono fun e W' ⟨he, hg⟩ => ?_
  subst he
  have bel := below_of hg
  exact ⟨_, rfl, [d0], [], p, [], p, [], hW', trodAll_mk1 (shut_bool Tryd.underlying4 _), trodAll_mk1 (Below.trod laidOut (by kernel_rfl) (of_decide_eq_true (by kernel_rfl)) h0' bel hlt), rfl, bel.frame _, fun h => by cases h⟩

theorem fnScan_holds : Rows.FnScanSaid :=
  OpenClaim.holds_of_wide 4 Tryd.f4 rfl rfl rfl rfl rfl rfl rfl ⟨rfl, rfl, rfl, rfl, rfl⟩ rfl rfl rfl rfl rfl (by kernel_rfl) Tryd.func4 (by kernel_rfl)
    (of_decide_eq_true (by kernel_rfl)) (by unfold Func.isWrapper; first | (rw [if_pos (by decide +kernel)]; kernel_rfl) | (rw [if_neg (by decide +kernel)]; exact ⟨rfl, rfl⟩))
    (fun os started H enc _ => fnScan_lifted os started H enc)

theorem fnScan_card : Rows.FnScanCardSaid :=
  Claim7.holds_tied_plain_at .later [] [.data, .data, .pinned, .pinned, .pinned] true (true, "d6202f4be4604237a2d905750e86265f7345d5ddce109a6a9275b166888a5077") false
    fnScan_holds (fun _ h => by cases h) (by kernel_rfl) (fun _ h => by cases h) fnScan_row_tie rfl ⟨rfl, rfl⟩ (by kernel_rfl) rfl
    (fun f fn hf hfn => by
      obtain rfl : f = 4 := Option.some.inj ((show Tryd.prog.funcNamed "loop.example/pub-macrosexpanded/laws.FnScan" = some 4 by kernel_rfl).symm.trans hf) |>.symm
      obtain rfl : fn = Tryd.f4 := (Option.some.inj (Tryd.func4.symm.trans hfn)).symm
      exact ⟨by kernel_rfl, fun j t ht => by
        rw [Tryd.params4] at ht
        have hm : t ∈ [29] := by simpa using Array.mem_of_getElem? ht
        have hall : ([29].all fun u => !Tryd.prog.wantsStandIn u) = true := by kernel_rfl
        exact (show Tryd.prog.wantsStandIn t = false by simpa using List.all_eq_true.1 hall t hm)⟩)
    (by kernel_rfl)
end Go.Proofs.YtfooeinfgmfhpaaDoor
