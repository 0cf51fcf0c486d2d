/- FnLongest: the row and its tied card. -/
import Derived.Test.YtfooeinfgmfhpaaDoorLgC
import Derived.Test.YtfooeinfgmfhpaaDoorLwE
import Derived.Test.YtfooeinfgmfhpaaDoorTie
import Derived.Test.YtfooeinfgmfhpaaDoorCards
import Derived.Deep.Strs
namespace Go.Proofs.YtfooeinfgmfhpaaDoor
open Go.ChangeShapes Go.WideShapes Go.ChangeAt Go.RowKit

theorem cells9 : Tryd.prog.cellsOf 9 = 1 := by kernel_rfl

theorem below_of {W W' : World} (h : W.grownBy W' none) : Below W.heap.size W W' := ⟨h.os, h.tape, h.output, h.size, fun k hk => h.block k hk (by simp)⟩

set_option maxRecDepth 200000 in
theorem fnLongest_lifted (os : Os) (started : os.Started) (H : Type) (enc : TypeId × Value → H) :
    ReturnsInHanded {} Tryd.checked os 3 .any (fun w args => (Rows.fnLongestSpec.pre enc Tryd.prog Tryd.f3 [] false w args ∧ laidMetH Tryd.prog laid5 w) ∧ sizedMet enc Tryd.prog Tryd.f3 (OpenSpec.ofChange Rows.fnLongestSpec) false w args)
      (Rows.fnLongestSpec.post enc Tryd.prog Tryd.f3 false true false false) := by
  refine returnsInHanded_of_change_and (C := Tryd.checked) (X := fun w _ => laidMetH Tryd.prog laid5 w) (fun _ _ _ hh h => h.of_heap hh) own started (by kernel_rfl) Tryd.func3
    (ChangeSpec.witness_shaped (enc := enc) (C := Tryd.checked) (os := os) (X := fun w _ => laidMetH Tryd.prog laid5 w) false (World.laidAll Tryd.prog os laid5) #[.slice none 0 0] 8 (World.laidAll_os _ _ _)
      (World.shaped_of_ZipB (by kernel_rfl) (by kernel_rfl)) (by kernel_rfl) (by kernel_rfl) (by kernel_rfl) (met5 os _)) ?_
  intro W base args ds gs before hval0 hW _ _ hL _
  have hval : ∀ (j : Nat) t v, Tryd.f3.params[j]? = some t → args[j]? = some v → Value.okWide Tryd.prog W .any base t v := hval0
  have hW' := hW
  obtain ⟨p, q, hA0, hV, rfl, _, _⟩ := hW
  have hA : DataW.TrodAll enc Tryd.prog W 0 (fun _ => true) true Tryd.f3.params.toList args.toList ds p := hA0
  rw [Tryd.params3] at hA hval
  obtain ⟨v0, d0, rfl, rfl, h0⟩ := trodAll_one hA
  obtain ⟨rfl, rfl⟩ := trodVars_none hV
  obtain ⟨a0, len, cap, rfl⟩ := okWide_slice Tryd.underlying22 (hval 0 22 v0 rfl rfl)
  simp only [List.append_nil] at hW'
  have hlt : ∀ x ∈ p, x.block < W.heap.size := fun x hx => by simpa using hW'.lt x hx
  obtain ⟨hG, hpos⟩ := tbl_of_laid hL
  obtain ⟨S, hst, hn, hS⟩ : ∃ S : Nat → ByteArray, StrsAt W a0 len S ∧ len ≤ 9223372036854775807 ∧ ∀ i, i < len → (S i).size ≤ 9223372036854775807 := by
    obtain ⟨fuel, hf⟩ := h0
    rcases Deep.open_strs Tryd.underlying22 Tryd.underlying9 cells9 hf with ⟨hc, _⟩ | ⟨a, len', cap', m, Sx, hc, _, hl, hm, hmm, _, hcell⟩
    · simp [Value.cells] at hc
      obtain ⟨rfl, rfl, rfl⟩ := hc
      exact ⟨fun _ => ByteArray.empty, fun i hi => by omega, by decide, fun i hi => by omega⟩
    · simp [Value.cells] at hc
      obtain ⟨rfl, rfl, rfl⟩ := hc
      have hlm : len ≤ m := by rw [hmm]; split <;> omega
      have hmax : maxLen = 9223372036854775807 := rfl
      exact ⟨Sx, fun i hi => ⟨a, rfl, (hcell i (by omega)).1⟩, by omega, fun i hi => by have := (hcell i (by omega)).2; omega⟩
  refine (fnLongest_walk a0 len cap S W hst hn hpos hG).mono fun e W' ⟨he, hg⟩ => ?_
  subst he
  have bel := below_of hg
  exact ⟨_, rfl, [d0], [], p, [], p, [], hW', trodAll_mk1 (shut_bool Tryd.underlying4 _), trodAll_mk1 (Below.trod laidOut (by kernel_rfl) (of_decide_eq_true (by kernel_rfl)) h0 bel hlt), rfl, bel.frame _, fun h => by cases h⟩

theorem fnLongest_holds : Rows.FnLongestSaid :=
  OpenClaim.holds_of_wide 3 Tryd.f3 rfl rfl rfl rfl rfl rfl rfl ⟨rfl, rfl, rfl, rfl, rfl⟩ rfl rfl rfl rfl rfl (by kernel_rfl) Tryd.func3 (by kernel_rfl)
    (of_decide_eq_true (by kernel_rfl)) (by unfold Func.isWrapper; first | (rw [if_pos (by decide +kernel)]; kernel_rfl) | (rw [if_neg (by decide +kernel)]; exact ⟨rfl, rfl⟩))
    (fun os started H enc _ => fnLongest_lifted os started H enc)

theorem fnLongest_card : Rows.FnLongestCardSaid :=
  Claim7.holds_tied_plain_at .later [] [.data, .data, .pinned, .pinned, .pinned] true (true, "d6202f4be4604237a2d905750e86265f7345d5ddce109a6a9275b166888a5077") false
    fnLongest_holds (fun _ h => by cases h) (by kernel_rfl) (fun _ h => by cases h) fnLongest_row_tie rfl ⟨rfl, rfl⟩ (by kernel_rfl) rfl
    (fun f fn hf hfn => by
      obtain rfl : f = 3 := Option.some.inj ((show Tryd.prog.funcNamed "loop.example/pub-macrosexpanded/laws.FnLongest" = some 3 by kernel_rfl).symm.trans hf) |>.symm
      obtain rfl : fn = Tryd.f3 := (Option.some.inj (Tryd.func3.symm.trans hfn)).symm
      exact ⟨by kernel_rfl, fun j t ht => by
        rw [Tryd.params3] at ht
        have hm : t ∈ [22] := by simpa using Array.mem_of_getElem? ht
        have hall : ([22].all fun u => !Tryd.prog.wantsStandIn u) = true := by kernel_rfl
        exact (show Tryd.prog.wantsStandIn t = false by simpa using List.all_eq_true.1 hall t hm)⟩)
    (by kernel_rfl)
end Go.Proofs.YtfooeinfgmfhpaaDoor
