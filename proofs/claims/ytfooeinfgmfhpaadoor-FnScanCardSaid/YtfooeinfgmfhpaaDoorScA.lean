/- The scanner's memory: how the scanner, its source, its file and the file's row of lines lie in blocks, and what a call of one of its methods leaves as it was. -/
import Derived.Test.YtfooeinfgmfhpaaDoorProg
import Derived.WalkKit
import Derived.WalkSpells
import Derived.WalkLawsBesides
import Derived.Lib.Hide
namespace Go.Proofs.YtfooeinfgmfhpaaDoor
open Go.RowKit

/-- Where the scanner's things lie, and the text that it reads. -/
structure Env where
  S : Nat
  SS : Nat
  F : Nat
  B : Nat
  cap : Nat
  base : Nat
  eh : Value
  fs : Value
  nm : ByteArray
  text : List UInt8

/-- What changes in a scanner. -/
structure St where
  off : Nat
  ch : Int
  chSize : Int
  state : Int
  sep : Nat
  src : Nat
  closed : Bool

def Env.at (E : Env) (i : Nat) : Nat := (E.text[i]?.getD 0).toNat

def St.cells (E : Env) (s : St) : Array Value :=
  #[.pointer (some ⟨E.SS, 0, none⟩), E.eh, .int .i64 s.chSize, .int .i64 s.state, .int .i32 s.ch, .int .u32 s.off, .int .u32 s.sep, .int .u32 s.src, .bool s.closed, .bool false]

def Env.srcCells (E : Env) : Array Value :=
  #[.slice (some ⟨E.B, 0, none⟩) E.text.length E.cap, .pointer (some ⟨E.F, 0, none⟩), E.fs, .int .i32 0, .int .u32 E.text.length, .int .i64 1]

/-- unicode.properties at an ASCII byte, as far as letters go. -/
def tbl (i : Nat) : Nat := if (65 ≤ i ∧ i ≤ 90) then 160 else if (97 ≤ i ∧ i ≤ 122) then 192 else if i < 32 then 1 else if i = 127 then 1 else if i = 32 then 144 else if (48 ≤ i ∧ i ≤ 57) then 132 else
  if i = 36 ∨ i = 43 ∨ (60 ≤ i ∧ i ≤ 62) ∨ i = 94 ∨ i = 96 ∨ i = 124 ∨ i = 126 then 136 else 130

structure EnvOk (E : Env) : Prop where
  len : E.text.length ≤ 1000000
  cap : E.text.length ≤ E.cap
  asc : ∀ i, i < E.text.length → E.at i < 128
  bsl : ∀ i, i < E.text.length → E.at i ≠ 92
  last : 0 < E.text.length → E.at (E.text.length - 1) = 10

structure Sc (E : Env) (s : St) (w : World) : Prop where
  hS : w.heap[E.S]? = some (.cells (s.cells E) 84 (0, 0))
  hSS : w.heap[E.SS]? = some (.cells E.srcCells 96 (0, 0))
  hB : ∃ cur fr, w.heap[E.B]? = some (.cells cur 5 fr) ∧ ∀ i, i < E.text.length → cur[i]? = some (.int .u8 (E.at i))
  hF : ∃ (lv : Value) (pre : List Int) (last : Int), w.heap[E.F]? = some (.cells #[.string E.nm, .int .i64 E.text.length, lv, .slice none 0 0] 110 (0, 0)) ∧
    w.ownsRow E.base 3 1 lv (pre.length + 1) ((pre ++ [last]).map (Value.int .i64)) ∧ (pre.length : Int) ≤ last ∧ last ≤ E.text.length
  hG : ∀ i, i < 128 → w.cell? ⟨0, i, none⟩ = some (.int .u8 (tbl i))
  hP : 0 < E.S ∧ 0 < E.F ∧ 0 < E.base

/-- What a method of the scanner leaves: all blocks but the scanner's, the file's, and rows of ints from a number on. -/
structure Kept (E : Env) (w w' : World) : Prop where
  os : w'.os = w.os
  tape : w'.tape = w.tape
  output : w'.output = w.output
  size : w.heap.size ≤ w'.heap.size
  block : ∀ k, k < w.heap.size → k ≠ E.S → k ≠ E.F → (k < E.base ∨ ∀ c fr, w.heap[k]? ≠ some (.cells c 3 fr)) → w'.heap[k]? = w.heap[k]?

theorem Kept.refl (E : Env) (w : World) : Kept E w w := ⟨rfl, rfl, rfl, Nat.le_refl _, fun _ _ _ _ _ => rfl⟩

theorem Kept.trans {E : Env} {a b c : World} (h : Kept E a b) (k : Kept E b c) : Kept E a c :=
  ⟨k.os.trans h.os, k.tape.trans h.tape, k.output.trans h.output, Nat.le_trans h.size k.size, fun i hi hS hF hp => by
    have e := h.block i hi hS hF hp
    exact (k.block i (Nat.lt_of_lt_of_le hi h.size) hS hF (by rw [e]; exact hp)).trans e⟩

theorem Kept.alloc {E : Env} {w w' : World} (h : Kept E w w') (o : Obj) : Kept E w (w'.alloc o) :=
  h.trans ⟨rfl, rfl, rfl, by simp, fun k hk _ _ _ => heap_alloc_old w' o hk⟩

theorem Kept.drew {E : Env} {w w' : World} (h : Kept E w w') : Kept E w w'.drew := h.trans ⟨rfl, rfl, rfl, Nat.le_refl _, fun _ _ _ _ _ => rfl⟩

theorem Kept.drewN {E : Env} {w w' : World} (h : Kept E w w') (n : Nat) : Kept E w (w'.drewN n) := h.trans ⟨rfl, rfl, rfl, Nat.le_refl _, fun _ _ _ _ _ => rfl⟩

theorem Kept.setS {E : Env} {w w' : World} (h : Kept E w w') (i : Nat) (v : Value) : Kept E w (w'.setCell ⟨E.S, i, none⟩ v) :=
  h.trans ⟨rfl, rfl, rfl, by simp, fun k _ hS _ _ => heap_setCell_other w' _ k v (by simpa using hS)⟩

theorem Kept.setF {E : Env} {w w' : World} (h : Kept E w w') (i : Nat) (v : Value) : Kept E w (w'.setCell ⟨E.F, i, none⟩ v) :=
  h.trans ⟨rfl, rfl, rfl, by simp, fun k _ _ hF _ => heap_setCell_other w' _ k v (by simpa using hF)⟩

/-- A store into a block that the call itself has made. -/
theorem Kept.setNew {E : Env} {w w' : World} (h : Kept E w w') (a : Addr) (v : Value) (ha : w.heap.size ≤ a.block) : Kept E w (w'.setCell a v) :=
  ⟨h.os, h.tape, h.output, by simpa using h.size, fun k hk hS hF hp => (heap_setCell_other w' a k v (by omega)).trans (h.block k hk hS hF hp)⟩

/-- Append to the row of lines. -/
theorem Kept.grown {E : Env} {w w' w'' : World} {lv : Value} {n : Nat} {xs : List Value} (h : Kept E w w') (ho : w'.ownsRow E.base 3 1 lv n xs) (hg : w'.grownBy w'' lv.ownBlock) : Kept E w w'' :=
  h.trans ⟨hg.os, hg.tape, hg.output, hg.size, fun k hk _ _ hp => hg.block k hk (by
    intro e
    rcases ho.2 with ⟨rfl, _⟩ | ⟨g, cap, cur, rfl, hb, hgg, _⟩
    · simp [Value.ownBlock] at e
    · simp [Value.ownBlock] at e
      subst e
      rcases hp with hp | hp
      · omega
      · exact hp _ _ hgg)⟩

section
variable {E : Env} {s s' : St} {w w' : World}

theorem Sc.cell (h : Sc E s w) (i : Nat) : w.cell? ⟨E.S, i, none⟩ = (s.cells E)[i]? := cell_of_row w E.S i _ 84 (0, 0) h.hS
theorem Sc.frozen (h : Sc E s w) (i : Nat) : w.frozen? ⟨E.S, i, none⟩ = false := by simp [World.frozen?, h.hS]
theorem Sc.scell (h : Sc E s w) (i : Nat) : w.cell? ⟨E.SS, i, none⟩ = E.srcCells[i]? := cell_of_row w E.SS i _ 96 (0, 0) h.hSS
theorem Sc.bcell (h : Sc E s w) (i : Nat) (hi : i < E.text.length) : w.cell? ⟨E.B, i, none⟩ = some (.int .u8 (E.at i)) := by
  obtain ⟨cur, fr, hb, hc⟩ := h.hB
  rw [cell_of_row w E.B i cur 5 fr hb]; exact hc i hi
theorem Sc.lt (h : Sc E s w) : E.S < w.heap.size := (Array.getElem?_eq_some_iff.1 h.hS).1
theorem Sc.neSS (h : Sc E s w) : E.SS ≠ E.S := by intro e; have := h.hSS; rw [e, h.hS] at this; simp at this
theorem Sc.neF (h : Sc E s w) : E.F ≠ E.S := by
  intro e; obtain ⟨_, _, _, hf, _⟩ := h.hF; rw [e, h.hS] at hf; simp at hf
theorem Sc.neSSF (h : Sc E s w) : E.SS ≠ E.F := by
  intro e; obtain ⟨_, _, _, hf, _⟩ := h.hF; rw [← e, h.hSS] at hf; simp at hf

/-- A world that keeps all but the scanner's own block and the file's. -/
theorem Sc.of_kept (h : Sc E s w) (hk : Kept E w w') (hS : w'.heap[E.S]? = some (.cells (s'.cells E) 84 (0, 0)))
    (hF : ∃ (lv : Value) (pre : List Int) (last : Int), w'.heap[E.F]? = some (.cells #[.string E.nm, .int .i64 E.text.length, lv, .slice none 0 0] 110 (0, 0)) ∧
      w'.ownsRow E.base 3 1 lv (pre.length + 1) ((pre ++ [last]).map (Value.int .i64)) ∧ (pre.length : Int) ≤ last ∧ last ≤ E.text.length) : Sc E s' w' := by
  refine ⟨hS, ?_, ?_, hF, fun i hi => ?_, h.hP⟩
  · rw [hk.block E.SS (Array.getElem?_eq_some_iff.1 h.hSS).1 h.neSS h.neSSF (Or.inr (by intro c fr e; rw [h.hSS] at e; simp at e))]
    exact h.hSS
  · obtain ⟨cur, fr, hb, hc⟩ := h.hB
    refine ⟨cur, fr, ?_, hc⟩
    rw [hk.block E.B (Array.getElem?_eq_some_iff.1 hb).1 ?_ ?_ (Or.inr (by intro c fr e; rw [hb] at e; simp at e))]
    · exact hb
    · intro e; rw [e, h.hS] at hb; simp at hb
    · intro e; obtain ⟨_, _, _, hf, _⟩ := h.hF; rw [← e, hb] at hf; simp at hf
  · have hl := World.block_lt_of_cell? w _ (h.hG i hi)
    rw [← h.hG i hi]
    exact World.cell?_of_block (hk.block 0 hl (Nat.ne_of_lt h.hP.1) (Nat.ne_of_lt h.hP.2.1) (Or.inl h.hP.2.2))

/-- .. that also keeps the file and the row of lines. -/
theorem Sc.of_grown (h : Sc E s w) (row : Option Nat) (hg : w.grownBy w' row) (hr : ∀ k, row = some k → k = E.S ∨ w.heap.size ≤ k) (hS : w'.heap[E.S]? = some (.cells (s'.cells E) 84 (0, 0))) : Sc E s' w' := by
  obtain ⟨lv, pre, last, hf, ho, h1, h2⟩ := h.hF
  have hk : Kept E w w' := ⟨hg.os, hg.tape, hg.output, hg.size, fun k hk hS _ _ => hg.block k hk (by
    intro e; rcases hr k e.symm with e' | e'
    · exact hS e'
    · omega)⟩
  refine h.of_kept hk hS ⟨lv, pre, last, ?_, ?_, h1, h2⟩
  · rw [hg.block E.F (Array.getElem?_eq_some_iff.1 hf).1 ?_]
    · exact hf
    · intro e; rcases hr _ e.symm with e' | e'
      · exact h.neF e'
      · have := (Array.getElem?_eq_some_iff.1 hf).1; omega
  · refine ho.kept hg ?_
    by_cases hn : lv.ownBlock = none
    · exact Or.inl hn
    · right
      intro e
      obtain ⟨g, hgg⟩ := Option.ne_none_iff_exists'.1 hn
      rw [hgg] at e
      rcases hr g e.symm with e' | e'
      · rcases ho.2 with ⟨rfl, _⟩ | ⟨g', cap, cur, rfl, hb, hh, _⟩
        · simp [Value.ownBlock] at hgg
        · simp [Value.ownBlock] at hgg
          subst hgg
          rw [e', h.hS] at hh; simp at hh
      · have := ho.lt g hgg; omega

theorem Sc.alloc (h : Sc E s w) (o : Obj) : Sc E s (w.alloc o) :=
  h.of_grown none (World.grownBy_alloc w o none) (by simp) (by rw [heap_alloc_old w o h.lt]; exact h.hS)

theorem Sc.drew (h : Sc E s w) : Sc E s w.drew := h.of_grown none ⟨rfl, rfl, rfl, Nat.le_refl _, fun _ _ _ => rfl⟩ (by simp) h.hS
theorem Sc.drewN (h : Sc E s w) (n : Nat) : Sc E s (w.drewN n) := h.of_grown none ⟨rfl, rfl, rfl, Nat.le_refl _, fun _ _ _ => rfl⟩ (by simp) h.hS

/-- A store into the scanner. -/
theorem Sc.set (h : Sc E s w) (i : Nat) (v : Value) (hv : (s.cells E).setIfInBounds i v = s'.cells E) : Sc E s' (w.setCell ⟨E.S, i, none⟩ v) :=
  h.of_grown (some E.S) ⟨rfl, rfl, rfl, by simp, fun k _ hk => heap_setCell_other w _ k v (by intro e; exact hk (by simp [e]))⟩ (by simp)
    (by rw [heap_setCell_same w E.S i _ 84 v h.hS, hv])
end
end Go.Proofs.YtfooeinfgmfhpaaDoor
