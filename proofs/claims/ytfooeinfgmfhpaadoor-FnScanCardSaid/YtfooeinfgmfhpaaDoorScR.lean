/- tokensOf: the list of the tokens of a text. -/
import Derived.Test.YtfooeinfgmfhpaaDoorScN
import Derived.Test.YtfooeinfgmfhpaaDoorScQ
namespace Go.Proofs.YtfooeinfgmfhpaaDoor
open Go.RowKit

theorem info58 : (Tryd.prog.info? 58).map (fun i => (i.zero, i.size, i.bytes)) = some (some (.agg zeroTok), 8, 40) := by kernel_rfl

/-- Every token has a sign at least: so many tokens there may be. -/
theorem Scans.count {f : Nat → Nat} {L : Nat} {b : Bool} {k : Nat} {l : List (Nat × Nat)} (h : Scans f L b k l) : k ≤ L → l.length + k ≤ L := by
  induction h with
  | done b => intro _; simp
  | nl b k j l _ _ h _ ih => intro _; have := ih (by omega); omega
  | tok b k j n l _ _ _ ht h _ ih => intro _; have := ih (by omega); have := ht.pos; simp only [List.length_cons]; omega

theorem Scans.view {f : Nat → Nat} {L : Nat} {b : Bool} {k : Nat} {l : List (Nat × Nat)} (h : Scans f L b k l) :
    (k = L ∧ l = []) ∨ (∃ K, k ≤ K ∧ K < L ∧ (∀ i, k ≤ i → i < K → f i = 32) ∧ f K = 10 ∧ Scans f L true (K + 1) l) ∨
      (∃ K n l', l = (K, n) :: l' ∧ k ≤ K ∧ K + n < L ∧ (∀ i, k ≤ i → i < K → f i = 32) ∧ f K ≠ 10 ∧ (b = true → f K = 35 → f (K + 1) = 35) ∧ Tok1 f K n ∧ Scans f L false (K + n) l') := by
  cases h with
  | done => exact Or.inl ⟨rfl, rfl⟩
  | nl _ _ j _ h1 h2 h3 h4 => exact Or.inr (Or.inl ⟨k + j, by omega, h3, fun i h5 h6 => by have := h1 (i - k) (by omega); rwa [show k + (i - k) = i by omega] at this, h2, h4⟩)
  | tok _ _ j n l' h1 h2 h3 h4 h5 h6 => exact Or.inr (Or.inr ⟨k + j, n, l', rfl, by omega, h5, fun i h7 h8 => by have := h1 (i - k) (by omega); rwa [show k + (i - k) = i by omega] at this, h2, h3, h4, h6⟩)

/-- A token's cells, told by its kind, its separator's place, its place and its length. -/
def tokC (E : Env) (x : Int × Nat × Nat × Nat) : List Value :=
  [.pointer (some ⟨E.SS, 0, none⟩), .int .i32 x.1, .int .u32 x.2.2.1, .int .i32 0, .int .u32 x.2.1, .int .u32 x.2.2.1, .int .u32 x.2.2.2, .pointer none]

theorem tokC_len (E : Env) (q : List (Int × Nat × Nat × Nat)) : (q.flatMap (tokC E)).length = q.length * 8 := by
  induction q with
  | nil => rfl
  | cons x q ih => simp only [List.flatMap_cons, List.length_append, ih, List.length_cons, tokC]; simp; omega

/-- A row of tokens grows, or is written into: the scanner does not feel it. -/
theorem Sc.grownT {E : Env} {s : St} {w w' : World} {k : Option Nat} (h : Sc E s w) (hg : w.grownBy w' k) (hk : ∀ j, k = some j → 0 < j ∧ Tk w j 58) : Sc E s w' := by
  obtain ⟨lv, pre, last, hf, ho, h1, h2⟩ := h.hF
  have ne : ∀ (j : Nat) (c' : Array Value) (t' : TypeId) (fr : Nat × Nat), w.heap[j]? = some (Obj.cells c' t' fr) → t' ≠ 58 → w'.heap[j]? = w.heap[j]? := by
    intro j c' t' fr hj htt
    refine hg.block j (Array.getElem?_eq_some_iff.1 hj).1 ?_
    intro e
    obtain ⟨_, c, hc⟩ := hk j e.symm
    rw [hc] at hj; simp at hj; exact htt hj.2.1.symm
  refine ⟨(ne _ _ _ _ h.hS (by decide)).trans h.hS, (ne _ _ _ _ h.hSS (by decide)).trans h.hSS, ?_, ⟨lv, pre, last, (ne _ _ _ _ hf (by decide)).trans hf, ?_, h1, h2⟩, fun i' hi => ?_, h.hP⟩
  · obtain ⟨cur, fr, hb, hcc⟩ := h.hB
    exact ⟨cur, fr, (ne _ _ _ _ hb (by decide)).trans hb, hcc⟩
  · refine ho.kept hg (Or.inr ?_)
    intro e
    rcases ho.2 with ⟨_, hz⟩ | ⟨g, cap, cur, rfl, _, hgg, _⟩
    · omega
    · obtain ⟨_, c, hc⟩ := hk g (by rw [← e]; rfl)
      rw [hc] at hgg; simp at hgg
  · have hl := World.block_lt_of_cell? w _ (h.hG i' hi)
    rw [← h.hG i' hi]
    refine World.cell?_of_block (hg.block 0 hl ?_)
    intro e
    have := (hk 0 e.symm).1
    omega

theorem ownsRow.tk {w : World} {b : Nat} {v : Value} {n : Nat} {xs : List Value} {t : TypeId} {z : Nat} (h : w.ownsRow b t z v n xs) (hb : 0 < b) : ∀ j, v.ownBlock = some j → 0 < j ∧ Tk w j t := by
  intro j hj
  rcases h.2 with ⟨rfl, _⟩ | ⟨g, cap, cur, rfl, h1, h2, _⟩
  · simp [Value.ownBlock] at hj
  · simp [Value.ownBlock] at hj
    subst hj
    exact ⟨by omega, cur, h2⟩

/-- The scanner goes on: a row of tokens is as it was. -/
theorem ownsRow.scan {E : Env} {s : St} {w w' : World} {b : Nat} {v : Value} {n : Nat} {xs : List Value} (h : w.ownsRow b 58 8 v n xs) (hsc : Sc E s w) (hk : Kept E w w') : w'.ownsRow b 58 8 v n xs := by
  refine ⟨h.1, ?_⟩
  rcases h.2 with ⟨rfl, h2⟩ | ⟨g, cap, cur, rfl, h1, h2, h3⟩
  · exact Or.inl ⟨rfl, h2⟩
  · refine Or.inr ⟨g, cap, cur, rfl, h1, ?_, h3⟩
    rw [hk.block g (Array.getElem?_eq_some_iff.1 h2).1 ?_ ?_ (Or.inr (by intro c fr e; rw [h2] at e; simp at e))]
    · exact h2
    · intro e; rw [e, hsc.hS] at h2; simp at h2
    · intro e; obtain ⟨_, _, _, hf, _⟩ := hsc.hF; rw [← e, h2] at hf; simp at hf

/-- The state between two tokens: at the begin of a line (b), and not yet at the end, or there. -/
structure Live (E : Env) (b : Bool) (s : St) : Prop where
  st : s.state = if b then 0 else 2
  off : s.off ≤ E.text.length
  on : s.off < E.text.length → s.closed = false
  en : s.off = E.text.length → s.closed = true ∨ (s.closed = false ∧ s.ch < 0)

theorem Live.two {E : Env} {b : Bool} {s : St} (h : Live E b s) : s.state = 0 ∨ s.state = 2 := by have := h.st; cases b <;> simp_all

/-- A line end is read. -/
theorem Live.line {E : Env} {b : Bool} {s : St} (h : Live E b s) (hE : EnvOk E) (K : Nat) (hK : s.off ≤ K) (hl : K < E.text.length) (hsp : ∀ i, s.off ≤ i → i < K → E.at i = 32) (hnl : E.at K = 10) :
    ∃ s' : St, Live E true s' ∧ s'.off = K + 1 ∧ ∀ w, Sc E s w → Calls Tryd.prog 38 #[.pointer (some ⟨E.S, 0, none⟩)] w (TokP E (· = 10) s' s.off K 1 w) := by
  have hcl := h.on (by omega)
  by_cases he : K + 1 = E.text.length
  · exact ⟨{ ml (tk s K) (K + 1) (-1) 1 with closed := true, state := 0 }, ⟨rfl, Nat.le_of_eq he, fun h => by simp only [ml] at h; omega, fun _ => Or.inl rfl⟩, rfl, fun w hs => cpp_nle E hE s w hs hcl h.two K hK he hsp hnl⟩
  · exact ⟨{ mv E (tk s K) (K + 1) with state := 0 }, ⟨rfl, by simp only [mv]; omega, fun _ => hcl, fun h => by simp only [mv] at h; omega⟩, rfl, fun w hs => cpp_nl E hE s w hs hcl h.two K hK (by omega) hsp hnl⟩

/-- A token is read. -/
theorem Live.tok {E : Env} {b : Bool} {s : St} (h : Live E b s) (hE : EnvOk E) (K n : Nat) (hK : s.off ≤ K) (hl : K + n < E.text.length) (hsp : ∀ i, s.off ≤ i → i < K → E.at i = 32) (hnl : E.at K ≠ 10)
    (hh : b = true → E.at K = 35 → E.at (K + 1) = 35) (ht : Tok1 E.at K n) :
    ∃ s' : St, Live E false s' ∧ s'.off = K + n ∧ ∀ w, Sc E s w → Calls Tryd.prog 38 #[.pointer (some ⟨E.S, 0, none⟩)] w (TokP E (kindOk E K) s' s.off K n w) := by
  have hcl := h.on (by omega)
  refine ⟨{ mv E (tk s K) (K + n) with state := 2 }, ⟨rfl, by simp only [mv]; omega, fun _ => hcl, fun h => by simp only [mv] at h; omega⟩, rfl, fun w hs => cpp_tok E hE s w hs hcl h.two K hK n hl hsp hnl ht (fun h0 => hh ?_)⟩
  have := h.st
  cases b with
  | true => rfl
  | false => rw [h0] at this; simp at this

/-- While the tokens are listed: q has been read, l is to come. -/
structure Toks (E : Env) (w : World) (eb : Nat) (l0 : List (Nat × Nat)) (b : Bool) (s : St) (q : List (Int × Nat × Nat × Nat)) (l : List (Nat × Nat)) (v : Value) (wr : World) : Prop where
  live : Live E b s
  sc : Sc E s wr
  scans : Scans E.at E.text.length b s.off l
  done : q.map (fun x => (x.2.2.1, x.2.2.2)) ++ l = l0
  row : wr.ownsRow w.heap.size 58 8 v q.length (q.flatMap (tokC E))
  gr : w.grownBy wr none
  eb : wr.heap[eb]? = some (.cells #[.int .i64 0] 3 (0, 0))

/-- What holds throughout. -/
structure Stay (E : Env) (w : World) (eb : Nat) : Prop where
  ok : EnvOk E
  base : w.heap.size ≤ E.base
  s : E.base ≤ E.S
  f : E.base ≤ E.F
  e1 : w.heap.size ≤ eb
  e2 : eb < E.base
  w0 : 0 < w.heap.size

theorem Toks.scan {E : Env} {w : World} {eb : Nat} {l0 : List (Nat × Nat)} {b : Bool} {s : St} {q : List (Int × Nat × Nat × Nat)} {l : List (Nat × Nat)} {v : Value} {wr w' : World} (hst : Stay E w eb) (h : Toks E w eb l0 b s q l v wr) (hk : Kept E wr w') :
    w'.ownsRow w.heap.size 58 8 v q.length (q.flatMap (tokC E)) ∧ w.grownBy w' none ∧ w'.heap[eb]? = some (.cells #[.int .i64 0] 3 (0, 0)) := by
  have h1 := hst.base; have h2 := hst.s; have h3 := hst.f; have h4 := hst.e1; have h5 := hst.e2
  refine ⟨ownsRow.scan h.row h.sc hk, ⟨hk.os.trans h.gr.os, hk.tape.trans h.gr.tape, hk.output.trans h.gr.output, Nat.le_trans h.gr.size hk.size, fun k hk' _ => ?_⟩, ?_⟩
  · rw [hk.block k (Nat.lt_of_lt_of_le hk' h.gr.size) (by omega) (by omega) (Or.inl (by omega)), h.gr.block k hk' (by simp)]
  · rw [hk.block eb (Array.getElem?_eq_some_iff.1 h.eb).1 (by omega) (by omega) (Or.inl h5)]
    exact h.eb

theorem own_grown0 {w w' : World} {b : Nat} {e : TypeId} {z : Nat} {v : Value} {n : Nat} {xs : List Value} (h : w.ownsRow b e z v n xs) (hg : w.grownBy w' none) : w'.ownsRow b e z v n xs :=
  h.kept hg (by cases e : v.ownBlock with | none => exact Or.inl rfl | some k => exact Or.inr (by simp))

/-- The number of errors stored as it was. -/
theorem grown_same {w : World} {k : Nat} {v : Value} {t : TypeId} (h : w.heap[k]? = some (.cells #[v] t (0, 0))) : w.grownBy (w.setCell ⟨k, 0, none⟩ v) none :=
  ⟨rfl, rfl, rfl, by simp, fun j _ _ => by
    by_cases e : j = k
    · subst e
      rw [h]
      have := heap_setCell_same w j 0 _ t v h
      simpa using this
    · exact heap_setCell_other w _ j v (by simpa using e)⟩

set_option maxHeartbeats 4000000 in
set_option maxRecDepth 100000 in
theorem tokensOf_any (text : ByteArray) (l : List (Nat × Nat)) (w : World) (ht : TextOk text) (h0 : 0 < w.heap.size) (hG : ∀ i, i < 128 → w.cell? ⟨0, i, none⟩ = some (.int .u8 (tbl i)))
    (hl : Scans (fun i => (text.data.toList[i]?.getD 0).toNat) text.size true 0 l) :
    Calls Tryd.prog 29 #[.string text, .bool false] w fun e w' => ∃ (E : Env) (s : St) (q : List (Int × Nat × Nat × Nat)) (v : Value), e = .returned (.tuple #[v, .int .i64 0]) ∧ EnvOk E ∧ E.text = text.data.toList ∧ Sc E s w' ∧
      q.map (fun x => (x.2.2.1, x.2.2.2)) = l ∧ w'.ownsRow w.heap.size 58 8 v q.length (q.flatMap (tokC E)) ∧ w.grownBy w' none := by
  have HT := Lib.hid ht
  have HG := Lib.hid hG
  have HL := Lib.hid hl
  clear ht hG hl
  go_enter Tryd.func29, Tryd.ntmps29
  go_wp2_with fail
  refine (newFset_any _).mono ?_
  rintro e w1 ⟨rfl, rfl⟩
  go_wp2_with fail
  have hB1 : ((w.alloc (.cells #[.int .i64 0] 3)).alloc (.cells #[.slice none 0 0, .int .i32 0] 88)).heap[w.heap.size + 1]? = some (.cells #[.slice none 0 0, .int .i32 0] 88 (0, 0)) := by
    simpa using heap_alloc_new (w.alloc (.cells #[.int .i64 0] 3)) (.cells #[.slice none 0 0, .int .i32 0] 88)
  have hB0 : ((w.alloc (.cells #[.int .i64 0] 3)).alloc (.cells #[.slice none 0 0, .int .i32 0] 88)).heap[w.heap.size]? = some (.cells #[.int .i64 0] 3 (0, 0)) := by
    rw [heap_alloc_old _ _ (by simp)]; exact heap_alloc_new w _
  have hgr : w.grownBy ((w.alloc (.cells #[.int .i64 0] 3)).alloc (.cells #[.slice none 0 0, .int .i32 0] 88)) none := grown_trans (World.grownBy_alloc _ _ _) (World.grownBy_alloc _ _ _)
  have hG1 : ∀ i, i < 128 → ((w.alloc (.cells #[.int .i64 0] 3)).alloc (.cells #[.slice none 0 0, .int .i32 0] 88)).cell? ⟨0, i, none⟩ = some (.int .u8 (tbl i)) := fun i hi => by
    rw [← HG.out i hi]; exact World.cell?_of_block (hgr.block 0 h0 (by simp))
  have hz : ((w.alloc (.cells #[.int .i64 0] 3)).alloc (.cells #[.slice none 0 0, .int .i32 0] 88)).heap.size = w.heap.size + 2 := by simp
  refine (newScanner_any (w.heap.size + 1) _ text _ _ _ _ HT.out hB1 (by omega) hG1).mono ?_
  rintro e w2 ⟨E, rfl, hE, hEt, hEb, hES, hEF, hg2, hsc⟩
  rw [hz] at hEb hES hEF
  have hgr2 := grown_trans (grown_weaken hgr (some (w.heap.size + 1))) hg2
  have hStay : Hid (Stay E w w.heap.size) := ⟨hE, by omega, by omega, by omega, by omega, by omega, h0⟩
  have heb : w2.heap[w.heap.size]? = some (.cells #[.int .i64 0] 3 (0, 0)) := (hg2.block w.heap.size (by omega) (by intro e; injection e with e; omega)).trans hB0
  have hgr3 : w.grownBy w2 none := ⟨hgr2.os, hgr2.tape, hgr2.output, hgr2.size, fun k hk _ => hgr2.block k hk (by intro e; injection e with e; omega)⟩
  have hlen : E.text.length = text.size := by rw [hEt]; exact len_toList text
  have hToks : Hid (Toks E w w.heap.size l true ⟨0, -1, 0, 0, 0, 0, false⟩ [] l (.slice none 0 0) w2) := by
    refine ⟨⟨rfl, Nat.zero_le _, fun _ => rfl, fun _ => Or.inr ⟨rfl, by decide⟩⟩, hsc, ?_, rfl, World.ownsRow_nil _ _ _ _, hgr3, heb⟩
    rw [hlen]
    have : E.at = (fun i => (text.data.toList[i]?.getD 0).toNat) := by funext i; unfold Env.at; rw [hEt]
    rw [this]; exact HL.out
  have HET := Lib.hid hEt
  clear hE hEt hEb hES hEF hg2 hsc hgr hG1 hz hB1 hB0 hgr2 heb hgr3 hlen HL HG HT h0
  go_wp2_with fail
  go_loopg [4] E.text.length (fun g c wr => ∃ (b : Bool) (s : St) (q : List (Int × Nat × Nat × Nat)) (l2 : List (Nat × Nat)), g = E.text.length - s.off ∧ Toks E w w.heap.size l b s q l2 c wr)
  case atStart => exact ⟨true, _, [], l, rfl, hToks.out⟩
  case round =>
    obtain ⟨b, s, q, l2, hg, hT⟩ := hrel
    have HT := Lib.hid hT
    have HG := Lib.hid hg
    have hE := hStay.out.ok
    have hst : s.state = 0 ∨ s.state = 2 := by have := hT.live.st; cases b <;> simp_all
    rcases hT.scans.view with ⟨h1, h2⟩ | ⟨K, h1, h2, h3, h4, h5⟩ | ⟨K, n, l', h1, h2, h3, h4, h5, h6, h7, h8⟩
    · have hc := fun w' h' => cpp_eof E hE s w' h' hst h1 (hT.live.en h1)
      have HC := Lib.hid hc
      subst h2
      clear hT hg hE hst h1 hc
      go_wp2_with fail
      refine (HC.out _ HT.out.sc).mono ?_
      rintro e w3 ⟨s3, sep, src, rfl, hsc, hk⟩
      have hm := HT.out.scan hStay.out hk
      have HM := Lib.hid hm
      have HSC := Lib.hid hsc
      clear hm hsc hk HC
      go_wp2_with fail
      have hgA := World.grownBy_alloc w3 (.cells #[.pointer (some ⟨E.SS, 0, none⟩), .int .i32 (-1), .int .u32 src, .int .i32 0, .int .u32 sep, .int .u32 src, .int .u32 0, .pointer none] 58) none
      have r1 := HSC.out.grownT hgA (fun j e => by simp at e)
      have r2 := own_grown0 HM.out.1 hgA
      have r3 := grown_trans HM.out.2.1 hgA
      have r4 := (hgA.block _ (Array.getElem?_eq_some_iff.1 HM.out.2.2).1 (by simp)).trans HM.out.2.2
      clear hgA HM HSC
      have R := Lib.hid (And.intro r1 (And.intro r2 (And.intro r3 r4)))
      have c5 := cell_of_row _ _ 0 _ 3 (0, 0) r4
      simp only [List.getElem?_toArray, List.getElem?_cons_zero] at c5
      have c6 : ∀ W : World, W.heap[w.heap.size]? = some (.cells #[.int .i64 0] 3 (0, 0)) → W.frozen? ⟨w.heap.size, 0, none⟩ = false := fun W h => by simp [World.frozen?, h]
      have c7 := c6 _ r4
      clear r1 r2 r3 r4 c6
      generalize w3.alloc (.cells #[.pointer (some ⟨E.SS, 0, none⟩), .int .i32 (-1), .int .u32 src, .int .i32 0, .int .u32 sep, .int .u32 src, .int .u32 0, .pointer none] 58) = w4 at *
      go_region
      have hg5 := grown_trans (grown_same R.out.2.2.2) (grown_drew (w4.setCell ⟨w.heap.size, 0, none⟩ (.int .i64 0)) none)
      have t1 := R.out.1.grownT hg5 (fun j e => by simp at e)
      have t2 := own_grown0 R.out.2.1 hg5
      have t3 := grown_trans R.out.2.2.1 hg5
      have t4 := (hg5.block _ (Array.getElem?_eq_some_iff.1 R.out.2.2.2).1 (by simp)).trans R.out.2.2.2
      have t5 : _ = some (Value.int .i64 0) := cell_of_row _ _ 0 _ 3 (0, 0) t4
      have T := Lib.hid (And.intro hStay.out.ok (And.intro HET.out (And.intro t1 (And.intro (by simpa using HT.out.done) (And.intro t2 t3)))))
      clear R hg5 t1 t2 t3 t4 c5 c7 HT HG
      generalize (w4.setCell ⟨w.heap.size, 0, none⟩ (.int .i64 0)).drew = w5 at *
      go_wp2
      refine bodyPost_ret (v := .tuple #[u4, .int .i64 0]) (by simp [results, Tryd.results29, go_sem, t5]) rfl ⟨E, _, _, u4, rfl, T.out⟩
    · obtain ⟨s', hs', hoff, hc⟩ := hT.live.line hE K h1 h2 h3 h4
      have HC := Lib.hid hc
      have HN := Lib.hid (And.intro hs' (And.intro hoff h5))
      have hm1 : E.text.length - (K + 1) < E.text.length - s.off := by omega
      have HM1 := Lib.hid hm1
      clear hT hg hE hst h1 h2 h3 h4 h5 hc hs' hoff hm1
      go_wp2_with fail
      refine (HC.out _ HT.out.sc).mono ?_
      rintro e w3 ⟨ch, rfl, rfl, hsc, hk⟩
      have hm := HT.out.scan hStay.out hk
      have HM := Lib.hid hm
      have HSC := Lib.hid hsc
      clear hm hsc hk HC
      go_wp2
      go_roundg (E.text.length - s'.off)
      case measure => have := HG.out; have := HM1.out; have := HN.out.2.1; omega
      case rel =>
        have hgA := World.grownBy_alloc w3 (.cells #[.pointer (some ⟨E.SS, 0, none⟩), .int .i32 10, .int .u32 K, .int .i32 0, .int .u32 s.off, .int .u32 K, .int .u32 1, .pointer none] 58) none
        exact ⟨true, s', q, l2, rfl, HN.out.1, HSC.out.grownT hgA (fun j e => by simp at e), by rw [HN.out.2.1]; exact HN.out.2.2, HT.out.done, own_grown0 HM.out.1 hgA, grown_trans HM.out.2.1 hgA, (hgA.block _ (Array.getElem?_eq_some_iff.1 HM.out.2.2).1 (by simp)).trans HM.out.2.2⟩
    · obtain ⟨s', hs', hoff, hc⟩ := hT.live.tok hE K n h2 h3 h4 h5 h6 h7
      have hcnt := hT.scans.count hT.live.off
      have hcq : q.length + l2.length = l.length := by rw [← hT.done]; simp
      have hlen := hE.len
      have hcl0 := (hToks.out.scans.count (Nat.zero_le _))
      have HC := Lib.hid hc
      have HN := Lib.hid (And.intro hs' (And.intro hoff h8))
      have hm1 : E.text.length - (K + n) < E.text.length - s.off := by have := h7.pos; omega
      have HM1 := Lib.hid hm1
      have hq : q.length ≤ 1000000 := by simp at hcl0; omega
      have HQ := Lib.hid hq
      have HL2 := Lib.hid h1
      clear hT hg hE hst h1 h2 h3 h4 h5 h6 h7 h8 hc hs' hoff hm1 hcnt hcq hlen hcl0 hq
      go_wp2_with fail
      refine (HC.out _ HT.out.sc).mono ?_
      rintro e w3 ⟨ch, rfl, hch, hsc, hk⟩
      have hm := HT.out.scan hStay.out hk
      have HM := Lib.hid hm
      have HSC := Lib.hid hsc
      have k1 : (ch == 10) = false := by rw [beq_eq_false_iff_ne]; exact hch.1
      have k2 : (ch == -1) = false := by rw [beq_eq_false_iff_ne]; exact hch.2.1
      have k3 : (ch != 10) = true := by rw [bne_iff_ne]; exact hch.1
      clear hm hsc hk HC hch
      obtain ⟨i0, hi, hz0, hz1, hz2⟩ := info_parts info58
      have hgA := World.grownBy_alloc w3 (.cells #[.pointer (some ⟨E.SS, 0, none⟩), .int .i32 ch, .int .u32 K, .int .i32 0, .int .u32 s.off, .int .u32 K, .int .u32 n, .pointer none] 58) none
      have hgB := World.grownBy_alloc (w3.alloc (.cells #[.pointer (some ⟨E.SS, 0, none⟩), .int .i32 ch, .int .u32 K, .int .i32 0, .int .u32 s.off, .int .u32 K, .int .u32 n, .pointer none] 58)) (.cells #[.pointer (some ⟨E.SS, 0, none⟩), .int .i32 ch, .int .u32 K, .int .i32 0, .int .u32 s.off, .int .u32 K, .int .u32 n, .pointer none] 58) none
      have hgC := Lib.hid (grown_trans hgA hgB)
      have hown := own_grown0 HM.out.1 hgC.out
      have hz3 := HM.out.2.1.size
      clear hgA hgB
      go_wp2_with (at_builtin; go_loud (refine wpList_append_lies _ rfl _ _ 51 rfl w.heap.size 58 i0 (.agg zeroTok) 8 40 Tryd.underlying51 hi hz0 hz1 hz2 rfl (by decide) _ q.length _ rfl hown ⟨w3.heap.size + 1, 0, none⟩ 1 1 (tokC E (ch, s.off, K, n)) rfl rfl ?c1 ?c2 (by decide) ?c3 ?c4 ?c5 (w3.heap.size + 2) ?c6 ?_))
      case c1 =>
        have := World.news_of_block (heap_alloc_new (w3.alloc (.cells #[.pointer (some ⟨E.SS, 0, none⟩), .int .i32 ch, .int .u32 K, .int .i32 0, .int .u32 s.off, .int .u32 K, .int .u32 n, .pointer none] 58)) (.cells #[.pointer (some ⟨E.SS, 0, none⟩), .int .i32 ch, .int .u32 K, .int .i32 0, .int .u32 s.off, .int .u32 K, .int .u32 n, .pointer none] 58))
        rw [show (w3.alloc (.cells #[.pointer (some ⟨E.SS, 0, none⟩), .int .i32 ch, .int .u32 K, .int .i32 0, .int .u32 s.off, .int .u32 K, .int .u32 n, .pointer none] 58)).heap.size = w3.heap.size + 1 by simp] at this
        exact this
      case c2 => intro u hu; simp only [tokC, List.mem_cons, List.mem_nil_iff, or_false] at hu; rcases hu with rfl | rfl | rfl | rfl | rfl | rfl | rfl | rfl <;> rfl
      case c3 => have := HQ.out; unfold maxLen; omega
      case c4 => have := HQ.out; omega
      case c5 => simp; omega
      case c6 => simp
      · intro g cap w4 hown' hgrow _ _
        have HH := Lib.hid (And.intro hown' hgrow)
        have htk := Lib.hid (ownsRow.tk hown hStay.out.w0)
        have hlt := Lib.hid hown.lt
        clear hown' hgrow hown
        go_wp2
        go_roundg (E.text.length - s'.off)
        case measure => have := HG.out; have := HM1.out; have := HN.out.2.1; omega
        case rel =>
          have heb := (hgC.out.block _ (Array.getElem?_eq_some_iff.1 HM.out.2.2).1 (by simp)).trans HM.out.2.2
          have hne : ∀ j, u4.ownBlock = some j → j ≠ w.heap.size := by
            intro j hj e
            obtain ⟨_, c, hc⟩ := htk.out j hj
            rw [e, heb] at hc; simp at hc
          have hg2 := grown_trans HM.out.2.1 hgC.out
          refine ⟨false, s', q ++ [(ch, s.off, K, n)], l', rfl, HN.out.1, (HSC.out.grownT hgC.out (fun j e => by simp at e)).grownT HH.out.2 htk.out, by rw [HN.out.2.1]; exact HN.out.2.2, ?_, ?_, ?_, ?_⟩
          · rw [← HT.out.done, HL2.out]; simp
          · rw [show (q ++ [(ch, s.off, K, n)]).length = q.length + 1 by simp, show (q ++ [(ch, s.off, K, n)]).flatMap (tokC E) = q.flatMap (tokC E) ++ tokC E (ch, s.off, K, n) by simp [List.flatMap_append]]
            exact HH.out.1
          · exact ⟨HH.out.2.os.trans hg2.os, HH.out.2.tape.trans hg2.tape, HH.out.2.output.trans hg2.output, Nat.le_trans hg2.size HH.out.2.size, fun k hk _ => (HH.out.2.block k (Nat.lt_of_lt_of_le hk hg2.size) (fun e => by have := hlt.out k e.symm; omega)).trans (hg2.block k hk (by simp))⟩
          · exact (HH.out.2.block _ (Array.getElem?_eq_some_iff.1 heb).1 (fun e => hne _ e.symm rfl)).trans heb
end Go.Proofs.YtfooeinfgmfhpaaDoor
