/- Scan: the texts of a text's tokens. -/
import Derived.Test.YtfooeinfgmfhpaaDoorScS
namespace Go.Proofs.YtfooeinfgmfhpaaDoor
open Go.RowKit

theorem info9 : (Tryd.prog.info? 9).map (fun i => (i.zero, i.size, i.bytes)) = some (some (.string ByteArray.empty), 1, 16) := by kernel_rfl

theorem Scans.all {f : Nat → Nat} {L : Nat} {b : Bool} {k : Nat} {l : List (Nat × Nat)} (h : Scans f L b k l) : ∀ x ∈ l, 0 < x.2 ∧ x.1 + x.2 ≤ L := by
  induction h with
  | done b => intro x hx; simp at hx
  | nl b k j l _ _ _ _ ih => exact ih
  | tok b k j n l _ _ _ ht h _ ih =>
    intro x hx
    rcases List.mem_cons.1 hx with rfl | hx
    · exact ⟨ht.pos, Nat.le_of_lt h⟩
    · exact ih x hx

theorem Sc.grownA {E : Env} {s : St} {w w' : World} {k : Option Nat} {t : TypeId} (h : Sc E s w) (ht : t ∉ [84, 96, 5, 110, 3]) (hg : w.grownBy w' k) (hk : ∀ j, k = some j → 0 < j ∧ Tk w j t) : Sc E s w' := by
  simp only [List.mem_cons, List.mem_nil_iff, or_false, not_or] at ht
  obtain ⟨t1, t2, t3, t4, t5⟩ := ht
  obtain ⟨lv, pre, last, hf, ho, h1, h2⟩ := h.hF
  have ne : ∀ (j : Nat) (c' : Array Value) (t' : TypeId) (fr : Nat × Nat), w.heap[j]? = some (Obj.cells c' t' fr) → t' ≠ t → w'.heap[j]? = w.heap[j]? := by
    intro j c' t' fr hj htt
    refine hg.block j (Array.getElem?_eq_some_iff.1 hj).1 ?_
    intro e
    obtain ⟨_, c, hc⟩ := hk j e.symm
    rw [hc] at hj; simp at hj; exact htt hj.2.1.symm
  refine ⟨(ne _ _ _ _ h.hS (Ne.symm t1)).trans h.hS, (ne _ _ _ _ h.hSS (Ne.symm t2)).trans h.hSS, ?_, ⟨lv, pre, last, (ne _ _ _ _ hf (Ne.symm t4)).trans hf, ?_, h1, h2⟩, fun i' hi => ?_, h.hP⟩
  · obtain ⟨cur, fr, hb, hcc⟩ := h.hB
    exact ⟨cur, fr, (ne _ _ _ _ hb (Ne.symm t3)).trans hb, hcc⟩
  · refine ho.kept hg (Or.inr ?_)
    intro e
    rcases ho.2 with ⟨_, hz⟩ | ⟨g, cap, cur, rfl, _, hgg, _⟩
    · omega
    · obtain ⟨_, c, hc⟩ := hk g (by rw [← e]; rfl)
      rw [hc] at hgg; simp at hgg; exact t5 hgg.2
  · have hl := World.block_lt_of_cell? w _ (h.hG i' hi)
    rw [← h.hG i' hi]
    refine World.cell?_of_block (hg.block 0 hl ?_)
    intro e
    have := (hk 0 e.symm).1
    omega

/-- A row of another type grows: this one is as it was. -/
theorem own_other {w w' : World} {b b' : Nat} {e e' : TypeId} {z z' : Nat} {v v' : Value} {n n' : Nat} {xs xs' : List Value} (h : w.ownsRow b e z v n xs) (h' : w.ownsRow b' e' z' v' n' xs') (hne : e ≠ e') (hg : w.grownBy w' v'.ownBlock) : w'.ownsRow b e z v n xs := by
  refine h.kept hg ?_
  rcases h.2 with ⟨rfl, _⟩ | ⟨g, cap, cur, rfl, _, hgg, _⟩
  · exact Or.inl rfl
  · right
    intro eq
    rcases h'.2 with ⟨rfl, _⟩ | ⟨g', cap', cur', rfl, _, hgg', _⟩
    · simp [Value.ownBlock] at eq
    · simp [Value.ownBlock] at eq
      subst eq
      rw [hgg] at hgg'; simp at hgg'; exact hne hgg'.2

theorem flat_get (E : Env) : ∀ (q : List (Int × Nat × Nat × Nat)) (i : Nat) (x : Int × Nat × Nat × Nat), q[i]? = some x → ∀ j, j < 8 → (q.flatMap (tokC E))[i * 8 + j]? = (tokC E x)[j]? := by
  intro q
  induction q with
  | nil => intro i x h; simp at h
  | cons y q ih =>
    intro i x h j hj
    have hl : (tokC E y).length = 8 := rfl
    rw [List.flatMap_cons]
    cases i with
    | zero => simp at h; subst h; rw [List.getElem?_append_left (by omega)]; congr 1; omega
    | succ i =>
      simp at h
      rw [List.getElem?_append_right (by omega), hl, show (i + 1) * 8 + j - 8 = i * 8 + j by omega]
      exact ih i x h j hj

/-- While the texts are listed. -/
structure Texts (E : Env) (w : World) (vt : Value) (q : List (Int × Nat × Nat × Nat)) (i : Nat) (out : Value) (wr : World) : Prop where
  sc : ∃ s, Sc E s wr
  toks : wr.ownsRow w.heap.size 58 8 vt q.length (q.flatMap (tokC E))
  row : wr.ownsRow w.heap.size 9 1 out i ((q.take i).map fun x => .string (cutB E.text x.2.2.1 x.2.2.2))
  gr : w.grownBy wr none
  le : i ≤ q.length

theorem Texts.grown0 {E : Env} {w : World} {vt : Value} {q : List (Int × Nat × Nat × Nat)} {i : Nat} {out : Value} {wr w' : World} (h : Texts E w vt q i out wr) (hg : wr.grownBy w' none) : Texts E w vt q i out w' := by
  obtain ⟨s, hs⟩ := h.sc
  exact ⟨⟨s, hs.grownT hg (fun j e => by simp at e)⟩, own_grown0 h.toks hg, own_grown0 h.row hg, grown_trans h.gr hg, h.le⟩

theorem Texts.more {E : Env} {w : World} {vt : Value} {q : List (Int × Nat × Nat × Nat)} {i : Nat} {out out' : Value} {wr w' : World} (h : Texts E w vt q i out wr) (h0 : 0 < w.heap.size) {x : Int × Nat × Nat × Nat} (hx : q[i]? = some x)
    (ho : w'.ownsRow w.heap.size 9 1 out' (i + 1) (((q.take i).map fun x => .string (cutB E.text x.2.2.1 x.2.2.2)) ++ [.string (cutB E.text x.2.2.1 x.2.2.2)])) (hg : wr.grownBy w' out.ownBlock) : Texts E w vt q (i + 1) out' w' := by
  obtain ⟨s, hs⟩ := h.sc
  have hi : i < q.length := (List.getElem?_eq_some_iff.1 hx).1
  refine ⟨⟨s, hs.grownA (t := 9) (by decide) hg (ownsRow.tk h.row h0)⟩, own_other h.toks h.row (by decide) hg, ?_, ?_, hi⟩
  · rw [List.take_add_one, hx]; simpa using ho
  · exact ⟨hg.os.trans h.gr.os, hg.tape.trans h.gr.tape, hg.output.trans h.gr.output, Nat.le_trans h.gr.size hg.size, fun k hk _ => (hg.block k (Nat.lt_of_lt_of_le hk h.gr.size) (fun e => by have := h.row.lt k e.symm; omega)).trans (h.gr.block k hk (by simp))⟩

theorem row_form {w : World} {b n : Nat} {e : TypeId} {z : Nat} {v : Value} {xs : List Value} (h : w.ownsRow b e z v n xs) : ∃ A c, v = .slice A n c ∧ (0 < n → ∃ g, A = some ⟨g, 0, none⟩) := by
  rcases h.2 with ⟨rfl, rfl⟩ | ⟨g, cap, cur, rfl, _⟩
  · exact ⟨none, 0, rfl, fun h => by omega⟩
  · exact ⟨_, cap, rfl, fun _ => ⟨g, rfl⟩⟩

set_option maxHeartbeats 4000000 in
set_option maxRecDepth 100000 in
theorem scan_any (text : ByteArray) (l : List (Nat × Nat)) (w : World) (ht : TextOk text) (h0 : 0 < w.heap.size) (hG : ∀ i, i < 128 → w.cell? ⟨0, i, none⟩ = some (.int .u8 (tbl i)))
    (hl : Scans (fun i => (text.data.toList[i]?.getD 0).toNat) text.size true 0 l) :
    Calls Tryd.prog 21 #[.string text] w fun e w' => ∃ v : Value, e = .returned (.tuple #[v, .bool true]) ∧ w'.ownsRow w.heap.size 9 1 v l.length (l.map fun x => .string (cutB text.data.toList x.1 x.2)) ∧ w.grownBy w' none := by
  have HC := Lib.hid (tokensOf_any text l w ht h0 hG hl)
  have HA := Lib.hid hl.all
  have HN := Lib.hid (hl.count (Nat.zero_le _))
  have HT := Lib.hid ht
  clear ht hG hl
  go_enter Tryd.func21, Tryd.ntmps21
  go_wp2_with fail
  refine HC.out.mono ?_
  rintro e w1 ⟨E, s, q, vt, rfl, hE, hEt, hsc, hq, hrow, hgr⟩
  obtain ⟨A, cp, rfl, hform⟩ := row_form hrow
  have hT0 : Hid (Texts E w (.slice A q.length cp) q 0 (.slice none 0 0) w1) := ⟨⟨s, hsc⟩, hrow, World.ownsRow_nil _ _ _ _, hgr, Nat.zero_le _⟩
  have HF := Lib.hid hform
  have HE := Lib.hid hE
  have HQ := Lib.hid (And.intro hq hEt)
  have hqn : q.length ≤ 1000000 := by have := congrArg List.length hq; simp at this; have := HN.out; have := HT.out.len; omega
  clear hE hEt hsc hq hrow hgr hform HC HN HT
  go_wp2_with fail
  go_loopg [2, 15] q.length (fun g c i wr => ∃ k : Nat, i = .int .i64 k ∧ g = q.length - k ∧ Texts E w (.slice A q.length cp) q k c wr)
  case atStart => exact ⟨0, rfl, rfl, hT0.out⟩
  case round =>
    obtain ⟨k, rfl, hg, hT⟩ := hrel
    have hle := hT.le
    have HG := Lib.hid hg
    have HTT := Lib.hid hT
    clear hT hg
    by_cases hk : k < q.length
    · obtain ⟨g, rfl⟩ := HF.out (by omega)
      obtain ⟨⟨ch, sp, K, n⟩, hx⟩ : ∃ x, q[k]? = some x := ⟨_, List.getElem?_eq_getElem hk⟩
      have hcell : ∀ j u, (tokC E (ch, sp, K, n))[j]? = some u → wr.cell? ⟨g, k * 8 + j, none⟩ = some u := by
        intro j u hu
        have hj : j < 8 := by
          rcases Nat.lt_or_ge j 8 with h | h
          · exact h
          · rw [List.getElem?_eq_none (by exact h)] at hu; simp at hu
        have := HTT.out.toks.cells (g := g) rfl (k * 8 + j) u (by rw [flat_get E q k _ hx j hj]; exact hu)
        have ha : (⟨g, 0, none⟩ : Addr).add (k * 8 + j) = ⟨g, k * 8 + j, none⟩ := by unfold Addr.add; split <;> simp_all
        rwa [ha] at this
      have c0 : wr.cell? ⟨g, k * 8, none⟩ = some (.pointer (some ⟨E.SS, 0, none⟩)) := hcell 0 _ rfl
      have c1 : wr.cell? ⟨g, k * 8 + 1, none⟩ = some (.int .i32 ch) := hcell 1 _ rfl
      have c2 : wr.cell? ⟨g, k * 8 + 2, none⟩ = some (.int .u32 K) := hcell 2 _ rfl
      have c3 : wr.cell? ⟨g, k * 8 + 3, none⟩ = some (.int .i32 0) := hcell 3 _ rfl
      have c4 : wr.cell? ⟨g, k * 8 + 4, none⟩ = some (.int .u32 sp) := hcell 4 _ rfl
      have c5 : wr.cell? ⟨g, k * 8 + 5, none⟩ = some (.int .u32 K) := hcell 5 _ rfl
      have c6 : wr.cell? ⟨g, k * 8 + 6, none⟩ = some (.int .u32 n) := hcell 6 _ rfl
      have c7 : wr.cell? ⟨g, k * 8 + 7, none⟩ = some (.pointer none) := hcell 7 _ rfl
      have hkn : 0 < n ∧ K + n ≤ E.text.length := by
        have hm : (K, n) ∈ l := by
          rw [← HQ.out.1]
          exact List.mem_map.2 ⟨_, List.mem_of_getElem? hx, rfl⟩
        have := HA.out _ hm
        rw [HQ.out.2, len_toList]; exact this
      have HK := Lib.hid hkn
      have HX := Lib.hid hx
      clear hcell hx hkn
      go_wp2_with fail
      have hb := heap_alloc_new wr (.cells #[.pointer (some ⟨E.SS, 0, none⟩), .int .i32 ch, .int .u32 K, .int .i32 0, .int .u32 sp, .int .u32 K, .int .u32 n, .pointer none] 58)
      have hT3 := HTT.out.grown0 (World.grownBy_alloc wr (.cells #[.pointer (some ⟨E.SS, 0, none⟩), .int .i32 ch, .int .u32 K, .int .i32 0, .int .u32 sp, .int .u32 K, .int .u32 n, .pointer none] 58) none)
      obtain ⟨s3, hs3⟩ := hT3.sc
      refine (srcStr_any E HE.out s3 _ hs3 wr.heap.size K n (cell_of_row _ _ 0 _ 58 (0, 0) hb) (cell_of_row _ _ 5 _ 58 (0, 0) hb) (cell_of_row _ _ 6 _ 58 (0, 0) hb) HK.out.1 HK.out.2).mono ?_
      rintro e w4 ⟨rfl, m, rfl⟩
      have HT4 := Lib.hid (hT3.grown0 (grown_drewN _ m _))
      clear hb hT3 hs3 c0 c1 c2 c3 c4 c5 c6 c7 HTT
      generalize (wr.alloc (.cells #[.pointer (some ⟨E.SS, 0, none⟩), .int .i32 ch, .int .u32 K, .int .i32 0, .int .u32 sp, .int .u32 K, .int .u32 n, .pointer none] 58)).drewN m = w4 at *
      have hT5 := HT4.out.grown0 (World.grownBy_alloc w4 (.cells #[.string (cutB E.text K n)] 9) none)
      have HT5 := Lib.hid hT5
      have hown := hT5.row
      have hgs := hT5.gr.size
      have hkk : k + 1 ≤ 1000000 := by omega
      obtain ⟨i0, hi, hz0, hz1, hz2⟩ := info_parts info9
      clear hT5
      go_wp2_with (at_builtin; go_loud (refine wpList_append_lies _ rfl _ _ 22 rfl w.heap.size 9 i0 (.string ByteArray.empty) 1 16 Tryd.underlying22 hi hz0 hz1 hz2 rfl (by decide) _ k _ rfl hown ⟨w4.heap.size, 0, none⟩ 1 1 [.string (cutB E.text K n)] rfl rfl ?c1 ?c2 (by decide) ?c3 ?c4 ?c5 (w4.heap.size + 1) ?c6 ?_))
      case c1 => exact World.news_of_block (heap_alloc_new w4 (.cells #[.string (cutB E.text K n)] 9))
      case c2 => intro u hu; simp at hu; subst hu; rfl
      case c3 => unfold maxLen; omega
      case c4 => omega
      case c5 => exact hgs
      case c6 => simp
      · intro g' cap w5 hown' hgrow _ _
        have HH := Lib.hid (HT5.out.more h0 HX.out (by rw [List.map_take]; exact hown') hgrow)
        clear hown' hgrow hown hi hz0 hz1 hz2
        have hw : IntKind.i64.wrap ((k : Int) + 1) = (k : Int) + 1 := IntWalk.i64_in _ (by omega)
        go_wp2
        go_roundg (q.length - (k + 1))
        case measure => have := HG.out; omega
        case rel => exact ⟨k + 1, rfl, rfl, HH.out⟩
    · have hkq : k = q.length := by omega
      subst hkq
      have hlast : l.length = q.length := by rw [← HQ.out.1]; simp
      go_wp2
      refine bodyPost_ret (v := .tuple #[u2, .bool true]) (by simp [results, Tryd.results21, go_sem]) rfl ⟨u2, rfl, ?_, HTT.out.gr⟩
      rw [hlast, ← HQ.out.1, ← HQ.out.2]
      have := HTT.out.row
      rw [List.take_length] at this
      simpa [List.map_map, Function.comp_def] using this
set_option maxHeartbeats 4000000 in
set_option maxRecDepth 100000 in
theorem implScan_any (text : ByteArray) (l : List (Nat × Nat)) (w : World) (ht : TextOk text) (h0 : 0 < w.heap.size) (hG : ∀ i, i < 128 → w.cell? ⟨0, i, none⟩ = some (.int .u8 (tbl i)))
    (hl : Scans (fun i => (text.data.toList[i]?.getD 0).toNat) text.size true 0 l) :
    Calls Tryd.prog 9 #[.string text] w fun e w' => ∃ v : Value, e = .returned (.tuple #[v, .bool true]) ∧ w'.ownsRow w.heap.size 9 1 v l.length (l.map fun x => .string (cutB text.data.toList x.1 x.2)) ∧ w.grownBy w' none := by
  have HC := Lib.hid (scan_any text l w ht h0 hG hl)
  clear ht hG hl h0
  go_enter Tryd.func9, Tryd.ntmps9
  go_wp2_with fail
  refine HC.out.mono ?_
  rintro e w1 ⟨v, rfl, h1, h2⟩
  have HD := Lib.hid (And.intro h1 h2)
  clear h1 h2 HC
  go_wp2
  refine bodyPost_ret (v := .tuple #[v, .bool true]) (by simp [results, Tryd.results9, go_sem]) rfl ⟨v, rfl, HD.out⟩
end Go.Proofs.YtfooeinfgmfhpaaDoor
