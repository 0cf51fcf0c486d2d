/- The scanner's small methods over its memory: peek, DecodeRune at an ASCII byte, AddLine. -/
import Derived.Test.YtfooeinfgmfhpaaDoorScA
import Derived.BigQuiet
import Derived.Deep.QuietTactic
namespace Go.Proofs.YtfooeinfgmfhpaaDoor
open Go.RowKit
def Quietly (v : Value) (w : World) (e : Ending) (w' : World) : Prop := e = .returned v ∧ ∃ n, w' = w.drewN n

theorem drewN_two (w : World) (n m : Nat) : (w.drewN n).drewN m = w.drewN (n + m) := World.drewN_drewN ..

set_option maxHeartbeats 400000 in
theorem peek_in (E : Env) (hE : EnvOk E) (s : St) (w : World) (h : Sc E s w) (d : Nat) (hd : s.off + d < E.text.length) :
    Calls Tryd.prog 43 #[.pointer (some ⟨E.S, 0, none⟩), .int .u32 d] w (Quietly (.int .i64 (E.at (s.off + d))) w) := by
  have h0 : w.cell? ⟨E.S, 0, none⟩ = some (.pointer (some ⟨E.SS, 0, none⟩)) := h.cell 0
  have h5 : w.cell? ⟨E.S, 5, none⟩ = some (.int .u32 s.off) := h.cell 5
  have g0 : w.cell? ⟨E.SS, 0, none⟩ = some (.slice (some ⟨E.B, 0, none⟩) E.text.length E.cap) := h.scell 0
  have g4 : w.cell? ⟨E.SS, 4, none⟩ = some (.int .u32 E.text.length) := h.scell 4
  have b := h.bcell (s.off + d) hd
  have hl := hE.len
  have hc := hE.cap
  have ha := hE.asc (s.off + d) hd
  clear h hE
  go_enter Tryd.func43, Tryd.ntmps43
  go_wp2
  go_quiet (fail)
  have hd' : (s.off : Int) + d < E.text.length := by omega
  go_wp2
  go_quiet (fail)
  go_wp2
  go_ret
  exact ⟨rfl, _, drewN_two _ _ _⟩

set_option maxHeartbeats 400000 in
theorem peek_out (E : Env) (s : St) (w : World) (h : Sc E s w) (d : Nat) (hd : E.text.length ≤ s.off + d) (hb : s.off + d < 4294967296) :
    Calls Tryd.prog 43 #[.pointer (some ⟨E.S, 0, none⟩), .int .u32 d] w (Quietly (.int .i64 (-1)) w) := by
  have h0 : w.cell? ⟨E.S, 0, none⟩ = some (.pointer (some ⟨E.SS, 0, none⟩)) := h.cell 0
  have h5 : w.cell? ⟨E.S, 5, none⟩ = some (.int .u32 s.off) := h.cell 5
  have g4 : w.cell? ⟨E.SS, 4, none⟩ = some (.int .u32 E.text.length) := h.scell 4
  clear h
  go_enter Tryd.func43, Tryd.ntmps43
  go_wp2
  have hd' : ¬ ((s.off : Int) + d < E.text.length) := by omega
  go_quiet (fail)
  go_wp2
  go_ret
  exact ⟨rfl, _, rfl⟩

set_option maxHeartbeats 400000 in
set_option maxRecDepth 20000 in
theorem decode_ascii (b o n c : Nat) (x : Nat) (w : World) (hn : 0 < n) (hx : x < 128) (hc : w.cell? ⟨b, o, none⟩ = some (.int .u8 x)) (_hl : n ≤ 1000000) :
    Calls Tryd.prog 69 #[.slice (some ⟨b, o, none⟩) n c] w fun e w' => e = .returned (.tuple #[.int .i32 x, .int .i64 1]) ∧ w' = w := by
  go_enter Tryd.func69, Tryd.ntmps69
  go_wp2
  go_loop [5, 8] (fun _ i => i = .int .i64 0) (fun _ _ => 0)
  case atStart => rfl
  case round =>
    obtain rfl := hrel
    go_wp2
    go_ret2
    exact ⟨rfl, rfl⟩
def Moves (E : Env) (s : St) (v : Value) (w : World) (e : Ending) (w' : World) : Prop := e = .returned v ∧ Sc E s w' ∧ Kept E w w'

theorem info3 : (Tryd.prog.info? 3).map (fun i => (i.zero, i.size, i.bytes)) = some (some (.int .i64 0), 1, 8) := by kernel_rfl

theorem addr_add (g o j : Nat) : (⟨g, o, none⟩ : Addr).add j = ⟨g, o + j, none⟩ := by
  unfold Addr.add; split <;> simp_all

theorem ownsRow_drewN {w : World} {base : Nat} {e : TypeId} {size : Nat} {v : Value} {n : Nat} {xs : List Value} (h : w.ownsRow base e size v n xs) (k : Nat) : (w.drewN k).ownsRow base e size v n xs := h

/-- The row of lines, opened. -/
theorem lines_open {w : World} {base : Nat} {lv : Value} {pre : List Int} {last : Int} (h : w.ownsRow base 3 1 lv (pre.length + 1) ((pre ++ [last]).map (Value.int .i64))) :
    ∃ g cap, lv = .slice (some ⟨g, 0, none⟩) (pre.length + 1) cap ∧ pre.length + 1 ≤ cap ∧ w.cell? ⟨g, pre.length, none⟩ = some (.int .i64 last) := by
  rcases h.2 with ⟨_, h0⟩ | ⟨g, cap, cur, rfl, hb, hg, hn, hm, hs, ht⟩
  · omega
  · refine ⟨g, cap, rfl, hn, ?_⟩
    have := h.cells (g := g) rfl pre.length (.int .i64 last) (by simp)
    rw [addr_add, Nat.zero_add] at this
    exact this

theorem own_form {w : World} {base e size : Nat} {v : Value} {n : Nat} {xs : List Value} (h : w.ownsRow base e size v (n + 1) xs) :
    ∃ g cap, v = .slice (some ⟨g, 0, none⟩) (n + 1) cap := by
  rcases h.2 with ⟨_, h0⟩ | ⟨g, cap, cur, rfl, _⟩
  · omega
  · exact ⟨g, cap, rfl⟩

theorem addLine_post {E : Env} {s : St} {w w1 : World} {lv v' : Value} {pre : List Int} {last o : Int} {nq : Nat} (ob : Obj) (h : Sc E s w)
    (hf : w.heap[E.F]? = some (.cells #[.string E.nm, .int .i64 E.text.length, lv, .slice none 0 0] 110 (0, 0)))
    (hown : w.ownsRow E.base 3 1 lv (pre.length + 1) ((pre ++ [last]).map (Value.int .i64)))
    (hown' : w1.ownsRow E.base 3 1 v' (pre.length + 1 + 1) ((pre ++ [last]).map (Value.int .i64) ++ [Value.int .i64 o]))
    (hg : ((w.drewN nq).alloc ob).grownBy w1 lv.ownBlock) (hpl : (pre.length : Int) ≤ last) (hlo : last < o) (hol : o ≤ E.text.length) :
    w1.cell? ⟨E.F, 2, none⟩ = some lv ∧ w1.frozen? ⟨E.F, 2, none⟩ = false ∧ Sc E s (w1.setCell ⟨E.F, 2, none⟩ v') ∧ Kept E w (w1.setCell ⟨E.F, 2, none⟩ v') := by
  have hFl := (Array.getElem?_eq_some_iff.1 hf).1
  have ho2 : ((w.drewN nq).alloc ob).ownsRow E.base 3 1 lv (pre.length + 1) ((pre ++ [last]).map (Value.int .i64)) := World.ownsRow.alloc (ownsRow_drewN hown nq) ob
  have hk : Kept E w w1 := (((Kept.refl E w).drewN nq).alloc ob).grown ho2 hg
  have nL : ∀ (k : Nat) (c : Array Value) (t : TypeId) (fr : Nat × Nat), w.heap[k]? = some (Obj.cells c t fr) → t ≠ 3 → some k ≠ lv.ownBlock := by
    intro k c t fr hb ht e
    rcases hown.2 with ⟨rfl, _⟩ | ⟨g, cap, cur, rfl, _, hgg, _⟩
    · simp [Value.ownBlock] at e
    · simp [Value.ownBlock] at e
      subst e
      rw [hb] at hgg; simp at hgg; exact ht hgg.2.1
  have bk : ∀ (k : Nat) (c : Array Value) (t : TypeId) (fr : Nat × Nat), w.heap[k]? = some (Obj.cells c t fr) → t ≠ 3 → w1.heap[k]? = w.heap[k]? := by
    intro k c t fr hb ht
    have hlt := (Array.getElem?_eq_some_iff.1 hb).1
    rw [hg.block k (by simp only [World.size_alloc]; exact Nat.lt_succ_of_lt hlt) (nL k c t fr hb ht), heap_alloc_old _ ob (show k < (w.drewN nq).heap.size from hlt)]
    rfl
  have hF1 := (bk _ _ _ _ hf (by decide)).trans hf
  have hS1 := (bk _ _ _ _ h.hS (by decide)).trans h.hS
  have hF2 : (w1.setCell ⟨E.F, 2, none⟩ v').heap[E.F]? = some (.cells #[.string E.nm, .int .i64 E.text.length, v', .slice none 0 0] 110 (0, 0)) := by
    rw [heap_setCell_same w1 E.F 2 _ 110 v' hF1]; rfl
  have hk2 := hk.setF 2 v'
  refine ⟨(cell_of_row w1 E.F 2 _ 110 (0, 0) hF1), by simp [World.frozen?, hF1], h.of_kept hk2 ?_ ⟨v', pre ++ [last], o, hF2, ?_, ?_, hol⟩, hk2⟩
  · rw [heap_setCell_other w1 _ E.S v' (by simpa using fun e => h.neF e.symm)]; exact hS1
  · have hgr : w1.grownBy (w1.setCell ⟨E.F, 2, none⟩ v') (some E.F) := ⟨rfl, rfl, rfl, by simp, fun k _ hk => heap_setCell_other w1 _ k v' (by intro e; exact hk (by simp [e]))⟩
    have : (pre ++ [last]).length = pre.length + 1 := by simp
    rw [this, List.map_append (l₁ := pre ++ [last])]
    refine World.ownsRow.kept hown' hgr (Or.inr ?_)
    intro e
    rcases hown'.2 with ⟨rfl, _⟩ | ⟨g, cap, cur, rfl, _, hgg, _⟩
    · simp [Value.ownBlock] at e
    · simp [Value.ownBlock] at e
      subst e
      rw [hF1] at hgg; simp at hgg
  · simp; omega

set_option maxHeartbeats 400000 in
set_option maxRecDepth 20000 in
theorem addLine_any (E : Env) (hE : EnvOk E) (s : St) (w : World) (h : Sc E s w) (o : Nat) (_ho : o ≤ 1000000) :
    Calls Tryd.prog 68 #[.pointer (some ⟨E.F, 0, none⟩), .int .i64 o] w (Moves E s (.tuple #[]) w) := by
  obtain ⟨lv, pre, last, hf, hown, hpl, hlt⟩ := h.hF
  obtain ⟨g, cap, rfl, hcap, hlast⟩ := lines_open hown
  have f1 : w.cell? ⟨E.F, 1, none⟩ = some (.int .i64 E.text.length) := cell_of_row w E.F 1 _ 110 (0, 0) hf
  have f2 : w.cell? ⟨E.F, 2, none⟩ = some (.slice (some ⟨g, 0, none⟩) (pre.length + 1) cap) := cell_of_row w E.F 2 _ 110 (0, 0) hf
  have fz : w.frozen? ⟨E.F, 2, none⟩ = false := by simp [World.frozen?, hf]
  have hl := hE.len
  have hbase : E.base < w.heap.size := by have := hown.lt g rfl; omega
  have hp0 : pre.length ≤ 1000000 := by omega
  by_cases c1 : last < o
  · by_cases c2 : o ≤ E.text.length
    · have H := Lib.hid h
      have HE := Lib.hid hE
      have HF := Lib.hid hf
      obtain ⟨i0, hi, hz0, hz1, hz2⟩ := info_parts info3
      clear h hE hf
      go_enter Tryd.func68, Tryd.ntmps68
      go_wp2
      go_quiet (fail)
      go_wp2_with (at_builtin; go_loud (refine wpList_append_own _ rfl _ _ 107 rfl E.base 3 i0 (.int .i64 0) 1 8 Tryd.underlying107 hi hz0 hz1 hz2 rfl (by decide) _ _ _ rfl ((ownsRow_drewN hown _).alloc _) ⟨w.heap.size, 0, none⟩ 1 1 [.int .i64 o] rfl rfl ?c1 ?c2 ?c3 ?c4 ?c5 ?_))
      case c1 =>
        intro j u hj
        match j, hj with
        | 0, hj => simp at hj; subst hj; rw [addr_add]; exact World.cell?_alloc_at _ _ _ _ rfl
      case c2 => intro u hu; simp at hu; subst hu; rfl
      case c3 => unfold maxLen; omega
      case c4 => omega
      case c5 => simp; omega
      · intro v' w1 hown' hgrow _
        rw [show List.map (Value.int .i64) pre ++ [Value.int .i64 last, Value.int .i64 (o : Int)] = (pre ++ [last]).map (Value.int .i64) ++ [Value.int .i64 (o : Int)] by simp] at hown'
        obtain ⟨k1, k2, k3, k4⟩ := addLine_post _ H.out HF.out hown hown' hgrow hpl c1 (by omega)
        have K3 := Lib.hid k3
        have K4 := Lib.hid k4
        obtain ⟨g', cap', hv⟩ := own_form hown'
        clear hown hown' hgrow hlast f1 f2 k3 k4
        rw [hv] at K3 K4 ⊢
        go_wp2
        go_end0
        exact ⟨rfl, K3.out, K4.out⟩
    · have c2' : decide (o ≤ E.text.length) = false := by simpa using c2
      have H := Lib.hid h
      clear h hE hf hown c2
      go_enter Tryd.func68, Tryd.ntmps68
      go_wp2
      go_quiet (fail)
      go_wp2
      go_end0
      exact ⟨rfl, H.out.drewN _, (Kept.refl _ _).drewN _⟩
  · have c1' : decide (last < o) = false := by simpa using c1
    have H := Lib.hid h
    clear h hE hf hown c1
    go_enter Tryd.func68, Tryd.ntmps68
    go_wp2
    go_quiet (fail)
    go_wp2
    go_end0
    exact ⟨rfl, H.out.drewN _, (Kept.refl _ _).drewN _⟩
end Go.Proofs.YtfooeinfgmfhpaaDoor
