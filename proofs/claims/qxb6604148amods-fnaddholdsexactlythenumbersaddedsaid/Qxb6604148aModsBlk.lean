/- A row of ints in a block of its own. -/
import Derived.Test.Qxb6604148aModsRows
import Derived.WalkKit
import Derived.WalkLawsBesides
import Derived.WalkSpells
import Derived.LoopTactic
import Derived.RegionTactic
import Derived.Deep.QuietTactic
import Derived.BigQuiet
import Derived.Outline
import Derived.Laws.CopyOwn
namespace Go.Proofs.Qxb6604148aMods.A
open Go.RowKit
set_option linter.unusedSimpArgs false
set_option linter.unusedVariables false

def ic (L : List Int) : List Value := L.map (Value.int .i64)
theorem ic_length (L : List Int) : (ic L).length = L.length := by simp [ic]
theorem ic_one (L : List Int) : ∀ v ∈ ic L, v.oneCell' = true := by
  intro v hv
  obtain ⟨_, _, rfl⟩ := List.mem_map.1 hv
  rfl
theorem ic_get (L : List Int) (j : Nat) (h : j < L.length) : (ic L)[j]? = some (.int .i64 L[j]) := by simp [ic, h]

/-- block 'g' is a row of ints, whole -/
def Blk (w : World) (g : Nat) (L : List Int) : Prop := w.heap[g]? = some (.cells (ic L).toArray 3 (0, 0))

theorem Blk.lt {w : World} {g : Nat} {L : List Int} (h : Blk w g L) : g < w.heap.size := (Array.getElem?_eq_some_iff.1 h).1

theorem Blk.cell {w : World} {g : Nat} {L : List Int} (h : Blk w g L) (j : Nat) (hj : j < L.length) : w.cell? ⟨g, j, none⟩ = some (.int .i64 L[j]) := by
  rw [cell_of_row w g j _ _ _ h, List.getElem?_toArray, ic_get L j hj]

theorem Blk.frozen {w : World} {g : Nat} {L : List Int} (h : Blk w g L) (j : Nat) : w.frozen? ⟨g, j, none⟩ = false := frozen_of_row w g j _ _ h

theorem Blk.set {w : World} {g : Nat} {L : List Int} (h : Blk w g L) (j : Nat) (v : Int) : Blk (w.setCell ⟨g, j, none⟩ (.int .i64 v)) g (L.set j v) := by
  have := heap_setCell_same w g j _ _ (.int .i64 v) h
  unfold Blk
  rw [this]
  simp [ic, List.map_set]

theorem Blk.other {w : World} {g : Nat} {L : List Int} (h : Blk w g L) (a : Addr) (v : Value) (hne : g ≠ a.block) : Blk (w.setCell a v) g L := by
  unfold Blk
  rw [heap_setCell_other w a g v hne]
  exact h

theorem Blk.alloc {w : World} {g : Nat} {L : List Int} (h : Blk w g L) (o : Obj) : Blk (w.alloc o) g L := by
  unfold Blk
  rw [Below.heap_alloc w o g h.lt]
  exact h

theorem Blk.drewN {w : World} {g : Nat} {L : List Int} (h : Blk w g L) (n : Nat) : Blk (w.drewN n) g L := h

theorem Blk.below {w w' : World} {g : Nat} {L : List Int} (h : Blk w g L) (hb : Below w.heap.size w w') : Blk w' g L := by
  unfold Blk
  rw [hb.block g h.lt]
  exact h

theorem Blk.made (w : World) (n : Nat) : Blk (w.alloc (.cells (madeCells #[.int .i64 0] n) 3)) w.heap.size (List.replicate n 0) := by
  unfold Blk
  rw [heap_alloc_new]
  have e : madeCells #[.int .i64 0] n = (ic (List.replicate n 0)).toArray := by
    apply Array.ext'
    rw [toList_madeCells_one]
    simp [ic]
  rw [e]

theorem info3 : (Trym.prog.info? 3).map (fun i => (i.zero, i.size, i.bytes)) = some (some (.int .i64 0), 1, 8) := by kernel_rfl
theorem size3 : (Trym.prog.info? 3).map (·.size) = some 1 := by kernel_rfl

theorem run_mk (n : Nat) (hn : n ≤ 1048576) (w : World) :
    (Instr.makeSlice 22 (.int .i64 (n : Int)) (.int .i64 (n : Int))).run Trym.prog w = .ok (.slice (some ⟨w.heap.size, 0, none⟩) n n) (w.alloc (.cells (madeCells #[.int .i64 0] n) 3)) := by
  obtain ⟨i0, hi, hz0, hz1, hz2⟩ := info_parts info3
  have := run_make (P := Trym.prog) w 22 3 i0 (.int .i64 0) Trym.underlying22 hi hz0 .i64 .i64 n n (by omega) (by omega) (by rw [hz2]; omega) (by omega)
  rw [hz1] at this
  simpa [Value.cells] using this

theorem run_mk0 (n : Nat) (hn : n ≤ 1048576) (w : World) :
    (Instr.makeSlice 22 (.int .i64 0) (.int .i64 (n : Int))).run Trym.prog w = .ok (.slice (some ⟨w.heap.size, 0, none⟩) 0 n) (w.alloc (.cells (madeCells #[.int .i64 0] n) 3)) := by
  obtain ⟨i0, hi, hz0, hz1, hz2⟩ := info_parts info3
  have := run_make (P := Trym.prog) w 22 3 i0 (.int .i64 0) Trym.underlying22 hi hz0 .i64 .i64 0 n (by omega) (by omega) (by rw [hz2]; omega) (by omega)
  rw [hz1] at this
  simpa [Value.cells] using this

/-- what a slice argument reads as: nil, or an address whose cells are the numbers -/
def Arg (w : World) (ao : Option Addr) (N : List Int) : Prop := (ao = none ∧ N = []) ∨ (∃ x, ao = some x ∧ ∀ j (hj : j < N.length), w.cell? (x.add j) = some (.int .i64 N[j]))

/-- a law for the walk: copy(dst, src), dst a new row of the very length -/
theorem copy_row {ops : Array Oper} {rest : List Oper} {o : Oper} {a : Act} {w : World} {Q : Exit → Act → World → Prop} (hgd : o.guard = none) (d s : Operand)
    (ho : o.op = .call { callee := .builtin .copy, args := #[d, s], argTypes := #[22, 22] }) (ao : Option Addr) (n c : Nat) (g : Nat) (hs : a.eval s = .slice ao n c) (hd : a.eval d = .slice (some ⟨g, 0, none⟩) n n)
    (N Z : List Int) (hN : N.length = n) (hZ : Z.length = n) (hg : Blk w g Z) (harg : Arg w ao N) (w0 : World) (hb : Below w0.heap.size w0 w) (hBg : w0.heap.size ≤ g)
    (h : ∀ w', Blk w' g N → Below w0.heap.size w0 w' → wpList Trym.prog ops Q rest (a.put o.dst (.int .i64 (n : Int))) w') : wpList Trym.prog ops Q (o :: rest) a w := by
  refine wpList_copy_splice hgd d s 22 22 ho 3 Trym.underlying22 size3 (some ⟨g, 0, none⟩) ao n n n c hd hs g 0 (ic Z) 3 hg (ic N) (by rw [ic_length, hN]; exact (Nat.min_self n).symm) ?_ (by rw [ic_length, ic_length]; omega) (ic_one N) w0.heap.size w0 hb hBg ?_
  · intro h0
    rw [ic_length] at h0
    rcases harg with ⟨_, e⟩ | ⟨x, e, hc⟩
    · rw [e] at h0; simp at h0
    · refine ⟨rfl, x, e, fun j v hv => ?_⟩
      have hj := (List.getElem?_eq_some_iff.1 hv).1
      rw [ic_length] at hj
      rw [ic_get N j hj] at hv
      cases hv
      exact hc j hj
  · intro w' hg' hb'
    have e : splice (ic Z) 0 (ic N) = ic N := by
      unfold splice
      rw [List.drop_of_length_le (by rw [ic_length, ic_length]; omega)]
      simp
    have hg2 := hg'.out
    rw [e] at hg2
    have := h w' hg2 hb'
    rw [ic_length, hN]
    exact this

theorem eql_nil (a : Option Addr) (n c : Nat) (w : World) : (binOp .eql 22 (.slice a n c) (.slice none 0 0)).run Trym.prog w = .ok (.bool a.isNone) w :=
  Lib.run_eql_slice_nil w 22 3 a n c 0 0 Trym.underlying22

theorem clone_nil (w : World) : Calls Trym.prog 5 #[.slice none 0 0] w fun e w' => e = .returned (.slice none 0 0) ∧ w = w' := by
  have hq := eql_nil none 0 0
  go_enter Trym.func5, Trym.ntmps5
  go_wp2
  go_ret
  exact ⟨rfl, rfl⟩

theorem clone_some (x : Addr) (n c : Nat) (N : List Int) (w : World) (hN : N.length = n) (hn : n ≤ 1048576) (harg : Arg w (some x) N) :
    Calls Trym.prog 5 #[.slice (some x) n c] w fun e w' => e = .returned (.slice (some ⟨w.heap.size, 0, none⟩) n n) ∧ Blk w' w.heap.size N ∧ Below w.heap.size w w' := by
  have hmk := run_mk n hn
  have hq := eql_nil (some x) n c
  have hb : Hid (Blk (w.alloc (.cells (madeCells #[.int .i64 0] n) 3)) w.heap.size (List.replicate n 0)) := Blk.made w n
  have ha : Hid (Arg (w.alloc (.cells (madeCells #[.int .i64 0] n) 3)) (some x) N) := by
    rcases harg with ⟨e, _⟩ | ⟨y, e, hc⟩
    · cases e
    · refine .inr ⟨y, e, fun j hj => ?_⟩
      have := hc j hj
      rw [World.cell?_alloc_lt _ _ _ (World.block_lt_of_cell? w _ this)]
      exact this
  go_enter Trym.func5, Trym.ntmps5
  go_wp2_with (refine copy_row rfl (.tmp 9) (.tmp 10) rfl (some x) n c w.heap.size rfl rfl N (List.replicate n 0) hN (by simp) hb.out ha.out w ((Below.refl _ _).alloc (Nat.le_refl _) _) (Nat.le_refl _) ?_; intro w1 hblk hbel)
  go_ret
  exact ⟨rfl, hblk, hbel⟩

end Go.Proofs.Qxb6604148aMods.A
