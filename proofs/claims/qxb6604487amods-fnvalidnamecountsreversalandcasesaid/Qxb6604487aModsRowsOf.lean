/- The two rows of bytes that the counting law makes: what they hold behind k rounds. -/
import Derived.Test.Qxb6604487aModsTable
import Derived.ProofKit
namespace Go.Proofs.Qxb6604487aMods.V
open Go.RowKit
set_option linter.unusedSimpArgs false
set_option linter.unusedVariables false

def bc (L : List UInt8) : List Value := L.map fun c => Value.int .u8 (c.toNat : Int)
theorem bc_get (L : List UInt8) (j : Nat) (h : j < L.length) : (bc L)[j]? = some (.int .u8 (L[j].toNat : Int)) := by simp [bc, h]

/-- block 'g' is a row of bytes, whole -/
def Blk (w : World) (g : Nat) (L : List UInt8) : Prop := w.heap[g]? = some (.cells (bc L).toArray 5 (0, 0))

theorem Blk.lt {w : World} {g : Nat} {L : List UInt8} (h : Blk w g L) : g < w.heap.size := (Array.getElem?_eq_some_iff.1 h).1

theorem Blk.cell {w : World} {g : Nat} {L : List UInt8} (h : Blk w g L) (j : Nat) (hj : j < L.length) : w.cell? ⟨g, j, none⟩ = some (.int .u8 (L[j].toNat : Int)) := by
  rw [cell_of_row w g j _ _ _ h, List.getElem?_toArray, bc_get L j hj]

theorem Blk.frozen {w : World} {g : Nat} {L : List UInt8} (h : Blk w g L) (j : Nat) : w.frozen? ⟨g, j, none⟩ = false := frozen_of_row w g j _ _ h

theorem Blk.set {w : World} {g : Nat} {L : List UInt8} (h : Blk w g L) (j : Nat) (x : UInt8) (v : Int) (hv : v = (x.toNat : Int)) : Blk (w.setCell ⟨g, j, none⟩ (.int .u8 v)) g (L.set j x) := by
  subst hv
  have := heap_setCell_same w g j _ _ (.int .u8 (x.toNat : Int)) h
  unfold Blk
  rw [this]
  simp [bc, List.map_set]

theorem Blk.other {w : World} {g : Nat} {L : List UInt8} (h : Blk w g L) (a : Addr) (v : Value) (hne : g ≠ a.block) : Blk (w.setCell a v) g L := by
  unfold Blk
  rw [heap_setCell_other w a g v hne]
  exact h

theorem Blk.alloc {w : World} {g : Nat} {L : List UInt8} (h : Blk w g L) (o : Obj) : Blk (w.alloc o) g L := by
  unfold Blk
  rw [Below.heap_alloc w o g h.lt]
  exact h

theorem Blk.below {w w' : World} {g : Nat} {L : List UInt8} (h : Blk w g L) (hb : Below w.heap.size w w') : Blk w' g L := by
  unfold Blk
  rw [hb.block g h.lt]
  exact h

theorem Blk.made (w : World) (n : Nat) : Blk (w.alloc (.cells (madeCells #[.int .u8 0] n) 5)) w.heap.size (List.replicate n 0) := by
  unfold Blk
  rw [heap_alloc_new]
  have e := toList_madeCells_one (.int .u8 0) n
  have e2 : madeCells #[Value.int .u8 0] n = (bc (List.replicate n 0)).toArray := by
    rw [← Array.toList_inj, e]; simp [bc]
  rw [e2]

theorem Blk.str {w : World} {g : Nat} {L : List UInt8} (h : Blk w g L) (n : Nat) (hn : L.length = n) :
    (convert 24 9 (.slice (some ⟨g, 0, none⟩) n n)).run Trym.prog w = .ok (.string ⟨L.toArray⟩) w := by
  subst hn
  refine run_convert_bytes_back w 24 9 5 ⟨g, 0, none⟩ L.length L Trym.underlying24 Trym.underlying5 Trym.underlying9 fun j hj => ?_
  have e : (⟨g, 0, none⟩ : Addr).add j = ⟨g, j, none⟩ := by unfold Addr.add; split <;> simp_all
  rw [e]
  exact h.cell j hj

theorem Trym.info5 : (Trym.prog.info? 5).map (fun i => (i.zero, i.size, i.bytes)) = some (some (.int .u8 0), 1, 1) := by kernel_rfl

theorem run_mk (n : Nat) (hn : n ≤ 1048576) (w : World) :
    (Instr.makeSlice 24 (.int .i64 (n : Int)) (.int .i64 (n : Int))).run Trym.prog w = .ok (.slice (some ⟨w.heap.size, 0, none⟩) n n) (w.alloc (.cells (madeCells #[.int .u8 0] n) 5)) := by
  obtain ⟨i0, hi, hz0, hz1, hz2⟩ := info_parts Trym.info5
  have := run_make (P := Trym.prog) w 24 5 i0 (.int .u8 0) Trym.underlying24 hi hz0 .i64 .i64 n n (by omega) (by omega) (by rw [hz2]; omega) (by omega)
  rw [hz1] at this
  simpa [Value.cells] using this

/-! ### what the rows hold behind 'k' rounds -/
def revL (s : List UInt8) (k : Nat) : List UInt8 := List.replicate (s.length - k) 0 ++ (s.take k).reverse
def swpL (s : List UInt8) (k : Nat) : List UInt8 := (s.take k).map swc ++ List.replicate (s.length - k) 0

theorem revL_length (s : List UInt8) (k : Nat) (h : k ≤ s.length) : (revL s k).length = s.length := by
  simp [revL]; omega
theorem swpL_length (s : List UInt8) (k : Nat) (h : k ≤ s.length) : (swpL s k).length = s.length := by
  simp [swpL]; omega
theorem revL_zero (s : List UInt8) : revL s 0 = List.replicate s.length 0 := by simp [revL]
theorem swpL_zero (s : List UInt8) : swpL s 0 = List.replicate s.length 0 := by simp [swpL]
theorem revL_full (s : List UInt8) : revL s s.length = s.reverse := by simp [revL]
theorem swpL_full (s : List UInt8) : swpL s s.length = s.map swc := by simp [swpL]

theorem revL_succ (s : List UInt8) (k : Nat) (h : k < s.length) : revL s (k + 1) = (revL s k).set (s.length - 1 - k) s[k] := by
  unfold revL
  have e : s.length - k = (s.length - (k + 1)) + 1 := by omega
  rw [List.take_succ_eq_append_getElem h, List.reverse_append, e, List.replicate_succ', List.append_assoc, List.set_append_right _ _ (by simp; omega)]
  have e2 : s.length - 1 - k - (List.replicate (s.length - (k + 1)) (0 : UInt8)).length = 0 := by simp; omega
  rw [e2]
  simp

theorem swpL_succ (s : List UInt8) (k : Nat) (h : k < s.length) : swpL s (k + 1) = (swpL s k).set k (swc s[k]) := by
  unfold swpL
  have e : s.length - k = (s.length - (k + 1)) + 1 := by omega
  have hl : ((s.take k).map swc).length = k := by simp; omega
  rw [List.take_succ_eq_append_getElem h, e, List.replicate_succ, List.set_append_right _ _ (by omega), hl, List.map_append, List.append_assoc, Nat.sub_self]
  rfl

theorem xor32_all : ∀ n : Fin 256, bits BinOp.xor IntKind.u8 (n.val : Int) 32 = ((UInt8.ofNat n.val ^^^ 32).toNat : Int) := by decide +kernel

theorem xor32 (c : UInt8) (h : cls c = 1) : bits BinOp.xor IntKind.u8 (c.toNat : Int) 32 = ((swc c).toNat : Int) := by
  have := xor32_all ⟨c.toNat, c.toNat_lt⟩
  simp only [UInt8.ofNat_toNat] at this
  unfold swc
  rw [if_pos h]
  exact this

theorem swc_same (c : UInt8) (h : cls c ≠ 1) : (c.toNat : Int) = ((swc c).toNat : Int) := by
  unfold swc; rw [if_neg h]

/-- the state behind 'k' rounds: both rows, and what of the world stands -/
structure St (w wr : World) (s : List UInt8) (k : Nat) : Prop where
  rev : Blk wr w.heap.size (revL s k)
  swp : Blk wr (w.heap.size + 1) (swpL s k)
  bel : Below w.heap.size w wr

theorem St.start (w : World) (s : List UInt8) (n : Nat) (hn : s.length = n) : St w ((w.alloc (.cells (madeCells #[.int .u8 0] n) 5)).alloc (.cells (madeCells #[.int .u8 0] n) 5)) s 0 := by
  subst hn
  refine ⟨?_, ?_, ?_⟩
  · rw [revL_zero]; exact (Blk.made w _).alloc _
  · rw [swpL_zero]
    have := Blk.made (w.alloc (.cells (madeCells #[.int .u8 0] s.length) 5)) s.length
    simpa using this
  · exact ((Below.refl _ w).alloc (Nat.le_refl _) _).alloc (by simp) _

theorem St.next {w wr : World} {s : List UInt8} {k : Nat} (h : St w wr s k) (hk : k < s.length) (j : Nat) (hj : j = s.length - 1 - k) (v1 v2 : Int) (h1 : v1 = (s[k].toNat : Int)) (h2 : v2 = ((swc s[k]).toNat : Int)) :
    St w ((wr.setCell ⟨w.heap.size, j, none⟩ (.int .u8 v1)).setCell ⟨w.heap.size + 1, k, none⟩ (.int .u8 v2)) s (k + 1) := by
  subst hj
  refine ⟨?_, ?_, ?_⟩
  · rw [revL_succ s k hk]
    exact (h.rev.set _ _ _ h1).other _ _ (by simp)
  · rw [swpL_succ s k hk]
    exact (h.swp.other _ _ (by simp)).set _ _ _ h2
  · exact (h.bel.setCell (Nat.le_refl _) _).setCell (Nat.le_succ _) _

end Go.Proofs.Qxb6604487aMods.V
