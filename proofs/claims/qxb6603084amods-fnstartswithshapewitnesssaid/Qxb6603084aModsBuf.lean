/- A row of bytes that the call itself has made: its cells, that they may be written, and what of the world stands. -/
import Derived.WalkKit
import Derived.Deep.QuietTactic
namespace Go.Proofs.Qxb6603084aMods.Shape
open Go.RowKit

def Buf (w wr : World) (B : Nat) (L : List UInt8) : Prop :=
  (∀ j (hj : j < L.length), wr.cell? ⟨B, j, none⟩ = some (.int .u8 (L[j].toNat : Int))) ∧ (∀ j, wr.frozen? ⟨B, j, none⟩ = false) ∧ Grown w wr ∧ w.heap.size ≤ B

theorem Buf.drewN {w wr : World} {B : Nat} {L : List UInt8} (h : Buf w wr B L) (n : Nat) : Buf w (wr.drewN n) B L := h

theorem Buf.set {w wr : World} {B : Nat} {L : List UInt8} (h : Buf w wr B L) (k : Nat) (hk : k < L.length) (x : UInt8) (v : Int) (hv : v = (x.toNat : Int)) :
    Buf w (wr.setCell ⟨B, k, none⟩ (.int .u8 v)) B (L.set k x) := by
  obtain ⟨h1, h2, h3, h4⟩ := h
  subst hv
  refine ⟨fun j hj => ?_, fun j => by simp [h2], h3.setCell h4 _, h4⟩
  by_cases e : j = k
  · subst e
    rw [World.cell?_setCell_same _ _ _ (h1 j hk)]
    simp
  · rw [World.cell?_setCell_other _ _ _ _ (by simp only [ne_eq, Addr.mk.injEq]; omega)]
    have hj' : j < L.length := by simpa using hj
    rw [h1 j hj', List.getElem_set_ne (by omega)]

theorem Buf.made (w : World) (n : Nat) (t : TypeId) : Buf w (w.alloc (.cells (madeCells #[.int .u8 0] n) t)) w.heap.size (List.replicate n 0) := by
  refine ⟨fun j hj => ?_, fun j => World.frozen?_alloc_at _ _ _ _ rfl, (Grown.refl w).alloc _ _, Nat.le_refl _⟩
  rw [World.cell?_alloc_at _ _ _ _ rfl]
  have hj' : j < n := by simpa using hj
  have e := toList_madeCells_one (.int .u8 0) n
  have e2 : (madeCells #[.int .u8 0] n)[j]? = (List.replicate n (Value.int .u8 0))[j]? := by rw [← e]; simp
  rw [e2]
  simp [hj']

theorem Buf.str {P : Program} {w wr : World} {B : Nat} {L : List UInt8} (h : Buf w wr B L) (src dst e : TypeId) (cap : Nat) (hs : P.underlying src = some (.slice e)) (he : P.underlying e = some (.int .u8)) (hd : P.underlying dst = some .string) :
    (convert src dst (.slice (some ⟨B, 0, none⟩) L.length cap)).run P wr = .ok (.string ⟨L.toArray⟩) wr := by
  refine run_convert_bytes_back wr src dst e ⟨B, 0, none⟩ cap L hs he hd fun j hj => ?_
  have e : (⟨B, 0, none⟩ : Addr).add j = ⟨B, j, none⟩ := by unfold Addr.add; split <;> simp_all
  rw [e]
  exact h.1 j hj

end Go.Proofs.Qxb6603084aMods.Shape
