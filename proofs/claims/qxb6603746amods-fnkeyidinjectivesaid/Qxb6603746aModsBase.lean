/- Scopes ([32]byte) as lists of bytes; the laws on them. -/
import Derived.Test.Qxb6603746aModsRows
import Derived.WalkKit
import Derived.WalkLawsBesides
import Derived.WalkSpells
import Derived.LoopTactic
import Derived.RegionTactic
import Derived.Deep.QuietTactic
import Derived.BigQuiet
import Derived.Outline
import Derived.Deep.MidRow
import Derived.Deep.AppendSrc
import Derived.Stop.BytesEq
namespace Go.Proofs.Qxb6603746aMods.K
open Go.RowKit
set_option linter.unusedSimpArgs false
set_option linter.unusedVariables false

/-- bytes as cells -/
def sc (S : List UInt8) : List Value := S.map fun c => Value.int .u8 (c.toNat : Int)

theorem sc_length (S : List UInt8) : (sc S).length = S.length := by simp [sc]
theorem sc_one (S : List UInt8) : ∀ u ∈ sc S, u.oneCell' = true := by
  intro u hu
  obtain ⟨_, _, rfl⟩ := List.mem_map.1 hu
  rfl

/-- the array value -/
def scA (S : List UInt8) : Array Value := (sc S).toArray

theorem size22 : (Trym.prog.info? 22).map (·.size) = some 32 := by kernel_rfl
theorem size31 : (Trym.prog.info? 31).map (·.size) = some 32 := by kernel_rfl
theorem size33 : (Trym.prog.info? 33).map (·.size) = some 33 := by kernel_rfl

theorem bytes6_yes (S : List UInt8) (nm : ByteArray) (w : World) (h : nm.size ≤ 1048576) :
    Calls Trym.prog 6 #[.agg (scA S), .string nm] w fun e w' => e = .returned (.bool true) ∧ w.alloc (.cells (scA S) 22) = w' := by
  go_enter Trym.func6, Trym.ntmps6
  go_wp2
  go_ret
  exact ⟨rfl, rfl⟩

theorem bytes6_no (S : List UInt8) (nm : ByteArray) (w : World) (h : (1048576 : Int) < (nm.size : Int)) :
    Calls Trym.prog 6 #[.agg (scA S), .string nm] w fun e w' => e = .returned (.bool false) ∧ w.alloc (.cells (scA S) 22) = w' := by
  go_enter Trym.func6, Trym.ntmps6
  go_wp2
  go_ret
  exact ⟨rfl, rfl⟩

theorem info5 : (Trym.prog.info? 5).map (fun i => (i.zero, i.size, i.bytes)) = some (some (.int .u8 0), 1, 1) := by kernel_rfl

theorem size5 (w : World) : (sizeOf 5).run Trym.prog w = .ok 1 w := by
  obtain ⟨i0, hi, hz0, hz1, hz2⟩ := info_parts info5
  simp [sizeOf, typeInfo, hi, hz1]

theorem eq_any (t : TypeId) (ht : Trym.prog.underlying t = some (.array 32 5)) (S T : List UInt8) (hS : S.length = 32) (hT : T.length = 32) (w : World) :
    (Op.equalIn 10000 t (.agg (scA S)) (.agg (scA T))).run Trym.prog w = .ok (S == T) w :=
  run_equalIn_bytes w 9998 t 5 32 ht Trym.underlying5 size5 S T hS hT

/-- a boxed scope is there -/
theorem range_new (w : World) (S : List UInt8) (t : TypeId) : (w.alloc (.cells (scA S) t)).rangeAt w.heap.size 0 (sc S) := by
  intro j v hv
  rw [World.cell?_alloc_at _ _ _ _ rfl]
  simpa [scA] using hv

/-- a law for the walk: the scope is loaded -/
theorem load22 {ops : Array Oper} {rest : List Oper} {op : Oper} {a : Act} {w : World} {Q : Exit → Act → World → Prop} (hgd : op.guard = none) (x : Operand) (ho : op.op = .load 22 x)
    (b : Nat) (hx : a.eval x = .pointer (some ⟨b, 0, none⟩)) (S : List UInt8) (hS : S.length = 32) (hc : w.rangeAt b 0 (sc S))
    (h : wpList Trym.prog ops Q rest (a.put op.dst (.agg (scA S))) w) : wpList Trym.prog ops Q (op :: rest) a w :=
  wpList_load_mid hgd 22 x ho b 0 hx (sc S) _ hc Trym.underlying22 rfl (by rw [sc_length, hS]; exact size22) h

theorem load31 {ops : Array Oper} {rest : List Oper} {op : Oper} {a : Act} {w : World} {Q : Exit → Act → World → Prop} (hgd : op.guard = none) (x : Operand) (ho : op.op = .load 31 x)
    (b : Nat) (hx : a.eval x = .pointer (some ⟨b, 0, none⟩)) (S : List UInt8) (hS : S.length = 32) (hc : w.rangeAt b 0 (sc S))
    (h : wpList Trym.prog ops Q rest (a.put op.dst (.agg (scA S))) w) : wpList Trym.prog ops Q (op :: rest) a w :=
  wpList_load_mid hgd 31 x ho b 0 hx (sc S) _ hc Trym.underlying31 rfl (by rw [sc_length, hS]; exact size31) h

/-- a row of bytes that the call itself has made: 'cap' cells, the first of them the bytes 'L' -/
def Own (w0 w : World) (g cap : Nat) (L : List UInt8) : Prop :=
  w0.heap.size ≤ g ∧ g < w.heap.size ∧ L.length ≤ cap ∧ (∀ j, j < cap → (w.cell? ⟨g, j, none⟩).isSome = true ∧ w.frozen? ⟨g, j, none⟩ = false) ∧
    (∀ j (hj : j < L.length), w.cell? ⟨g, j, none⟩ = some (.int .u8 (L[j].toNat : Int))) ∧ Below w0.heap.size w0 w

theorem Own.alloc {w0 w : World} {g cap : Nat} {L : List UInt8} (h : Own w0 w g cap L) (hle : w0.heap.size ≤ w.heap.size) (o : Obj) : Own w0 (w.alloc o) g cap L := by
  obtain ⟨h1, h2, h3, h4, h5, h6⟩ := h
  refine ⟨h1, by simp; omega, h3, fun j hj => ?_, fun j hj => ?_, h6.alloc hle o⟩
  · rw [World.cell?_alloc_past _ _ _ h2, World.frozen?_alloc_past _ _ _ h2]; exact h4 j hj
  · rw [World.cell?_alloc_past _ _ _ h2]; exact h5 j hj

theorem sc_get (M : List UInt8) (j : Nat) (h : j < M.length) : (sc M)[j]? = some (.int .u8 (M[j].toNat : Int)) := by
  simp [sc, h]

theorem below_setCells {B : Nat} {a : World} (b : Nat) (hb : B ≤ b) : ∀ (vs : List Value) (o : Nat) (w : World), Below B a w → Below B a (w.setCells b o vs)
  | [], _, _, h => h
  | v :: r, o, w, h => below_setCells b hb r (o + 1) _ (h.setCell hb v)

theorem size_setCells (b : Nat) : ∀ (vs : List Value) (o : Nat) (w : World), (w.setCells b o vs).heap.size = w.heap.size
  | [], _, _ => rfl
  | v :: r, o, w => by rw [World.setCells, size_setCells b r (o + 1) _]; simp [World.setCell]

theorem Own.put {w0 w : World} {g cap : Nat} {L : List UInt8} (h : Own w0 w g cap L) (M : List UInt8) (hroom : L.length + M.length ≤ cap) :
    Own w0 (w.setCells g L.length (sc M)) g cap (L ++ M) := by
  obtain ⟨h1, h2, h3, h4, h5, h6⟩ := h
  refine ⟨h1, by rw [size_setCells]; exact h2, by simpa using hroom, fun j hj => ?_, fun j hj => ?_, below_setCells g h1 _ _ _ h6⟩
  · exact ⟨World.isSome_setCells g _ _ _ _ (h4 j hj).1, by rw [World.frozen?_setCells]; exact (h4 j hj).2⟩
  · by_cases hjl : j < L.length
    · rw [World.cell?_setCells_out g (sc M) L.length w ⟨g, j, none⟩ (fun _ _ => .inl hjl), h5 j hjl, List.getElem_append_left hjl]
    · have hjm : j - L.length < M.length := by simp at hj; omega
      have := World.cell?_setCells_in g (sc M) L.length w (fun i hi => (h4 _ (by rw [sc_length] at hi; omega)).1) (j - L.length) (by rw [sc_length]; exact hjm)
      rw [show L.length + (j - L.length) = j from by omega] at this
      rw [this, List.getElem_append_right (by omega)]
      simp [sc]

/-- a law for the walk: append within the capacity, whatever the source -/
theorem append_room {ops : Array Oper} {rest : List Oper} {op : Oper} {a : Act} {w : World} {Q : Exit → Act → World → Prop} (hgd : op.guard = none) (s x : Operand) (tx : TypeId)
    (hop : op.op = Op.call { callee := Callee.builtin Builtin.append, args := #[s, x], argTypes := #[24, tx] })
    (w0 : World) (g cap : Nat) (L : List UInt8) (k : Nat) (hk : k = L.length) (hs : a.eval s = .slice (some ⟨g, 0, none⟩) k cap) (X : Value) (hx : a.eval x = X) (M : List UInt8)
    (src : Src Trym.prog 1 tx X M.length (sc M) w) (own : Own w0 w g cap L) (hroom : L.length + M.length ≤ cap)
    (h : ∀ w', Own w0 w' g cap (L ++ M) → (∀ b o, b ≠ g → w'.cell? ⟨b, o, none⟩ = w.cell? ⟨b, o, none⟩) → w'.heap.size = w.heap.size →
      wpList Trym.prog ops Q rest (a.put op.dst (.slice (some ⟨g, 0, none⟩) (L.length + M.length) cap)) w') : wpList Trym.prog ops Q (op :: rest) a w := by
  subst hk
  obtain ⟨i0, hi, hz0, hz1, hz2⟩ := info_parts info5
  have hrun := run_append_room_src (P := Trym.prog) w 24 tx op.type 5 i0 Trym.underlying24 hi g 0 L.length cap X M.length (sc M) (by rw [hz1]; exact src) hroom
    (fun j hj => by rw [hz1, sc_length] at *; simpa using (own.2.2.2.1 (L.length + j) (by omega)).1) (fun j hj => by rw [hz1, sc_length] at *; simpa using (own.2.2.2.1 (L.length + j) (by omega)).2)
  simp only [hz1, Nat.mul_one, Nat.zero_add] at hrun
  refine wpList_plain hgd fun K hK' => ?_
  unfold Oper.wp
  simp [execOp, hop, resolve, invoke, builtin, hs, hx, hrun, Result.andThen]
  refine hK' _ _ (h _ (own.put M hroom) (fun b o hb => ?_) (size_setCells _ _ _ _))
  exact World.cell?_setCells_out g (sc M) L.length w ⟨b, o, none⟩ (fun e _ => absurd e hb)

end Go.Proofs.Qxb6603746aMods.K
