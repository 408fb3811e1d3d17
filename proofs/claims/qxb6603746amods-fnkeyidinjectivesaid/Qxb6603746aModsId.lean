import Derived.Test.Qxb6603746aModsBase
namespace Go.Proofs.Qxb6603746aMods.K
open Go.RowKit
set_option linter.unusedSimpArgs false
set_option linter.unusedVariables false

def zeros : List UInt8 := List.replicate 32 0
theorem zeros_length : zeros.length = 32 := rfl

/-- the bytes of a key's id -/
def keyId (S : List UInt8) (nm : ByteArray) : List UInt8 := if S = zeros then nm.data.toList else 0 :: (S ++ nm.data.toList)

theorem keyId_zero (S : List UInt8) (nm : ByteArray) (h : S = zeros) : keyId S nm = nm.data.toList := by unfold keyId; rw [if_pos h]
theorem keyId_other (S : List UInt8) (nm : ByteArray) (h : ¬ S = zeros) : keyId S nm = 0 :: (S ++ nm.data.toList) := by unfold keyId; rw [if_neg h]

/-- the cells of a Key -/
def K33 (S : List UInt8) (nm : ByteArray) : Array Value := (sc S ++ [Value.string nm]).toArray

theorem K33_last (S : List UInt8) (hS : S.length = 32) (nm : ByteArray) : (K33 S nm)[32]? = some (.string nm) := by
  have : (sc S).length = 32 := by rw [sc_length, hS]
  simp [K33, this]

theorem range_key (w : World) (S : List UInt8) (nm : ByteArray) (t : TypeId) : (w.alloc (.cells (K33 S nm) t)).rangeAt w.heap.size 0 (sc S) := by
  intro j v hv
  rw [World.cell?_alloc_at _ _ _ _ rfl]
  have hj := (List.getElem?_eq_some_iff.1 hv).1
  simp only [K33, Nat.zero_add, List.getElem?_toArray]
  rw [List.getElem?_append_left hj]
  exact hv

theorem eq_zero (S : List UInt8) (hS : S.length = 32) (w : World) :
    (Op.equalIn 10000 31 (.agg (scA S)) (.agg #[.int .u8 0, .int .u8 0, .int .u8 0, .int .u8 0, .int .u8 0, .int .u8 0, .int .u8 0, .int .u8 0, .int .u8 0, .int .u8 0, .int .u8 0, .int .u8 0, .int .u8 0, .int .u8 0, .int .u8 0, .int .u8 0, .int .u8 0, .int .u8 0, .int .u8 0, .int .u8 0, .int .u8 0, .int .u8 0, .int .u8 0, .int .u8 0, .int .u8 0, .int .u8 0, .int .u8 0, .int .u8 0, .int .u8 0, .int .u8 0, .int .u8 0, .int .u8 0])).run Trym.prog w = .ok (S == zeros) w :=
  eq_any 31 Trym.underlying31 S zeros hS zeros_length w

/-- the result of 'id': a row of its own that holds the bytes 'L' -/
def Row (w w' : World) (g : Nat) (L : List UInt8) : Prop :=
  w.heap.size ≤ g ∧ g < w'.heap.size ∧ (∀ j (hj : j < L.length), w'.cell? ⟨g, j, none⟩ = some (.int .u8 (L[j].toNat : Int))) ∧ Below w.heap.size w w'

theorem conv_bytes (nm : ByteArray) (w : World) :
    (convert 9 24 (.string nm)).run Trym.prog w = .ok (.slice (some ⟨w.heap.size, 0, none⟩) nm.size (grownCap w nm.size 0 5))
      (w.drew.alloc (.cells (bytesRow nm (grownCap w nm.size 0 5)) 5 ((bytesRow nm (grownCap w nm.size 0 5)).size, (bytesRow nm (grownCap w nm.size 0 5)).size + 1))) :=
  run_bytes_of_string w 9 24 5 nm Trym.underlying9 Trym.underlying24 Trym.underlying5

theorem row_bytes (w w1 : World) (nm : ByteArray) (hb : Below w.heap.size w w1) (cap : Nat) (t : TypeId) (fr : Nat × Nat) :
    Row w (w1.drew.alloc (.cells (bytesRow nm cap) t fr)) w1.heap.size nm.data.toList := by
  have hz := hb.size
  refine ⟨hz, by simp, fun j hj => ?_, hb.drew.alloc hz _⟩
  have : (w1.drew.alloc (.cells (bytesRow nm cap) t fr)).cell? ⟨w1.heap.size, j, none⟩ = (bytesRow nm cap)[j]? := World.cell?_alloc_mark w1.drew _ _ _ j
  rw [this, bytesRow_at nm cap j (by simpa using hj)]
  rfl

set_option maxHeartbeats 1000000 in
theorem id_zero (S : List UInt8) (hS : S.length = 32) (nm : ByteArray) (w : World) (hn : nm.size ≤ 65536) (hz : S = zeros) :
    Calls Trym.prog 12 #[.agg (K33 S nm)] w fun e w' => ∃ g cap, e = .returned (.slice (some ⟨g, 0, none⟩) nm.size cap) ∧ Row w w' g nm.data.toList := by
  have r0 := range_key w S nm 33
  have c32 := K33_last S hS nm
  have hq : ∀ w, (Op.equalIn 10000 31 (.agg (scA S)) (.agg #[.int .u8 0, .int .u8 0, .int .u8 0, .int .u8 0, .int .u8 0, .int .u8 0, .int .u8 0, .int .u8 0, .int .u8 0, .int .u8 0, .int .u8 0, .int .u8 0, .int .u8 0, .int .u8 0, .int .u8 0, .int .u8 0, .int .u8 0, .int .u8 0, .int .u8 0, .int .u8 0, .int .u8 0, .int .u8 0, .int .u8 0, .int .u8 0, .int .u8 0, .int .u8 0, .int .u8 0, .int .u8 0, .int .u8 0, .int .u8 0, .int .u8 0, .int .u8 0])).run Trym.prog w = .ok true w := fun w => by rw [eq_zero S hS w, hz]; rfl
  have hcv := conv_bytes nm
  have hb : Hid (Below w.heap.size w (w.alloc (.cells (K33 S nm) 33))) := (Below.refl _ _).alloc (Nat.le_refl _) _
  clear hz
  go_enter Trym.func12, Trym.ntmps12
  go_wp2_with (refine load31 rfl _ rfl w.heap.size rfl S hS (by first | exact r0) ?_)
  go_ret
  have hrow := row_bytes w (w.alloc (.cells (K33 S nm) 33)) nm hb.out
  rw [show (w.alloc (.cells (K33 S nm) 33)).heap.size = w.heap.size + 1 from by simp] at hrow
  exact ⟨_, _, rfl, hrow _ _ _⟩

theorem own_made (w0 w : World) (hb : Below w0.heap.size w0 w) (n : Nat) (t : TypeId) : Own w0 (w.alloc (.cells (madeCells #[.int .u8 0] n) t)) w.heap.size n [] := by
  refine ⟨hb.size, by simp, Nat.zero_le _, fun j hj => ?_, fun j hj => absurd hj (Nat.not_lt_zero _), hb.alloc hb.size _⟩
  rw [World.cell?_alloc_at _ _ _ _ rfl, World.frozen?_alloc_at _ _ _ _ rfl]
  refine ⟨?_, rfl⟩
  rw [Array.getElem?_eq_getElem (by rw [size_madeCells]; exact hj)]
  rfl

theorem run_mk (n : Nat) (hn : n ≤ 1048576) (w : World) :
    (Instr.makeSlice 24 (.int .i64 0) (.int .i64 (33 + (n : Int)))).run Trym.prog w = .ok (.slice (some ⟨w.heap.size, 0, none⟩) 0 (33 + n)) (w.alloc (.cells (madeCells #[.int .u8 0] (33 + n)) 5)) := by
  obtain ⟨i0, hi, hz0, hz1, hz2⟩ := info_parts info5
  have := run_make (P := Trym.prog) w 24 5 i0 (.int .u8 0) Trym.underlying24 hi hz0 .i64 .i64 0 (33 + (n : Int)) (by omega) (by omega) (by rw [hz2]; omega) (by omega)
  rw [hz1, show (33 + (n : Int)).toNat = 33 + n from by omega] at this
  simpa [Value.cells] using this

theorem eq_zero_no (S : List UInt8) (hS : S.length = 32) (hz : ¬ S = zeros) (w : World) :
    (Op.equalIn 10000 31 (.agg (scA S)) (.agg #[.int .u8 0, .int .u8 0, .int .u8 0, .int .u8 0, .int .u8 0, .int .u8 0, .int .u8 0, .int .u8 0, .int .u8 0, .int .u8 0, .int .u8 0, .int .u8 0, .int .u8 0, .int .u8 0, .int .u8 0, .int .u8 0, .int .u8 0, .int .u8 0, .int .u8 0, .int .u8 0, .int .u8 0, .int .u8 0, .int .u8 0, .int .u8 0, .int .u8 0, .int .u8 0, .int .u8 0, .int .u8 0, .int .u8 0, .int .u8 0, .int .u8 0, .int .u8 0])).run Trym.prog w = .ok false w := by
  rw [eq_zero S hS w]
  congr 1
  simpa using hz

theorem src_str (nm : ByteArray) (w : World) : Src Trym.prog 1 9 (.string nm) nm.data.toList.length (sc nm.data.toList) w := by
  have := Src.ofString (P := Trym.prog) w Trym.underlying9 nm
  rw [show nm.data.toList.length = nm.size from by rw [Array.length_toList]; rfl]
  exact this

theorem src_row (M : List UInt8) (n c : Nat) (hn : n = M.length) (w : World) (b : Nat) (hr : w.rangeAt b 0 (sc M)) : Src Trym.prog 1 24 (.slice (some ⟨b, 0, none⟩) n c) M.length (sc M) w := by
  subst hn
  exact Src.ofSlice w Trym.underlying24 ⟨b, 0, none⟩ M.length c (sc M) (by rw [sc_length, Nat.mul_one]) (fun j u hj => by rw [Addr.add_mid]; exact hr j u hj) (sc_one M)

theorem range_one (w : World) (t : TypeId) : (w.alloc (.cells #[.int .u8 0] t)).rangeAt w.heap.size 0 (sc [0]) := by
  intro j v hv
  rw [World.cell?_alloc_at _ _ _ _ rfl]
  simpa [sc] using hv

theorem range_keep {w w' : World} {g : Nat} {cs : List Value} (b : Nat) (h : w.rangeAt b 0 cs) (keep : ∀ b o, b ≠ g → w'.cell? ⟨b, o, none⟩ = w.cell? ⟨b, o, none⟩) (hb : b ≠ g) : w'.rangeAt b 0 cs :=
  fun j v hv => (keep b _ hb).trans (h j v hv)

theorem ret_slice {a : Option Addr} {n m c : Nat} (h : n = m) : Ending.returned (.slice a n c) = .returned (.slice a m c) := by rw [h]

theorem own_row {w w3 : World} {g cap : Nat} {S N : List UInt8} (h : Own w w3 g cap (([0] ++ S) ++ N)) : Row w w3 g (0 :: (S ++ N)) :=
  ⟨h.1, h.2.1, h.2.2.2.2.1, h.2.2.2.2.2⟩

theorem row_up {w w1 : World} {o : Obj} {g : Nat} {L : List UInt8} (h : Row (w.alloc o) w1 g L) : Row w w1 g L := by
  have e : (w.alloc o).heap.size = w.heap.size + 1 := by simp
  refine ⟨by have := h.1; omega, h.2.1, h.2.2.1, ((Below.refl _ _).alloc (Nat.le_refl _) o).trans (h.2.2.2.mono (by omega))⟩

set_option maxHeartbeats 1000000 in
theorem id_other (S : List UInt8) (hS : S.length = 32) (nm : ByteArray) (w : World) (hn : nm.size ≤ 65536) (hz : ¬ S = zeros) :
    Calls Trym.prog 12 #[.agg (K33 S nm)] w fun e w' => ∃ g, e = .returned (.slice (some ⟨g, 0, none⟩) (33 + nm.size) (33 + nm.size)) ∧ Row w w' g (0 :: (S ++ nm.data.toList)) := by
  have r0 := range_key w S nm 33
  have c32 := K33_last S hS nm
  have hq := eq_zero_no S hS hz
  have hmk := run_mk nm.size (by omega)
  have hb : Hid (Below w.heap.size w (w.alloc (.cells (K33 S nm) 33))) := (Below.refl _ _).alloc (Nat.le_refl _) _
  have own0 : Hid (Own w (((w.alloc (.cells (K33 S nm) 33)).alloc (.cells (madeCells #[.int .u8 0] (33 + nm.size)) 5)).alloc (.cells #[.int .u8 0] 5)) (w.heap.size + 1) (33 + nm.size) []) := by
    have := own_made w (w.alloc (.cells (K33 S nm) 33)) hb.out (33 + nm.size) 5
    rw [show (w.alloc (.cells (K33 S nm) 33)).heap.size = w.heap.size + 1 from by simp] at this
    exact this.alloc (by simp; omega) _
  have s1 : Hid (Src Trym.prog 1 24 (.slice (some ⟨w.heap.size + 1 + 1, 0, none⟩) 1 1) [(0 : UInt8)].length (sc [0]) (((w.alloc (.cells (K33 S nm) 33)).alloc (.cells (madeCells #[.int .u8 0] (33 + nm.size)) 5)).alloc (.cells #[.int .u8 0] 5))) := by
    have := range_one ((w.alloc (.cells (K33 S nm) 33)).alloc (.cells (madeCells #[.int .u8 0] (33 + nm.size)) 5)) 5
    rw [show ((w.alloc (.cells (K33 S nm) 33)).alloc (.cells (madeCells #[.int .u8 0] (33 + nm.size)) 5)).heap.size = w.heap.size + 1 + 1 from by simp] at this
    exact src_row [0] 1 1 rfl _ _ this
  have r2 : Hid ((((w.alloc (.cells (K33 S nm) 33)).alloc (.cells (madeCells #[.int .u8 0] (33 + nm.size)) 5)).alloc (.cells #[.int .u8 0] 5)).rangeAt w.heap.size 0 (sc S)) := World.rangeAt_alloc (World.rangeAt_alloc r0 _) _
  have c0 : Hid ((((w.alloc (.cells (K33 S nm) 33)).alloc (.cells (madeCells #[.int .u8 0] (33 + nm.size)) 5)).alloc (.cells #[.int .u8 0] 5)).cell? ⟨w.heap.size, 32, none⟩ = some (.string nm)) := by
    show _ = _
    rw [World.cell?_alloc_past _ _ _ (by simp; omega), World.cell?_alloc_past _ _ _ (by simp), World.cell?_alloc_at _ _ _ _ rfl]
    exact c32
  clear hz
  go_enter Trym.func12, Trym.ntmps12
  go_wp2_with (first
    | (refine load31 rfl _ rfl w.heap.size rfl S hS (by first | exact r0) ?_)
    | (at_builtin; refine append_room rfl (.tmp 16) (.tmp 17) 24 rfl w (w.heap.size + 1) (33 + nm.size) [] _ rfl rfl _ rfl [0] s1.out own0.out (by simp; omega) ?_; intro w1 own1 keep1 z1; have c1 := (keep1 w.heap.size 32 (by omega)).trans c0.out; have r1 := range_keep w.heap.size r2.out keep1 (by omega); clear keep1)
    | (at_builtin; refine append_room rfl (.tmp 19) (.tmp 21) 24 rfl w (w.heap.size + 1) (33 + nm.size) [0] _ rfl rfl _ rfl S (src_row S _ _ hS.symm _ _ r1) own1 (by simp only [List.length_cons, List.length_nil, hS]; omega) ?_; intro w2 own2 keep2 z2; have c2 := (keep2 w.heap.size 32 (by omega)).trans c1; clear keep2)
    | (at_builtin; refine append_room rfl (.tmp 23) (.tmp 25) 9 rfl w (w.heap.size + 1) (33 + nm.size) ([0] ++ S) _ (by simp only [List.length_append, List.length_cons, List.length_nil, hS]) rfl _ rfl nm.data.toList (src_str nm _) own2 (by simp only [List.length_append, List.length_cons, List.length_nil, hS, Array.length_toList]; exact Nat.le_refl _) ?_; intro w3 own3 keep3 z3))
  go_ret
  exact ⟨w.heap.size + 1, ret_slice (by simp only [List.length_append, List.length_cons, List.length_nil, hS, Array.length_toList]), own_row own3⟩

theorem id_any (S : List UInt8) (hS : S.length = 32) (nm : ByteArray) (w : World) (hn : nm.size ≤ 65536) :
    Calls Trym.prog 12 #[.agg (K33 S nm)] w fun e w' => ∃ g cap, e = .returned (.slice (some ⟨g, 0, none⟩) (keyId S nm).length cap) ∧ Row w w' g (keyId S nm) := by
  by_cases hz : S = zeros
  · rw [keyId_zero S nm hz, show nm.data.toList.length = nm.size from by rw [Array.length_toList]; rfl]
    exact id_zero S hS nm w hn hz
  · rw [keyId_other S nm hz, show (0 :: (S ++ nm.data.toList)).length = 33 + nm.size from by simp only [List.length_cons, List.length_append, hS, Array.length_toList]; show 32 + nm.size + 1 = _; omega]
    exact (id_other S hS nm w hn hz).mono fun e w' ⟨g, he, hr⟩ => ⟨g, _, he, hr⟩

theorem built33 (S : List UInt8) (hS : S.length = 32) (nm : ByteArray) : Trym.prog.built 33 [(0, .agg (scA S)), (1, .string nm)] = some (K33 S nm) :=
  match S, hS with
  | [c0, c1, c2, c3, c4, c5, c6, c7, c8, c9, c10, c11, c12, c13, c14, c15, c16, c17, c18, c19, c20, c21, c22, c23, c24, c25, c26, c27, c28, c29, c30, c31], _ => by kernel_rfl

theorem build33 {ops : Array Oper} {rest : List Oper} {op : Oper} {a : Act} {w : World} {Q : Exit → Act → World → Prop} (hgd : op.guard = none) (x y : Operand) (ho : op.op = .build 33 #[(0, x), (1, y)])
    (S : List UInt8) (hS : S.length = 32) (nm : ByteArray) (hx : a.eval x = .agg (scA S)) (hy : a.eval y = .string nm)
    (h : wpList Trym.prog ops Q rest (a.put op.dst (.agg (K33 S nm))) w) : wpList Trym.prog ops Q (op :: rest) a w := by
  have hrun := run_build (P := Trym.prog) w 33 #[(0, .agg (scA S)), (1, .string nm)] (K33 S nm) (built33 S hS nm)
  refine wpList_plain hgd fun K hK' => ?_
  unfold Oper.wp execOp
  simp only [ho, List.map_toArray, List.map_cons, List.map_nil, hx, hy, hrun, Sem.run_bind, Sem.run_pure, Result.andThen_ok]
  exact hK' _ _ h

set_option maxHeartbeats 400000 in
theorem zz_any (S : List UInt8) (hS : S.length = 32) (nm : ByteArray) (w : World) (hn : nm.size ≤ 65536) :
    Calls Trym.prog 7 #[.agg (scA S), .string nm] w fun e w' => ∃ g cap, e = .returned (.slice (some ⟨g, 0, none⟩) (keyId S nm).length cap) ∧ Row w w' g (keyId S nm) := by
  have r0 := range_new w S 22
  go_enter Trym.func7, Trym.ntmps7
  go_wp2_with (first
    | (refine load22 rfl _ rfl w.heap.size rfl S hS (by first | exact r0) ?_)
    | (refine build33 rfl _ _ rfl S hS nm rfl rfl ?_)
    | (go_at_call 12; refine (id_any S hS nm _ hn).mono ?_; rintro e w1 ⟨g, cap, rfl, hrow⟩))
  go_ret
  exact ⟨g, cap, rfl, row_up hrow⟩

set_option maxHeartbeats 400000 in
theorem zz_zero (S : List UInt8) (hS : S.length = 32) (nm : ByteArray) (w : World) (hn : nm.size ≤ 65536) (hz : Hid (S = zeros)) :
    Calls Trym.prog 7 #[.agg (scA S), .string nm] w fun e w' => ∃ g cap, e = .returned (.slice (some ⟨g, 0, none⟩) nm.size cap) ∧ Row w w' g nm.data.toList := by
  have r0 := range_new w S 22
  go_enter Trym.func7, Trym.ntmps7
  go_wp2_with (first
    | (refine load22 rfl _ rfl w.heap.size rfl S hS (by first | exact r0) ?_)
    | (refine build33 rfl _ _ rfl S hS nm rfl rfl ?_)
    | (go_at_call 12; refine (id_zero S hS nm _ hn hz.out).mono ?_; rintro e w1 ⟨g, cap, rfl, hrow⟩))
  go_ret
  exact ⟨g, cap, rfl, row_up hrow⟩

set_option maxHeartbeats 400000 in
theorem zz_other (S : List UInt8) (hS : S.length = 32) (nm : ByteArray) (w : World) (hn : nm.size ≤ 65536) (hz : Hid (¬ S = zeros)) :
    Calls Trym.prog 7 #[.agg (scA S), .string nm] w fun e w' => ∃ g, e = .returned (.slice (some ⟨g, 0, none⟩) (33 + nm.size) (33 + nm.size)) ∧ Row w w' g (0 :: (S ++ nm.data.toList)) := by
  have r0 := range_new w S 22
  go_enter Trym.func7, Trym.ntmps7
  go_wp2_with (first
    | (refine load22 rfl _ rfl w.heap.size rfl S hS (by first | exact r0) ?_)
    | (refine build33 rfl _ _ rfl S hS nm rfl rfl ?_)
    | (go_at_call 12; refine (id_other S hS nm _ hn hz.out).mono ?_; rintro e w1 ⟨g, rfl, hrow⟩))
  go_ret
  exact ⟨g, rfl, row_up hrow⟩

end Go.Proofs.Qxb6603746aMods.K
