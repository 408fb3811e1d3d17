import Derived.Test.Qxb6603746aModsDecode
namespace Go.Proofs.Qxb6603746aMods.K
open Go.RowKit
set_option linter.unusedSimpArgs false
set_option linter.unusedVariables false

/-- a scope that is there stays there behind new blocks and behind a call that turns nothing old -/
theorem range_below {w w' : World} {b : Nat} {cs : List Value} (h : w.rangeAt b 0 cs) (hb : Below w.heap.size w w') : w'.rangeAt b 0 cs := fun j v hv => by
  have := h j v hv
  rw [hb.cell (p := ⟨b, 0 + j, none⟩) (World.block_lt_of_cell? w _ this)]
  exact this

theorem range_lit (w : World) (n : Nat) (hn : n = w.heap.size) : (w.alloc (.cells #[.int .u8 0, .int .u8 0, .int .u8 0, .int .u8 0, .int .u8 0, .int .u8 0, .int .u8 0, .int .u8 0, .int .u8 0, .int .u8 0, .int .u8 0, .int .u8 0, .int .u8 0, .int .u8 0, .int .u8 0, .int .u8 0, .int .u8 0, .int .u8 0, .int .u8 0, .int .u8 0, .int .u8 0, .int .u8 0, .int .u8 0, .int .u8 0, .int .u8 0, .int .u8 0, .int .u8 0, .int .u8 0, .int .u8 0, .int .u8 0, .int .u8 0, .int .u8 0] 22)).rangeAt n 0 (sc zeros) := by
  subst hn
  exact (range_there (own_zero w 22)).1

theorem there_lit (w : World) (n : Nat) (hn : n = w.heap.size) : (w.alloc (.cells #[.int .u8 0, .int .u8 0, .int .u8 0, .int .u8 0, .int .u8 0, .int .u8 0, .int .u8 0, .int .u8 0, .int .u8 0, .int .u8 0, .int .u8 0, .int .u8 0, .int .u8 0, .int .u8 0, .int .u8 0, .int .u8 0, .int .u8 0, .int .u8 0, .int .u8 0, .int .u8 0, .int .u8 0, .int .u8 0, .int .u8 0, .int .u8 0, .int .u8 0, .int .u8 0, .int .u8 0, .int .u8 0, .int .u8 0, .int .u8 0, .int .u8 0, .int .u8 0] 22)).there n 0 32 := by
  subst hn
  exact (range_there (own_zero w 22)).2

theorem eq_same (S : List UInt8) (hS : S.length = 32) (w : World) : (Op.equalIn 10000 22 (.agg (scA S)) (.agg (scA S))).run Trym.prog w = .ok true w := by
  rw [eq_any 22 Trym.underlying22 S S hS hS w]; simp

theorem eq_yes (S T : List UInt8) (hS : S.length = 32) (hT : T.length = 32) (h : S = T) (w : World) : (Op.equalIn 10000 22 (.agg (scA S)) (.agg (scA T))).run Trym.prog w = .ok true w := by
  rw [eq_any 22 Trym.underlying22 S T hS hT w]; simp [h]

theorem eq_no (S T : List UInt8) (hS : S.length = 32) (hT : T.length = 32) (h : ¬ S = T) (w : World) : (Op.equalIn 10000 22 (.agg (scA S)) (.agg (scA T))).run Trym.prog w = .ok false w := by
  rw [eq_any 22 Trym.underlying22 S T hS hT w]
  congr 1
  simpa using h

/-- a law for the walk: the scope is stored -/
theorem store22 {ops : Array Oper} {rest : List Oper} {op : Oper} {a : Act} {w : World} {Q : Exit → Act → World → Prop} (hgd : op.guard = none) (x y : Operand) (ho : op.op = .store 22 x y)
    (b : Nat) (S : List UInt8) (hS : S.length = 32) (hx : a.eval x = .pointer (some ⟨b, 0, none⟩)) (hy : a.eval y = .agg (scA S)) (ht : w.there b 0 32)
    (h : wpList Trym.prog ops Q rest (a.put op.dst undef) (w.setCells b 0 (sc S))) : wpList Trym.prog ops Q (op :: rest) a w :=
  wpList_store_mid hgd 22 x y ho b 0 (scA S) hx hy (by simpa [scA, sc_length, hS] using ht) (by simp only [scA, List.size_toArray, sc_length, hS]; exact size22) (all_oneCell_toArray (sc_one S)) (by simpa [scA] using h)

theorem fin_facts (w5 : World) (b : Nat) (S T : List UInt8) (hS : S.length = 32) (hT : T.length = 32) (r5 : w5.rangeAt b 0 (sc S)) :
    ((w5.alloc (.cells #[.int .u8 0, .int .u8 0, .int .u8 0, .int .u8 0, .int .u8 0, .int .u8 0, .int .u8 0, .int .u8 0, .int .u8 0, .int .u8 0, .int .u8 0, .int .u8 0, .int .u8 0, .int .u8 0, .int .u8 0, .int .u8 0, .int .u8 0, .int .u8 0, .int .u8 0, .int .u8 0, .int .u8 0, .int .u8 0, .int .u8 0, .int .u8 0, .int .u8 0, .int .u8 0, .int .u8 0, .int .u8 0, .int .u8 0, .int .u8 0, .int .u8 0, .int .u8 0] 22)).setCells w5.heap.size 0 (sc T)).rangeAt b 0 (sc S) ∧ ((w5.alloc (.cells #[.int .u8 0, .int .u8 0, .int .u8 0, .int .u8 0, .int .u8 0, .int .u8 0, .int .u8 0, .int .u8 0, .int .u8 0, .int .u8 0, .int .u8 0, .int .u8 0, .int .u8 0, .int .u8 0, .int .u8 0, .int .u8 0, .int .u8 0, .int .u8 0, .int .u8 0, .int .u8 0, .int .u8 0, .int .u8 0, .int .u8 0, .int .u8 0, .int .u8 0, .int .u8 0, .int .u8 0, .int .u8 0, .int .u8 0, .int .u8 0, .int .u8 0, .int .u8 0] 22)).setCells w5.heap.size 0 (sc T)).rangeAt w5.heap.size 0 (sc T) := by
  have hb : b < w5.heap.size := World.block_lt_of_cell? w5 _ (r5 0 _ (sc_get S 0 (by omega)))
  exact ⟨World.rangeAt_setCells_apart (World.rangeAt_alloc r5 _) _ _ _ (.inl (by omega)), World.rangeAt_setCells_same _ _ _ _ (by rw [sc_length, hT]; exact there_lit w5 _ rfl)⟩

theorem below_end {w W3 w4 w5 : World} (h3 : Below w.heap.size w W3) (h4 : Below W3.heap.size W3 w4) (h5 : Below w4.heap.size w4 w5) (T : List UInt8) :
    Below w.heap.size w ((w5.alloc (.cells #[.int .u8 0, .int .u8 0, .int .u8 0, .int .u8 0, .int .u8 0, .int .u8 0, .int .u8 0, .int .u8 0, .int .u8 0, .int .u8 0, .int .u8 0, .int .u8 0, .int .u8 0, .int .u8 0, .int .u8 0, .int .u8 0, .int .u8 0, .int .u8 0, .int .u8 0, .int .u8 0, .int .u8 0, .int .u8 0, .int .u8 0, .int .u8 0, .int .u8 0, .int .u8 0, .int .u8 0, .int .u8 0, .int .u8 0, .int .u8 0, .int .u8 0, .int .u8 0] 22)).setCells w5.heap.size 0 (sc T)) := by
  have z3 := h3.size
  have z4 := h4.size
  have z5 := h5.size
  have h : Below w.heap.size w w5 := (h3.trans (h4.mono z3)).trans (h5.mono (by omega))
  exact below_setCells _ (by omega) _ _ _ (h.alloc (by omega) _)

theorem below_three (w : World) (a b c : Obj) : Below w.heap.size w (((w.alloc a).alloc b).alloc c) := (((Below.refl _ _).alloc (Nat.le_refl _) _).alloc (by simp) _).alloc (by simp; omega) _

theorem decode_zero' (g cap : Nat) (S : List UInt8) (hz : Hid (S = zeros)) (nm : ByteArray) (w w0 : World) (hrow : Row w0 w g nm.data.toList) (hn : nm.size ≤ 65536) (h0 : 0 < nm.size → ∃ h : 0 < nm.size, ((nm[0].toNat : Int) == 0) = false) :
    Calls Trym.prog 8 #[.slice (some ⟨g, 0, none⟩) nm.size cap] w fun e w' => e = .returned (.tuple #[.agg (scA S), .string nm]) ∧ Below w.heap.size w w' ∧ w.heap.size < w'.heap.size := by
  rw [hz.out]; exact decode_zero g cap nm w w0 hrow hn h0

theorem rt_big (S : List UInt8) (hS : S.length = 32) (nm : ByteArray) (w : World) (h : (1048576 : Int) < (nm.size : Int)) :
    Calls Trym.prog 3 #[.agg (scA S), .string nm] w fun e w' => e = .returned (.bool true) ∧ Below w.heap.size w w' := by
  have r0 := range_new w S 22
  go_enter Trym.func3, Trym.ntmps3
  go_wp2_with (first
    | (refine load22 rfl _ rfl w.heap.size rfl S hS (by first | exact r0) ?_)
    | (go_at_call 6; refine (bytes6_no S nm _ h).mono ?_; rintro e w' ⟨rfl, rfl⟩))
  go_ret
  exact ⟨rfl, ((Below.refl _ _).alloc (Nat.le_refl _) _).alloc (by simp) _⟩

theorem rt_long (S : List UInt8) (hS : S.length = 32) (nm : ByteArray) (w : World) (h : nm.size ≤ 1048576) (h2 : (65536 : Int) < (nm.size : Int)) :
    Calls Trym.prog 3 #[.agg (scA S), .string nm] w fun e w' => e = .returned (.bool true) ∧ Below w.heap.size w w' := by
  have r0 := range_new w S 22
  go_enter Trym.func3, Trym.ntmps3
  go_wp2_with (first
    | (refine load22 rfl _ rfl w.heap.size rfl S hS (by first | exact r0) ?_)
    | (go_at_call 6; refine (bytes6_yes S nm _ h).mono ?_; rintro e w' ⟨rfl, rfl⟩))
  go_ret
  exact ⟨rfl, ((Below.refl _ _).alloc (Nat.le_refl _) _).alloc (by simp) _⟩

set_option maxHeartbeats 1000000 in
theorem rt_skip (S : List UInt8) (hS : S.length = 32) (nm : ByteArray) (w : World) (h : nm.size ≤ 65536) (hz : S = zeros) (h0 : 0 < nm.size) (hb : ((nm[0].toNat : Int) == 0) = true) :
    Calls Trym.prog 3 #[.agg (scA S), .string nm] w fun e w' => e = .returned (.bool true) ∧ Below w.heap.size w w' := by
  have r0 := range_new w S 22
  have hq := eq_yes S zeros hS zeros_length hz
  clear hz
  go_enter Trym.func3, Trym.ntmps3
  go_wp2_with (first
    | (refine load22 rfl _ rfl w.heap.size rfl S hS (by first | exact r0 | exact World.rangeAt_alloc (World.rangeAt_alloc r0 _) _) ?_)
    | (refine load22 rfl _ rfl (w.heap.size + 1 + 1) rfl zeros zeros_length (by exact range_lit _ _ (by simp)) ?_)
    | (go_at_call 6; refine (bytes6_yes S nm _ (by omega)).mono ?_; rintro e w' ⟨rfl, rfl⟩))
  go_ret
  exact ⟨rfl, (((Below.refl _ _).alloc (Nat.le_refl _) _).alloc (by simp) _).alloc (by simp; omega) _⟩

set_option maxHeartbeats 1000000 in
theorem rt_zero (S : List UInt8) (hS : S.length = 32) (nm : ByteArray) (w : World) (h : nm.size ≤ 65536) (hz : S = zeros) (hb : ¬ 0 < nm.size ∨ (∃ h : 0 < nm.size, ((nm[0].toNat : Int) == 0) = false)) :
    Calls Trym.prog 3 #[.agg (scA S), .string nm] w fun e w' => e = .returned (.bool true) ∧ Below w.heap.size w w' := by
  have r0 := range_new w S 22
  have hq := eq_yes S zeros hS zeros_length hz
  have hq2 := eq_same S hS
  have HZ : Hid (S = zeros) := hz
  clear hz
  have HB : Hid (0 < nm.size → ∃ h : 0 < nm.size, ((nm[0].toNat : Int) == 0) = false) := fun h => hb.elim (fun e => absurd h e) id
  rcases hb with hb | ⟨h0, hb⟩
  all_goals
    go_enter Trym.func3, Trym.ntmps3
    go_wp2_with (first
      | (refine load22 rfl _ rfl w.heap.size rfl S hS (by first | exact r0 | exact World.rangeAt_alloc (World.rangeAt_alloc r0 _) _ | exact r7.1) ?_)
      | (refine load22 rfl _ rfl (w.heap.size + 1 + 1) rfl zeros zeros_length (by exact range_lit _ _ (by simp)) ?_)
      | (go_at_call 6; refine (bytes6_yes S nm _ (by omega)).mono ?_; rintro e w' ⟨rfl, rfl⟩)
      | (go_at_call 7; refine (zz_zero S hS nm _ h HZ).mono ?_; rintro e w4 ⟨g, cap, rfl, hrow⟩; have r4 := range_below (World.rangeAt_alloc (World.rangeAt_alloc r0 _) _) hrow.2.2.2)
      | (go_at_call 8; refine (decode_zero' g cap S HZ nm _ _ hrow h HB.out).mono ?_; rintro e w5 ⟨rfl, hb5, hz5⟩; have r7 := fin_facts w5 w.heap.size S S hS hS (range_below r4 hb5))
      | (refine store22 rfl _ _ rfl w5.heap.size S hS rfl rfl (by exact there_lit _ _ rfl) ?_)
      | (refine load22 rfl _ rfl w5.heap.size rfl S hS (by exact r7.2) ?_))
    go_ret
    exact ⟨rfl, below_end (below_three w _ _ _) hrow.2.2.2 hb5 S⟩

set_option maxHeartbeats 1000000 in
theorem rt_other (S : List UInt8) (hS : S.length = 32) (nm : ByteArray) (w : World) (h : nm.size ≤ 65536) (hz : ¬ S = zeros) :
    Calls Trym.prog 3 #[.agg (scA S), .string nm] w fun e w' => e = .returned (.bool true) ∧ Below w.heap.size w w' := by
  have r0 := range_new w S 22
  have hq := eq_no S zeros hS zeros_length hz
  have hq2 := eq_same S hS
  have HZ : Hid (¬ S = zeros) := hz
  clear hz
  go_enter Trym.func3, Trym.ntmps3
  go_wp2_with (first
    | (refine load22 rfl _ rfl w.heap.size rfl S hS (by first | exact r0 | exact World.rangeAt_alloc (World.rangeAt_alloc r0 _) _ | exact r7.1) ?_)
    | (refine load22 rfl _ rfl (w.heap.size + 1 + 1) rfl zeros zeros_length (by exact range_lit _ _ (by simp)) ?_)
    | (go_at_call 6; refine (bytes6_yes S nm _ (by omega)).mono ?_; rintro e w' ⟨rfl, rfl⟩)
    | (go_at_call 7; refine (zz_other S hS nm _ h HZ).mono ?_; rintro e w4 ⟨g, rfl, hrow⟩; have r4 := range_below (World.rangeAt_alloc (World.rangeAt_alloc r0 _) _) hrow.2.2.2)
    | (go_at_call 8; refine (decode_key g S hS nm _ _ hrow h).mono ?_; rintro e w5 ⟨rfl, hb5, hz5⟩; have r7 := fin_facts w5 w.heap.size S S hS hS (range_below r4 hb5))
    | (refine store22 rfl _ _ rfl w5.heap.size S hS rfl rfl (by exact there_lit _ _ rfl) ?_)
    | (refine load22 rfl _ rfl w5.heap.size rfl S hS (by exact r7.2) ?_))
  go_ret
  exact ⟨rfl, below_end (below_three w _ _ _) hrow.2.2.2 hb5 S⟩

theorem rt_walk (S : List UInt8) (hS : S.length = 32) (nm : ByteArray) (w0 : nm.size ≤ maxLen) (w : World) :
    Calls Trym.prog 3 #[.agg (scA S), .string nm] w fun e w' => e = .returned (.bool true) ∧ Below w.heap.size w w' := by
  by_cases h : (1048576 : Int) < (nm.size : Int)
  · exact rt_big S hS nm w h
  · by_cases h2 : (65536 : Int) < (nm.size : Int)
    · exact rt_long S hS nm w (by omega) h2
    · by_cases hz : S = zeros
      · by_cases h0 : 0 < nm.size
        · cases hb : ((nm[0].toNat : Int) == 0)
          · exact rt_zero S hS nm w (by omega) hz (.inr ⟨h0, hb⟩)
          · exact rt_skip S hS nm w (by omega) hz h0 hb
        · exact rt_zero S hS nm w (by omega) hz (.inl h0)
      · exact rt_other S hS nm w (by omega) hz

end Go.Proofs.Qxb6603746aMods.K
