import Derived.Test.Qxb6603746aModsRound
import Derived.Test.Qxb6603746aModsCmp
namespace Go.Proofs.Qxb6603746aMods.K
open Go.RowKit
set_option linter.unusedSimpArgs false
set_option linter.unusedVariables false

theorem less_cmp : ∀ a b : List UInt8, Op.bytesLess a b = decide (cmpL a b = -1)
  | [], [] => by simp [Op.bytesLess, cmpL]
  | _ :: _, [] => by simp [Op.bytesLess, cmpL]
  | [], _ :: _ => by simp [Op.bytesLess, cmpL]
  | x :: l, y :: m => by
    simp only [Op.bytesLess, cmpL]
    rw [less_cmp l m]
    by_cases h : x.toNat < y.toNat
    · simp [h, UInt8.lt_iff_toNat_lt]
    · by_cases h2 : y.toNat < x.toNat
      · have : ¬ x = y := by intro e; subst e; omega
        simp [h, h2, UInt8.lt_iff_toNat_lt, this]
      · have : x = y := UInt8.toNat_inj.1 (by omega)
        subst this
        simp [UInt8.lt_iff_toNat_lt]

theorem cmp_three : ∀ a b : List UInt8, cmpL a b = -1 ∨ cmpL a b = 0 ∨ cmpL a b = 1
  | [], [] => by simp [cmpL]
  | _ :: _, [] => by simp [cmpL]
  | [], _ :: _ => by simp [cmpL]
  | x :: l, y :: m => by
    simp only [cmpL]
    split
    · simp
    · split
      · simp
      · exact cmp_three l m

theorem eq_cmp (a b : List UInt8) : (a == b) = decide (cmpL a b = 0) := by
  by_cases h : cmpL a b = 0
  · rw [cmpL_zero a b h, cmpL_self]; simp
  · have : ¬ a = b := fun e => h (by rw [e, cmpL_self])
    simp [h, this]

theorem key_cmp (S : List UInt8) (a b : ByteArray) : cmpL (keyId S a) (keyId S b) = cmpL a.data.toList b.data.toList := by
  by_cases hz : S = zeros
  · rw [keyId_zero S a hz, keyId_zero S b hz]
  · rw [keyId_other S a hz, keyId_other S b hz]
    exact cmpL_pre (0 :: S) _ _

theorem keyId_len (S : List UInt8) (hS : S.length = 32) (nm : ByteArray) (hn : nm.size ≤ 65536) : (keyId S nm).length ≤ 1048576 := by
  have hl := size_list nm
  by_cases hz : S = zeros
  · rw [keyId_zero S nm hz]; omega
  · rw [keyId_other S nm hz, List.length_cons, List.length_append, hS]; omega

theorem bytes11_yes (S : List UInt8) (a b : ByteArray) (w : World) (h : a.size + b.size ≤ 1048576) :
    Calls Trym.prog 11 #[.agg (scA S), .string a, .string b] w fun e w' => e = .returned (.bool true) ∧ w.alloc (.cells (scA S) 22) = w' := by
  go_enter Trym.func11, Trym.ntmps11
  go_wp2
  go_ret
  exact ⟨rfl, rfl⟩

theorem bytes11_no (S : List UInt8) (a b : ByteArray) (w : World) (ha : a.size ≤ maxLen) (hb : b.size ≤ maxLen) (h : ¬ a.size + b.size ≤ 1048576) :
    Calls Trym.prog 11 #[.agg (scA S), .string a, .string b] w fun e w' => e = .returned (.bool false) ∧ w.alloc (.cells (scA S) 22) = w' := by
  unfold maxLen at ha hb
  by_cases h1 : (1048576 : Int) < (a.size : Int)
  · go_enter Trym.func11, Trym.ntmps11
    go_wp2
    go_ret
    exact ⟨rfl, rfl⟩
  · by_cases h2 : (1048576 : Int) < (b.size : Int)
    · go_enter Trym.func11, Trym.ntmps11
      go_wp2
      go_ret
      exact ⟨rfl, rfl⟩
    · go_enter Trym.func11, Trym.ntmps11
      go_wp2
      go_ret
      exact ⟨rfl, rfl⟩

theorem below_two (w : World) (a b : Obj) : Below w.heap.size w ((w.alloc a).alloc b) := ((Below.refl _ _).alloc (Nat.le_refl _) _).alloc (by simp) _

theorem or_big (S : List UInt8) (hS : S.length = 32) (a b : ByteArray) (ha : a.size ≤ maxLen) (hb : b.size ≤ maxLen) (w : World) (h : ¬ a.size + b.size ≤ 1048576) :
    Calls Trym.prog 5 #[.agg (scA S), .string a, .string b] w fun e w' => e = .returned (.bool true) ∧ Below w.heap.size w w' := by
  have r0 := range_new w S 22
  go_enter Trym.func5, Trym.ntmps5
  go_wp2_with (first
    | (refine load22 rfl _ rfl w.heap.size rfl S hS (by first | exact r0) ?_)
    | (go_at_call 11; refine (bytes11_no S a b _ ha hb h).mono ?_; rintro e w' ⟨rfl, rfl⟩))
  go_ret
  exact ⟨rfl, below_two _ _ _⟩

theorem or_long (S : List UInt8) (hS : S.length = 32) (a b : ByteArray) (w : World) (h : a.size + b.size ≤ 1048576) (h2 : (65536 : Int) < (a.size : Int) ∨ (¬ (65536 : Int) < (a.size : Int) ∧ (65536 : Int) < (b.size : Int))) :
    Calls Trym.prog 5 #[.agg (scA S), .string a, .string b] w fun e w' => e = .returned (.bool true) ∧ Below w.heap.size w w' := by
  have r0 := range_new w S 22
  rcases h2 with h2 | ⟨h2, h3⟩
  all_goals
    go_enter Trym.func5, Trym.ntmps5
    go_wp2_with (first
      | (refine load22 rfl _ rfl w.heap.size rfl S hS (by first | exact r0) ?_)
      | (go_at_call 11; refine (bytes11_yes S a b _ h).mono ?_; rintro e w' ⟨rfl, rfl⟩))
    go_ret
    exact ⟨rfl, below_two _ _ _⟩

/-- the first id's bytes behind the second call -/
theorem row_below {w w1 w2 : World} {g : Nat} {L : List UInt8} (h : Row w w1 g L) (hb : Below w1.heap.size w1 w2) : ∀ j (hj : j < L.length), w2.cell? ⟨g, j, none⟩ = some (.int .u8 (L[j].toNat : Int)) := fun j hj =>
  (hb.cell (p := ⟨g, j, none⟩) h.2.1).trans (h.2.2.1 j hj)

theorem below_fin {w W w1 w2 : World} (h0 : Below w.heap.size w W) (h1 : Below W.heap.size W w1) (h2 : Below w1.heap.size w1 w2) (n : Nat) : Below w.heap.size w (w2.drewN n) := by
  have z0 := h0.size
  have z1 := h1.size
  have h : Below w.heap.size w w2 := (h0.trans (h1.mono z0)).trans (h2.mono (by omega))
  exact h.trans ⟨rfl, rfl, rfl, Nat.le_refl _, fun _ _ => rfl⟩

set_option maxHeartbeats 1000000 in
theorem or_main (S : List UInt8) (hS : S.length = 32) (a b : ByteArray) (w : World) (ha : a.size ≤ 65536) (hb : b.size ≤ 65536) :
    Calls Trym.prog 5 #[.agg (scA S), .string a, .string b] w fun e w' => e = .returned (.bool true) ∧ Below w.heap.size w w' := by
  have r0 := range_new w S 22
  have hk := key_cmp S a b
  have hless := less_cmp a.data.toList b.data.toList
  have heq := eq_cmp a.data.toList b.data.toList
  rw [← ByteArray.toList_eq, ← ByteArray.toList_eq] at hless heq
  have la := keyId_len S hS a ha
  have lb := keyId_len S hS b hb
  have h3 := cmp_three a.data.toList b.data.toList
  obtain ⟨r, hr⟩ : ∃ r, r = cmpL a.data.toList b.data.toList := ⟨_, rfl⟩
  rw [ByteArray.toList_eq, ByteArray.toList_eq] at hless heq
  rw [← hr] at hk hless heq h3
  rw [← ByteArray.toList_eq, ← ByteArray.toList_eq] at hless heq
  have HK : Hid (cmpL (keyId S a) (keyId S b) = r) := hk
  clear hk hr
  rcases h3 with rfl | rfl | rfl
  all_goals
    simp only [Int.reduceNeg, reduceCtorEq, decide_true, decide_false, Int.reduceEq] at hless heq
    go_enter Trym.func5, Trym.ntmps5
    go_wp2_with (first
      | (refine load22 rfl _ rfl w.heap.size rfl S hS (by first | exact r0 | exact World.rangeAt_alloc r0 _ | exact r4) ?_)
      | (go_at_call 11; refine (bytes11_yes S a b _ (by omega)).mono ?_; rintro e w' ⟨rfl, rfl⟩)
      | (go_at_call_of 7 (Value.string a); refine (zz_any S hS a _ ha).mono ?_; rintro e w4 ⟨g1, cap1, rfl, hrow1⟩; have r4 := range_below (World.rangeAt_alloc r0 _) hrow1.2.2.2)
      | (go_at_call_of 7 (Value.string b); refine (zz_any S hS b _ hb).mono ?_; rintro e w5 ⟨g2, cap2, rfl, hrow2⟩; have c1 : Hid (∀ j (hj : j < (keyId S a).length), w5.cell? ⟨g1, j, none⟩ = some (.int .u8 ((keyId S a)[j].toNat : Int))) := row_below hrow1 hrow2.2.2.2)
      | (go_at_call 10; refine (cmp_any g1 cap1 g2 cap2 _ _ (keyId S a) (keyId S b) _ rfl rfl la lb c1.out hrow2.2.2.1).mono ?_; rintro e w6 ⟨rfl, n6, rfl⟩; rw [HK.out]))
    go_ret
    exact ⟨rfl, below_fin (below_two w _ _) hrow1.2.2.2 hrow2.2.2.2 _⟩

theorem or_walk (S : List UInt8) (hS : S.length = 32) (a : ByteArray) (ha : a.size ≤ maxLen) (b : ByteArray) (hb : b.size ≤ maxLen) (w : World) :
    Calls Trym.prog 5 #[.agg (scA S), .string a, .string b] w fun e w' => e = .returned (.bool true) ∧ Below w.heap.size w w' := by
  by_cases h : a.size + b.size ≤ 1048576
  · by_cases h1 : (65536 : Int) < (a.size : Int)
    · exact or_long S hS a b w h (.inl h1)
    · by_cases h2 : (65536 : Int) < (b.size : Int)
      · exact or_long S hS a b w h (.inr ⟨h1, h2⟩)
      · exact or_main S hS a b w (by omega) (by omega)
  · exact or_big S hS a b ha hb w h

end Go.Proofs.Qxb6603746aMods.K
