import Derived.Test.Qxb6604487aModsValid
import Derived.Test.Qxb6604487aModsSmall
namespace Go.Proofs.Qxb6604487aMods.V
open Go.RowKit
set_option linter.unusedSimpArgs false
set_option linter.unusedVariables false

theorem take_snoc (s : ByteArray) (k : Nat) (h : k < s.size) : s.data.toList.take (k + 1) = s.data.toList.take k ++ [s[k]] := by
  rw [List.take_succ_eq_append_getElem (by simpa using h)]; rfl

theorem take_all (s : ByteArray) (k : Nat) (h : k < s.size) (p : UInt8 → Bool) : (s.data.toList.take (k + 1)).all p = ((s.data.toList.take k).all p && p s[k]) := by
  rw [take_snoc s k h, List.all_append]; simp

theorem table_big (a0 : ByteArray) (w0 : a0.size ≤ maxLen) (w : World) (h : ¬ a0.size ≤ 1048576) :
    Calls Trym.prog 3 #[.string a0] w fun e w' => e = .returned (.bool true) ∧ Below w.heap.size w w' := by
  go_enter Trym.func3, Trym.ntmps3
  go_wp2_with (go_at_call 5; refine (bytes3_no _ _ w0 h).mono ?_; rintro e w' ⟨rfl, rfl⟩)
  go_ret
  exact ⟨rfl, Below.refl _ _⟩

theorem table_long (a0 : ByteArray) (w : World) (h : a0.size ≤ 1048576) (h2 : ¬ a0.size ≤ 65536) :
    Calls Trym.prog 3 #[.string a0] w fun e w' => e = .returned (.bool true) ∧ Below w.heap.size w w' := by
  go_enter Trym.func3, Trym.ntmps3
  go_wp2_with (go_at_call 5; refine (bytes3_yes _ _ h).mono ?_; rintro e w' ⟨rfl, rfl⟩)
  go_ret
  exact ⟨rfl, Below.refl _ _⟩

theorem dot_t (c : UInt8) (h : dot c = true) : ((c.toNat : Int) != 46) = false := by unfold dot at h; simp at h ⊢; omega
theorem dot_f (c : UInt8) (h : dot c = false) : ((c.toNat : Int) != 46) = true := by unfold dot at h; simp at h ⊢; omega

/-- the call, its answer known -/
theorem valid_val (s : ByteArray) (w : World) (b : Bool) (hs : s.size ≤ 65536) (hb : valid s.data.toList = b) :
    Calls Trym.prog 7 #[.string s] w fun e w' => e = .returned (.bool b) ∧ Below w.heap.size w w' := by
  subst hb
  exact valid_any s w hs

set_option maxHeartbeats 4000000 in
theorem table_main (s : ByteArray) (w : World) (h2 : s.size ≤ 65536) :
    Calls Trym.prog 3 #[.string s] w fun e w' => e = .returned (.bool true) ∧ Below w.heap.size w w' := by
  have hL : s.data.toList.length = s.size := by simp
  go_enter Trym.func3, Trym.ntmps3
  go_wp2_with (go_at_call 5; refine (bytes3_yes _ _ (by omega)).mono ?_; rintro e w' ⟨rfl, rfl⟩)
  go_loop [4, 5, 6] (fun a d i => ∃ k : Nat, k ≤ s.size ∧ i = .int .i64 (k : Int) ∧ a = .bool ((s.data.toList.take k).all okb) ∧ d = .bool ((s.data.toList.take k).all dot)) (fun _ _ i => s.size - (intOf i).toNat)
  case atStart => exact ⟨0, Nat.zero_le _, rfl, rfl, rfl⟩
  case round =>
    obtain ⟨k, hk, rfl, rfl, rfl⟩ := hrel
    by_cases hlt : k < s.size
    · have ta : Hid (_ = _) := take_all s k hlt okb
      have td : Hid (_ = _) := take_all s k hlt dot
      generalize (s.data.toList.take k).all okb = A at ta ⊢
      generalize (s.data.toList.take k).all dot = D at td ⊢
      cases ho : okb s[k]
      all_goals
        rw [ho] at ta
        cases hd : dot s[k]
        all_goals
          rw [hd] at td
          first
          | have hd' := dot_t _ hd
          | have hd' := dot_f _ hd
          go_wp2_with (go_at_call 6; refine (alpha_any _ _).mono ?_; rintro e w' ⟨rfl, rfl⟩)
          go_round
          case rel => exact ⟨k + 1, by omega, by go_num, by rw [ta.out]; simp, by rw [td.out]; simp⟩
          case measure => simp [intOf]; omega
    · have hk' : k = s.size := by omega
      subst hk'
      have ea : s.data.toList.take s.size = s.data.toList := List.take_of_length_le (by simp)
      have hv : Hid (valid s.data.toList = _) := valid_want s.data.toList
      unfold want at hv
      rw [hL] at hv
      rw [ea]
      clear ea hlt hk hL
      generalize s.data.toList.all okb = A at hv ⊢
      generalize s.data.toList.all dot = D at hv ⊢
      have hs4 : s.size = 0 ∨ (1 ≤ s.size ∧ s.size ≤ 2) ∨ (3 ≤ s.size ∧ s.size ≤ 249) ∨ 250 ≤ s.size := by omega
      cases A
      all_goals
        cases D
        all_goals
          rcases hs4 with g | ⟨g1, g2⟩ | ⟨g1, g2⟩ | g
          all_goals
            go_wp2_with (go_at_call 7; refine (valid_val s w _ h2 hv.out).mono ?_; rintro e w1 ⟨rfl, hb⟩)
            go_ret
            exact ⟨ret_bool (by first | (simp; done) | (simp; omega) | (rw [Bool.eq_iff_iff]; simp <;> omega) | (simp; rw [Bool.eq_iff_iff]; simp; omega)), hb⟩

theorem table (a0 : ByteArray) (w0 : a0.size ≤ maxLen) (w : World) :
    Calls Trym.prog 3 #[.string a0] w fun e w' => e = .returned (.bool true) ∧ Below w.heap.size w w' := by
  by_cases h : a0.size ≤ 1048576
  · by_cases h2 : a0.size ≤ 65536
    · exact table_main a0 w h2
    · exact table_long a0 w h h2
  · exact table_big a0 w0 w h

end Go.Proofs.Qxb6604487aMods.V
