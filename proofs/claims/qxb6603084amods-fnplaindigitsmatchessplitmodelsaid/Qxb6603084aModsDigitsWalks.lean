import Derived.Test.Qxb6603084aModsShapeWalks
import Derived.Test.Qxb6603084aModsDigits
import Derived.OwnWalk
namespace Go.Proofs.Qxb6603084aMods.Digits
open Go.RowKit
open Go.Proofs.Qxb6603084aMods.Shape (dig isDigit_any)
set_option linter.unusedSimpArgs false
set_option linter.unusedVariables false

theorem pd_dp (f : Bool) (a b : Nat) (c : UInt8) (cs : List UInt8) (h : dig c = true) : pd f true a b (c :: cs) = pd false true a (b + 1) cs := by simp [pd, h]
theorem pd_dn (f : Bool) (a b : Nat) (c : UInt8) (cs : List UInt8) (h : dig c = true) : pd f false a b (c :: cs) = pd false false (a + 1) b cs := by simp [pd, h]
theorem pd_dot (f : Bool) (a b : Nat) (c : UInt8) (cs : List UInt8) (h : isDot c = true) : pd f false a b (c :: cs) = pd false true a b cs := by simp [pd, dig_dot c h, h]
theorem pd_sign (p : Bool) (a b : Nat) (c : UInt8) (cs : List UInt8) (h : isSign c = true) : pd true p a b (c :: cs) = pd false p a b cs := by simp [pd, dig_sign c h, dot_sign c h, h]
theorem pd_stop (f p : Bool) (a b : Nat) (c : UInt8) (cs : List UInt8) (h : dig c = false) (h2 : isDot c = false ∨ p = true) (h3 : f = false ∨ isSign c = false) : pd f p a b (c :: cs) = none := by
  simp only [pd, h, Bool.false_eq_true, if_false]
  rw [if_neg (by rcases h2 with h2 | h2 <;> simp [h2]), if_pos (by rcases h3 with h3 | h3 <;> simp [h3])]

theorem dot_t (c : UInt8) (h : ((c.toNat : Int) == 46) = true) : isDot c = true := by unfold isDot; simp at h ⊢; omega
theorem dot_f (c : UInt8) (h : ((c.toNat : Int) == 46) = false) : isDot c = false := by unfold isDot; simp at h ⊢; omega
theorem sign_t (c : UInt8) (h : ((c.toNat : Int) != 45) = false ∨ ((c.toNat : Int) != 43) = false) : isSign c = true := by
  unfold isSign; simp at h ⊢; omega
theorem sign_f (c : UInt8) (h : ((c.toNat : Int) != 45) = true) (h2 : ((c.toNat : Int) != 43) = true) : isSign c = false := by
  unfold isSign; simp at h h2 ⊢; omega

theorem drop_at (s : ByteArray) (k : Nat) (h : k < s.size) : s.data.toList.drop k = s[k] :: s.data.toList.drop (k + 1) :=
  List.drop_eq_getElem_cons (by simpa using h)

def pdAt (s : ByteArray) (k : Nat) (p : Bool) (a b : Nat) : Option (Nat × Nat) := pd (decide (k = 0)) p a b (s.data.toList.drop k)

theorem at_dp (s : ByteArray) (k : Nat) (hk : k < s.size) (a b : Nat) (h : dig s[k] = true) : pdAt s k true a b = pdAt s (k + 1) true a (b + 1) := by
  unfold pdAt; rw [drop_at s k hk, pd_dp _ _ _ _ _ h]; simp
theorem at_dn (s : ByteArray) (k : Nat) (hk : k < s.size) (a b : Nat) (h : dig s[k] = true) : pdAt s k false a b = pdAt s (k + 1) false (a + 1) b := by
  unfold pdAt; rw [drop_at s k hk, pd_dn _ _ _ _ _ h]; simp
theorem at_dot (s : ByteArray) (k : Nat) (hk : k < s.size) (a b : Nat) (h : isDot s[k] = true) : pdAt s k false a b = pdAt s (k + 1) true a b := by
  unfold pdAt; rw [drop_at s k hk, pd_dot _ _ _ _ _ h]; simp
theorem at_sign (s : ByteArray) (k : Nat) (hk : k < s.size) (p : Bool) (a b : Nat) (h : isSign s[k] = true) (h0 : k = 0) : pdAt s k p a b = pdAt s (k + 1) p a b := by
  subst h0; unfold pdAt; rw [drop_at s 0 hk]; simp only [decide_true]; rw [pd_sign _ _ _ _ _ h]; simp
theorem at_stop (s : ByteArray) (k : Nat) (hk : k < s.size) (p : Bool) (a b : Nat) (h : dig s[k] = false) (h2 : isDot s[k] = false ∨ p = true) (h3 : 0 < k ∨ isSign s[k] = false) : pdAt s k p a b = none := by
  have h3' : decide (k = 0) = false ∨ isSign s[k] = false := by
    rcases h3 with h3 | h3
    · left; simp; omega
    · exact .inr h3
  unfold pdAt; rw [drop_at s k hk, pd_stop _ _ _ _ _ _ h h2 h3']
theorem at_end (s : ByteArray) (k : Nat) (hk : s.size ≤ k) (p : Bool) (a b : Nat) : pdAt s k p a b = some (a, b) := by
  unfold pdAt; rw [List.drop_of_length_le (by simpa using hk)]; simp [pd]

def tup (r : Nat × Nat × Bool) : Value := .tuple #[.int .i64 (r.1 : Int), .int .i64 (r.2.1 : Int), .bool r.2.2]

theorem tup_none : tup (res none) = .tuple #[.int .i64 0, .int .i64 0, .bool false] := rfl
theorem tup_some (a b : Nat) : tup (res (some (a, b))) = .tuple #[.int .i64 a, .int .i64 b, .bool (decide ((0 : Int) < (a : Int) + (b : Int)))] := by
  have e : decide ((0 : Int) < (a : Int) + (b : Int)) = decide (0 < a + b) := by rw [decide_eq_decide]; omega
  rw [e]
  rfl

set_option maxHeartbeats 1000000 in
theorem plain_any (s : ByteArray) (w : World) (hs : s.size ≤ 1048576) :
    Calls Trym.prog 22 #[.string s] w fun e w' => e = .returned (tup (res (pdAt s 0 false 0 0))) ∧ w = w' := by
  go_enter Trym.func22, Trym.ntmps22
  go_wp2
  go_loop [2, 3, 5, 6] (fun wh pl pt i => ∃ (k a b : Nat) (p : Bool), k ≤ s.size ∧ i = .int .i64 k ∧ wh = .int .i64 a ∧ pl = .int .i64 b ∧ pt = .bool p ∧ a + b ≤ k ∧ Hid (pdAt s 0 false 0 0 = pdAt s k p a b)) (fun _ _ _ i => s.size - (intOf i).toNat)
  case atStart => exact ⟨0, 0, 0, false, Nat.zero_le _, rfl, rfl, rfl, rfl, Nat.le_refl _, rfl⟩
  case round =>
    obtain ⟨k, a, b, p, hk, rfl, rfl, rfl, rfl, hab, hm⟩ := hrel
    by_cases hlt : k < s.size
    · cases hd : dig s[k]
      · cases p
        · by_cases hdot : ((s[k].toNat : Int) == 46) = true
          · go_wp2_with (go_at_call 28; refine (isDigit_any _ _).mono ?_; rintro e w' ⟨rfl, rfl⟩)
            go_round
            case rel => exact ⟨k + 1, a, b, true, by omega, by go_num, rfl, rfl, rfl, by omega, hm.out.trans (at_dot s k hlt a b (dot_t _ hdot))⟩
            case measure => simp [intOf]; omega
          · have hdot' : ((s[k].toNat : Int) == 46) = false := by simpa using hdot
            by_cases h0 : 0 < k
            · have E : Hid (tup (res (pdAt s 0 false 0 0)) = .tuple #[.int .i64 0, .int .i64 0, .bool false]) := by
                rw [hm.out, at_stop s k hlt _ _ _ hd (.inl (dot_f _ hdot')) (.inl h0)]; exact tup_none
              go_wp2_with (go_at_call 28; refine (isDigit_any _ _).mono ?_; rintro e w' ⟨rfl, rfl⟩)
              go_ret3
              exact ⟨by rw [E.out]; rfl, rfl⟩
            · have h0' : k = 0 := by omega
              by_cases h45 : ((s[k].toNat : Int) != 45) = true
              · by_cases h43 : ((s[k].toNat : Int) != 43) = true
                · have E : Hid (tup (res (pdAt s 0 false 0 0)) = .tuple #[.int .i64 0, .int .i64 0, .bool false]) := by
                    rw [hm.out, at_stop s k hlt _ _ _ hd (.inl (dot_f _ hdot')) (.inr (sign_f _ h45 h43))]; exact tup_none
                  clear h0'
                  go_wp2_with (go_at_call 28; refine (isDigit_any _ _).mono ?_; rintro e w' ⟨rfl, rfl⟩)
                  go_ret3
                  exact ⟨by rw [E.out]; rfl, rfl⟩
                · have h43' : ((s[k].toNat : Int) != 43) = false := by simpa using h43
                  have E : Hid (pdAt s k false a b = pdAt s (k + 1) false a b) := at_sign s k hlt _ _ _ (sign_t _ (.inr h43')) h0'
                  clear h0'
                  go_wp2_with (go_at_call 28; refine (isDigit_any _ _).mono ?_; rintro e w' ⟨rfl, rfl⟩)
                  go_round
                  case rel => exact ⟨k + 1, a, b, false, by omega, by go_num, rfl, rfl, rfl, by omega, hm.out.trans E.out⟩
                  case measure => simp [intOf]; omega
              · have h45' : ((s[k].toNat : Int) != 45) = false := by simpa using h45
                have E : Hid (pdAt s k false a b = pdAt s (k + 1) false a b) := at_sign s k hlt _ _ _ (sign_t _ (.inl h45')) h0'
                clear h0'
                go_wp2_with (go_at_call 28; refine (isDigit_any _ _).mono ?_; rintro e w' ⟨rfl, rfl⟩)
                go_round
                case rel => exact ⟨k + 1, a, b, false, by omega, by go_num, rfl, rfl, rfl, by omega, hm.out.trans E.out⟩
                case measure => simp [intOf]; omega
        · by_cases h0 : 0 < k
          · have E : Hid (tup (res (pdAt s 0 false 0 0)) = .tuple #[.int .i64 0, .int .i64 0, .bool false]) := by
              rw [hm.out, at_stop s k hlt _ _ _ hd (.inr rfl) (.inl h0)]; exact tup_none
            go_wp2_with (go_at_call 28; refine (isDigit_any _ _).mono ?_; rintro e w' ⟨rfl, rfl⟩)
            all_goals go_ret3
            all_goals exact ⟨by rw [E.out]; rfl, rfl⟩
          · have h0' : k = 0 := by omega
            by_cases h45 : ((s[k].toNat : Int) != 45) = true
            · by_cases h43 : ((s[k].toNat : Int) != 43) = true
              · have E : Hid (tup (res (pdAt s 0 false 0 0)) = .tuple #[.int .i64 0, .int .i64 0, .bool false]) := by
                  rw [hm.out, at_stop s k hlt _ _ _ hd (.inr rfl) (.inr (sign_f _ h45 h43))]; exact tup_none
                clear h0'
                go_wp2_with (go_at_call 28; refine (isDigit_any _ _).mono ?_; rintro e w' ⟨rfl, rfl⟩)
                all_goals go_ret3
                all_goals exact ⟨by rw [E.out]; rfl, rfl⟩
              · have h43' : ((s[k].toNat : Int) != 43) = false := by simpa using h43
                have E : Hid (pdAt s k true a b = pdAt s (k + 1) true a b) := at_sign s k hlt _ _ _ (sign_t _ (.inr h43')) h0'
                have hdot' : ((s[k].toNat : Int) == 46) = false := by simp at h43' ⊢; omega
                clear h0'
                go_wp2_with (go_at_call 28; refine (isDigit_any _ _).mono ?_; rintro e w' ⟨rfl, rfl⟩)
                go_round
                case rel => exact ⟨k + 1, a, b, true, by omega, by go_num, rfl, rfl, rfl, by omega, hm.out.trans E.out⟩
                case measure => simp [intOf]; omega
            · have h45' : ((s[k].toNat : Int) != 45) = false := by simpa using h45
              have E : Hid (pdAt s k true a b = pdAt s (k + 1) true a b) := at_sign s k hlt _ _ _ (sign_t _ (.inl h45')) h0'
              have hdot' : ((s[k].toNat : Int) == 46) = false := by simp at h45' ⊢; omega
              clear h0'
              go_wp2_with (go_at_call 28; refine (isDigit_any _ _).mono ?_; rintro e w' ⟨rfl, rfl⟩)
              go_round
              case rel => exact ⟨k + 1, a, b, true, by omega, by go_num, rfl, rfl, rfl, by omega, hm.out.trans E.out⟩
              case measure => simp [intOf]; omega
      · cases p
        · go_wp2_with (go_at_call 28; refine (isDigit_any _ _).mono ?_; rintro e w' ⟨rfl, rfl⟩)
          go_round
          case rel => exact ⟨k + 1, a + 1, b, false, by omega, by go_num, by go_num, rfl, rfl, by omega, hm.out.trans (at_dn s k hlt a b hd)⟩
          case measure => simp [intOf]; omega
        · go_wp2_with (go_at_call 28; refine (isDigit_any _ _).mono ?_; rintro e w' ⟨rfl, rfl⟩)
          go_round
          case rel => exact ⟨k + 1, a, b + 1, true, by omega, by go_num, rfl, by go_num, rfl, by omega, hm.out.trans (at_dp s k hlt a b hd)⟩
          case measure => simp [intOf]; omega
    · have E : Hid (tup (res (pdAt s 0 false 0 0)) = .tuple #[.int .i64 a, .int .i64 b, .bool (decide ((0 : Int) < (a : Int) + (b : Int)))]) := by
        rw [hm.out, at_end s k (by omega)]; exact tup_some a b
      go_wp2
      go_ret3
      exact ⟨by rw [E.out]; rfl, rfl⟩

end Go.Proofs.Qxb6603084aMods.Digits
