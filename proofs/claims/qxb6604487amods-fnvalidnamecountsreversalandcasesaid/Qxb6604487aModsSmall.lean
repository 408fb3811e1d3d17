import Derived.Test.Qxb6604487aModsRows
import Derived.Test.Qxb6604487aModsPlain
import Derived.WalkKit
import Derived.WalkLawsBesides
import Derived.WalkSpells
import Derived.LoopTactic
import Derived.RegionTactic
import Derived.Outline
namespace Go.Proofs.Qxb6604487aMods.V
open Go.RowKit
set_option linter.unusedSimpArgs false
set_option linter.unusedVariables false

theorem bytes3_yes (s : ByteArray) (w : World) (h : s.size ≤ 1048576) :
    Calls Trym.prog 5 #[.string s] w fun e w' => e = .returned (.bool true) ∧ w = w' := by
  go_enter Trym.func5, Trym.ntmps5
  go_wp2
  go_ret
  exact ⟨rfl, rfl⟩

theorem bytes3_no (s : ByteArray) (w : World) (hm : s.size ≤ maxLen) (h : ¬ s.size ≤ 1048576) :
    Calls Trym.prog 5 #[.string s] w fun e w' => e = .returned (.bool false) ∧ w = w' := by
  unfold maxLen at hm
  go_enter Trym.func5, Trym.ntmps5
  go_wp2
  go_ret
  exact ⟨rfl, rfl⟩

theorem bytes4_yes (s : ByteArray) (w : World) (h : s.size ≤ 1048576) :
    Calls Trym.prog 8 #[.string s] w fun e w' => e = .returned (.bool true) ∧ w = w' := by
  go_enter Trym.func8, Trym.ntmps8
  go_wp2
  go_ret
  exact ⟨rfl, rfl⟩

theorem bytes4_no (s : ByteArray) (w : World) (hm : s.size ≤ maxLen) (h : ¬ s.size ≤ 1048576) :
    Calls Trym.prog 8 #[.string s] w fun e w' => e = .returned (.bool false) ∧ w = w' := by
  unfold maxLen at hm
  go_enter Trym.func8, Trym.ntmps8
  go_wp2
  go_ret
  exact ⟨rfl, rfl⟩

theorem cls_facts : ∀ n : Fin 256, (cls (UInt8.ofNat n.val) = 1 ∧ (bits BinOp.or IntKind.u8 (n.val : Int) 32 - 97) % 256 < 26) ∨
    (cls (UInt8.ofNat n.val) = 2 ∧ ¬ (bits BinOp.or IntKind.u8 (n.val : Int) 32 - 97) % 256 < 26 ∧ ((n.val : Int) - 48) % 256 < 10) ∨
    (cls (UInt8.ofNat n.val) = 3 ∧ ¬ (bits BinOp.or IntKind.u8 (n.val : Int) 32 - 97) % 256 < 26 ∧ ¬ ((n.val : Int) - 48) % 256 < 10 ∧ ((n.val : Int) == 46) = true) ∨
    (cls (UInt8.ofNat n.val) = 4 ∧ ¬ (bits BinOp.or IntKind.u8 (n.val : Int) 32 - 97) % 256 < 26 ∧ ¬ ((n.val : Int) - 48) % 256 < 10 ∧ ((n.val : Int) == 46) = false ∧ ((n.val : Int) == 95) = true) ∨
    (cls (UInt8.ofNat n.val) = 4 ∧ ¬ (bits BinOp.or IntKind.u8 (n.val : Int) 32 - 97) % 256 < 26 ∧ ¬ ((n.val : Int) - 48) % 256 < 10 ∧ ((n.val : Int) == 46) = false ∧ ((n.val : Int) == 95) = false ∧ ((n.val : Int) == 45) = true) ∨
    (cls (UInt8.ofNat n.val) = 0 ∧ ¬ (bits BinOp.or IntKind.u8 (n.val : Int) 32 - 97) % 256 < 26 ∧ ¬ ((n.val : Int) - 48) % 256 < 10 ∧ ((n.val : Int) == 46) = false ∧ ((n.val : Int) == 95) = false ∧ ((n.val : Int) == 45) = false) := by decide +kernel

theorem cls_any (c : UInt8) (w : World) :
    Calls Trym.prog 9 #[.int .u8 (c.toNat : Int)] w fun e w' => e = .returned (.int .i64 (cls c : Int)) ∧ w = w' := by
  have hf := cls_facts ⟨c.toNat, c.toNat_lt⟩
  simp only [UInt8.ofNat_toNat] at hf
  generalize cls c = m at hf ⊢
  have hn2 : (c.toNat : Int) < 256 := by have := c.toNat_lt; omega
  have hn1 : 0 ≤ (c.toNat : Int) := by omega
  generalize (c.toNat : Int) = n at hf hn1 hn2 ⊢
  rcases hf with ⟨h0, h1⟩ | ⟨h0, h1, h2⟩ | ⟨h0, h1, h2, h3⟩ | ⟨h0, h1, h2, h3, h4⟩ | ⟨h0, h1, h2, h3, h4, h5⟩ | ⟨h0, h1, h2, h3, h4, h5⟩
  all_goals
    subst h0
    go_enter Trym.func9, Trym.ntmps9
    go_wp2
    go_ret
    exact ⟨rfl, rfl⟩

/-- the table's bytes -/
abbrev alB : ByteArray := ⟨#[48, 49, 50, 51, 52, 53, 54, 55, 56, 57, 65, 66, 67, 68, 69, 70, 71, 72, 73, 74, 75, 76, 77, 78, 79, 80, 81, 82, 83, 84, 85, 86, 87, 88, 89, 90, 97, 98, 99, 100, 101, 102, 103, 104, 105, 106, 107, 108, 109, 110, 111, 112, 113, 114, 115, 116, 117, 118, 119, 120, 121, 122, 46, 95, 45]⟩

theorem al_size : alB.size = 65 := rfl
theorem al_ok : ∀ j : Fin 65, okb (alB[j.val]'(by rw [al_size]; exact j.isLt)) = true := by decide +kernel
theorem al_has : ∀ n : Fin 256, okb (UInt8.ofNat n.val) = true → ∃ j : Fin 65, alB[j.val]'(by rw [al_size]; exact j.isLt) = UInt8.ofNat n.val := by decide +kernel

theorem al_yes (c : UInt8) (k : Nat) (hk : k < 65) (h : (((alB[k]'(by rw [al_size]; exact hk)).toNat : Int) == (c.toNat : Int)) = true) : okb c = true := by
  have e : (alB[k]'(by rw [al_size]; exact hk)) = c := by
    rw [← UInt8.toNat_inj]
    have := eq_of_beq h
    omega
  rw [← e]
  exact al_ok ⟨k, hk⟩

theorem al_no (c : UInt8) (h : ∀ j (hj : j < 65), (((alB[j]'(by rw [al_size]; exact hj)).toNat : Int) == (c.toNat : Int)) = false) : okb c = false := by
  cases e : okb c
  · rfl
  · have := al_has ⟨c.toNat, c.toNat_lt⟩ (by simpa using e)
    obtain ⟨j, hj⟩ := this
    have h2 := h j.val j.isLt
    rw [hj] at h2
    simp at h2

theorem alpha_any (c : UInt8) (w : World) :
    Calls Trym.prog 6 #[.int .u8 (c.toNat : Int)] w fun e w' => e = .returned (.bool (okb c)) ∧ w = w' := by
  go_enter Trym.func6, Trym.ntmps6
  go_wp2
  go_loop [3] (fun i => ∃ k : Nat, k ≤ 65 ∧ i = .int .i64 (k : Int) ∧ Hid (∀ j (hj : j < 65), j < k → (((alB[j]'(by rw [al_size]; exact hj)).toNat : Int) == (c.toNat : Int)) = false)) (fun i => 65 - (intOf i).toNat)
  case atStart => exact ⟨0, Nat.zero_le _, rfl, fun j hj h => absurd h (Nat.not_lt_zero _)⟩
  case round =>
    obtain ⟨k, hk, rfl, hno⟩ := hrel
    by_cases hlt : k < 65
    · go_wp2
      · have h : (((alB[k]'(by rw [al_size]; exact hlt)).toNat : Int) == (c.toNat : Int)) = true := by assumption
        go_ret
        exact ⟨by rw [al_yes c k hlt h]; rfl, rfl⟩
      · have h : (((alB[k]'(by rw [al_size]; exact hlt)).toNat : Int) == (c.toNat : Int)) = false := by assumption
        go_round
        case rel =>
          refine ⟨k + 1, by omega, by go_num, fun j hj h2 => ?_⟩
          by_cases e : j = k
          · subst e; exact h
          · exact hno.out j hj (by omega)
        case measure => simp [intOf]; omega
    · go_wp2
      go_ret
      exact ⟨by rw [al_no c fun j hj => hno.out j hj (by omega)]; rfl, rfl⟩

end Go.Proofs.Qxb6604487aMods.V
