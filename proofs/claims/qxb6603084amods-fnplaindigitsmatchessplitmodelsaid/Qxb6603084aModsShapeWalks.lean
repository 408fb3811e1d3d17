import Derived.Test.Qxb6603084aModsRows
import Derived.Test.Qxb6603084aModsShape
import Derived.WalkKit
import Derived.WalkLawsBesides
import Derived.WalkSpells
import Derived.LoopTactic
import Derived.RegionTactic
import Derived.Deep.QuietTactic
import Derived.BigQuiet
import Derived.Outline
namespace Go.Proofs.Qxb6603084aMods.Shape
open Go.RowKit
set_option linter.unusedSimpArgs false
set_option linter.unusedVariables false

theorem ret_bool {a b : Bool} (h : a = b) : Ending.returned (.bool a) = .returned (.bool b) := by rw [h]

theorem dig_t (c : UInt8) (h1 : (48 : Int) ≤ (c.toNat : Int)) (h2 : (c.toNat : Int) ≤ 57) : dig c = true := by
  unfold dig; simp; omega
theorem dig_f (c : UInt8) (h : ¬ ((48 : Int) ≤ (c.toNat : Int) ∧ (c.toNat : Int) ≤ 57)) : dig c = false := by
  unfold dig; simp; omega

theorem isDigit_any (c : UInt8) (w : World) :
    Calls Trym.prog 28 #[.int .u8 (c.toNat : Int)] w fun e w' => e = .returned (.bool (dig c)) ∧ w = w' := by
  by_cases h1 : (48 : Int) ≤ (c.toNat : Int)
  · by_cases h2 : (c.toNat : Int) ≤ 57
    · have e := dig_t c h1 h2
      go_enter Trym.func28, Trym.ntmps28
      go_wp2
      go_ret
      exact ⟨ret_bool (by simp [e]), rfl⟩
    · have e := dig_f c (by omega)
      go_enter Trym.func28, Trym.ntmps28
      go_wp2
      go_ret
      exact ⟨ret_bool (by simp [e]), rfl⟩
  · have e := dig_f c (by omega)
    go_enter Trym.func28, Trym.ntmps28
    go_wp2
    go_ret
    exact ⟨ret_bool (by simp [e]), rfl⟩


theorem get_data (s : ByteArray) (k : Nat) (h : k < s.size) : s.data.toList[k]'(by simpa using h) = s[k] := rfl

theorem ok_dd (c t : UInt8) (h : ((c.toNat : Int) == 100) = true) : ok c t = dig t := by
  unfold ok; simp at h; rw [if_pos (by omega)]
theorem ok_eq (c t : UInt8) (h : ((c.toNat : Int) == 100) = false) (h2 : ((t.toNat : Int) != (c.toNat : Int)) = false) : ok c t = true := by
  unfold ok; simp at h h2; rw [if_neg (by omega)]; simp; omega
theorem ok_ne (c t : UInt8) (h : ((c.toNat : Int) == 100) = false) (h2 : ((t.toNat : Int) != (c.toNat : Int)) = true) : ok c t = false := by
  unfold ok; simp at h h2; rw [if_neg (by omega)]; simp; omega

theorem step_of (s t : ByteArray) (k : Nat) (hs : k < s.size) (ht : k < t.size) :
    mt (s.data.toList.drop k) (t.data.toList.drop k) = (ok s[k] t[k] && mt (s.data.toList.drop (k + 1)) (t.data.toList.drop (k + 1))) :=
  mt_drop s.data.toList t.data.toList k (by simpa using hs) (by simpa using ht)

set_option maxHeartbeats 400000 in
theorem shape_any (t s : ByteArray) (w : World) (ht : t.size ≤ maxLen) (hs : s.size ≤ maxLen) :
    Calls Trym.prog 24 #[.string t, .string s] w fun e w' => e = .returned (.bool (mt s.data.toList t.data.toList)) ∧ ∃ n, w' = w.drewN n := by
  unfold maxLen at hs ht
  by_cases hlen : (t.size : Int) < (s.size : Int)
  · have e : Hid (mt s.data.toList t.data.toList = false) := mt_short _ _ (by simp; omega)
    go_enter Trym.func24, Trym.ntmps24
    go_wp2
    go_ret
    exact ⟨ret_bool e.out.symm, 0, rfl⟩
  · go_enter Trym.func24, Trym.ntmps24
    go_wp2
    go_loopw [5] (fun i wr => ∃ k n : Nat, k ≤ s.size ∧ i = .int .i64 k ∧ wr = w.drewN n ∧ mt s.data.toList t.data.toList = mt (s.data.toList.drop k) (t.data.toList.drop k)) (fun i _ => s.size - (intOf i).toNat)
    case atStart => exact ⟨0, 0, Nat.zero_le _, rfl, rfl, rfl⟩
    case round =>
      obtain ⟨k, n, hk, rfl, rfl, hm0⟩ := hrel
      have hm : Hid (mt s.data.toList t.data.toList = mt (s.data.toList.drop k) (t.data.toList.drop k)) := hm0
      clear hm0
      by_cases hlt : k < s.size
      · have hkt : k < t.size := by omega
        have hst : Hid (mt (s.data.toList.drop k) (t.data.toList.drop k) = (ok s[k] t[k] && mt (s.data.toList.drop (k + 1)) (t.data.toList.drop (k + 1)))) := step_of s t k hlt hkt
        by_cases hd : ((s[k].toNat : Int) == 100) = true
        · go_wp2_with (go_at_call 28; refine (isDigit_any _ _).mono ?_; rintro e w' ⟨rfl, rfl⟩)
          · have hf : dig t[k] = false := by simpa using (by assumption : (!dig t[k]) = true)
            go_ret
            exact ⟨ret_bool (by rw [hm.out, hst.out, ok_dd _ _ hd, hf]; rfl), n, rfl⟩
          · have hf : dig t[k] = true := by simpa using (by assumption : (!dig t[k]) = false)
            go_roundw
            case rel => exact ⟨k + 1, n, by omega, by go_num, rfl, by rw [hm.out, hst.out, ok_dd _ _ hd, hf]; rfl⟩
            case measure => simp [intOf]; omega
        · have hd' : ((s[k].toNat : Int) == 100) = false := by simpa using hd
          by_cases hq : ((t[k].toNat : Int) != (s[k].toNat : Int)) = true
          · go_wp2
            go_quiet (fail)
            go_wp2
            go_ret
            exact ⟨ret_bool (by rw [hm.out, hst.out, ok_ne _ _ hd' hq]; rfl), n + nq, by simp⟩
          · have hq' : ((t[k].toNat : Int) != (s[k].toNat : Int)) = false := by simpa using hq
            go_wp2
            go_quiet (fail)
            go_wp2
            go_roundw
            case rel => exact ⟨k + 1, n + nq, by omega, by go_num, rfl, by rw [hm.out, hst.out, ok_eq _ _ hd' hq']; rfl⟩
            case measure => simp [intOf]; omega
      · go_wp2
        go_ret
        exact ⟨ret_bool (by rw [hm.out, mt_end _ _ _ (by simp; omega)]), n, rfl⟩

theorem zz_any (t s : ByteArray) (w : World) (ht : t.size ≤ maxLen) (hs : s.size ≤ maxLen) :
    Calls Trym.prog 15 #[.string t, .string s] w fun e w' => e = .returned (.bool (mt s.data.toList t.data.toList)) ∧ ∃ n, w' = w.drewN n := by
  go_enter Trym.func15, Trym.ntmps15
  go_wp2_with (go_at_call 24; refine (shape_any _ _ _ ht hs).mono ?_; rintro e w' ⟨rfl, n, rfl⟩)
  go_ret
  exact ⟨rfl, n, rfl⟩

theorem bytes_yes (a b : ByteArray) (w : World) (h : a.size + b.size ≤ 1048576) :
    Calls Trym.prog 16 #[.string a, .string b] w fun e w' => e = .returned (.bool true) ∧ w = w' := by
  go_enter Trym.func16, Trym.ntmps16
  go_wp2
  go_ret
  exact ⟨rfl, rfl⟩

theorem bytes_no (a b : ByteArray) (w : World) (ha : a.size ≤ maxLen) (hb : b.size ≤ maxLen) (h : ¬ a.size + b.size ≤ 1048576) :
    Calls Trym.prog 16 #[.string a, .string b] w fun e w' => e = .returned (.bool false) ∧ w = w' := by
  unfold maxLen at ha hb
  by_cases h1 : (1048576 : Int) < (a.size : Int)
  · go_enter Trym.func16, Trym.ntmps16
    go_wp2
    go_ret
    exact ⟨rfl, rfl⟩
  · by_cases h2 : (1048576 : Int) < (b.size : Int)
    · go_enter Trym.func16, Trym.ntmps16
      go_wp2
      go_ret
      exact ⟨rfl, rfl⟩
    · go_enter Trym.func16, Trym.ntmps16
      go_wp2
      go_ret
      exact ⟨rfl, rfl⟩

end Go.Proofs.Qxb6603084aMods.Shape
