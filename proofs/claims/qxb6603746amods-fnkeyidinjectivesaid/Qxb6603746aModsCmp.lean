/- the byte order of two lists; keyBytesCompare -/
import Derived.Test.Qxb6603746aModsBase
namespace Go.Proofs.Qxb6603746aMods.K
open Go.RowKit
set_option linter.unusedSimpArgs false
set_option linter.unusedVariables false

def cmpL : List UInt8 → List UInt8 → Int
  | [], [] => 0
  | [], _ :: _ => -1
  | _ :: _, [] => 1
  | a :: l, b :: m => if a.toNat < b.toNat then -1 else if b.toNat < a.toNat then 1 else cmpL l m

theorem cmpL_lt (L M : List UInt8) (k : Nat) (h1 : k < L.length) (h2 : k < M.length) (h : (L[k].toNat : Int) < (M[k].toNat : Int)) : cmpL (L.drop k) (M.drop k) = -1 := by
  rw [List.drop_eq_getElem_cons h1, List.drop_eq_getElem_cons h2]
  simp only [cmpL]; rw [if_pos (by omega)]
theorem cmpL_gt (L M : List UInt8) (k : Nat) (h1 : k < L.length) (h2 : k < M.length) (h : (M[k].toNat : Int) < (L[k].toNat : Int)) : cmpL (L.drop k) (M.drop k) = 1 := by
  rw [List.drop_eq_getElem_cons h1, List.drop_eq_getElem_cons h2]
  simp only [cmpL]; rw [if_neg (by omega), if_pos (by omega)]
theorem cmpL_eq (L M : List UInt8) (k : Nat) (h1 : k < L.length) (h2 : k < M.length) (h : ¬ (L[k].toNat : Int) < (M[k].toNat : Int)) (h' : ¬ (M[k].toNat : Int) < (L[k].toNat : Int)) :
    cmpL (L.drop k) (M.drop k) = cmpL (L.drop (k + 1)) (M.drop (k + 1)) := by
  rw [List.drop_eq_getElem_cons h1, List.drop_eq_getElem_cons h2]
  simp only [cmpL]; rw [if_neg (by omega), if_neg (by omega)]

theorem cmpL_end_lt (L M : List UInt8) (k : Nat) (h1 : L.length ≤ k) (h2 : k < M.length) : cmpL (L.drop k) (M.drop k) = -1 := by
  rw [List.drop_of_length_le h1, List.drop_eq_getElem_cons h2]; rfl
theorem cmpL_end_gt (L M : List UInt8) (k : Nat) (h1 : k < L.length) (h2 : M.length ≤ k) : cmpL (L.drop k) (M.drop k) = 1 := by
  rw [List.drop_of_length_le h2, List.drop_eq_getElem_cons h1]; rfl
theorem cmpL_end_eq (L M : List UInt8) (k : Nat) (h1 : L.length ≤ k) (h2 : M.length ≤ k) : cmpL (L.drop k) (M.drop k) = 0 := by
  rw [List.drop_of_length_le h2, List.drop_of_length_le h1]; rfl

theorem cmpL_self : ∀ L : List UInt8, cmpL L L = 0
  | [] => rfl
  | a :: l => by simp [cmpL, cmpL_self l]

theorem cmpL_zero : ∀ L M : List UInt8, cmpL L M = 0 → L = M
  | [], [], _ => rfl
  | [], _ :: _, h => by simp [cmpL] at h
  | _ :: _, [], h => by simp [cmpL] at h
  | a :: l, b :: m, h => by
    simp only [cmpL] at h
    split at h
    · simp at h
    · split at h
      · simp at h
      · rw [cmpL_zero l m h, UInt8.toNat_inj.1 (by omega : a.toNat = b.toNat)]

theorem cmpL_pre : ∀ P L M : List UInt8, cmpL (P ++ L) (P ++ M) = cmpL L M
  | [], _, _ => rfl
  | a :: p, L, M => by simp [cmpL, cmpL_pre p L M]

theorem drew_ex1 (w : World) (a b : Nat) : ∃ n, (w.drewN a).drewN b = w.drewN n := ⟨a + b, by simp⟩
theorem drew_ex2 (w : World) (a b c : Nat) : ∃ n, ((w.drewN a).drewN b).drewN c = w.drewN n := ⟨a + b + c, by simp⟩

theorem ret_int {k : IntKind} {a b : Int} (h : a = b) : Ending.returned (.int k a) = .returned (.int k b) := by rw [h]

set_option maxHeartbeats 1000000 in
theorem cmp_any (g1 c1 g2 c2 n1 n2 : Nat) (L M : List UInt8) (w : World) (hn1 : Hid (n1 = L.length)) (hn2 : Hid (n2 = M.length)) (hl : n1 ≤ 1048576) (hm : n2 ≤ 1048576)
    (hL : ∀ j (hj : j < L.length), w.cell? ⟨g1, j, none⟩ = some (.int .u8 (L[j].toNat : Int))) (hM : ∀ j (hj : j < M.length), w.cell? ⟨g2, j, none⟩ = some (.int .u8 (M[j].toNat : Int))) :
    Calls Trym.prog 10 #[.slice (some ⟨g1, 0, none⟩) n1 c1, .slice (some ⟨g2, 0, none⟩) n2 c2] w fun e w' => e = .returned (.int .i64 (cmpL L M)) ∧ ∃ n, w' = w.drewN n := by
  obtain ⟨r, hr0⟩ : ∃ r, r = cmpL L M := ⟨_, rfl⟩
  have HR : Hid (r = cmpL L M) := hr0
  rw [← hr0]
  clear hr0
  by_cases hc : (n2 : Int) < (n1 : Int)
  · go_enter Trym.func10, Trym.ntmps10
    go_wp2
    go_loopw [6] (fun i wr => ∃ k n : Nat, k ≤ n2 ∧ i = .int .i64 k ∧ wr = w.drewN n ∧ Hid (r = cmpL (L.drop k) (M.drop k))) (fun i _ => n2 - (intOf i).toNat)
    case atStart => exact ⟨0, 0, Nat.zero_le _, rfl, rfl, HR⟩
    case round =>
      obtain ⟨k, n, hk, rfl, rfl, hrel⟩ := hrel
      by_cases hlt : k < n2
      · have hkL : k < L.length := by have := hn1.out; omega
        have hkM : k < M.length := by have := hn2.out; omega
        have e1 := hL k hkL
        have e2 := hM k hkM
        by_cases h1 : (L[k].toNat : Int) < (M[k].toNat : Int)
        · go_wp2
          go_quiet (fail)
          go_wp2
          go_ret
          exact ⟨ret_int (by rw [hrel.out, cmpL_lt L M k hkL hkM h1]), drew_ex1 _ _ _⟩
        · by_cases h2 : (M[k].toNat : Int) < (L[k].toNat : Int)
          · go_wp2
            go_quiet (fail)
            go_wp2
            go_quiet (fail)
            go_wp2
            go_ret
            exact ⟨ret_int (by rw [hrel.out, cmpL_gt L M k hkL hkM h2]), drew_ex2 _ _ _ _⟩
          · go_wp2
            go_quiet (fail)
            go_wp2
            go_quiet (fail)
            go_wp2
            go_roundw
            case rel => exact ⟨k + 1, _, by omega, by go_num, rfl, hrel.out.trans (cmpL_eq L M k hkL hkM (by omega) (by omega))⟩
            case measure => simp [intOf]; omega
      · have hE : Hid (r = 1) := by
          have := hn1.out; have := hn2.out
          exact hrel.out.trans (cmpL_end_gt L M k (by omega) (by omega))
        go_wp2
        go_ret
        exact ⟨ret_int (by rw [hE.out]), n, rfl⟩
  · go_enter Trym.func10, Trym.ntmps10
    go_wp2
    go_loopw [6] (fun i wr => ∃ k n : Nat, k ≤ n1 ∧ i = .int .i64 k ∧ wr = w.drewN n ∧ Hid (r = cmpL (L.drop k) (M.drop k))) (fun i _ => n1 - (intOf i).toNat)
    case atStart => exact ⟨0, 0, Nat.zero_le _, rfl, rfl, HR⟩
    case round =>
      obtain ⟨k, n, hk, rfl, rfl, hrel⟩ := hrel
      by_cases hlt : k < n1
      · have hkL : k < L.length := by have := hn1.out; omega
        have hkM : k < M.length := by have := hn2.out; omega
        have e1 := hL k hkL
        have e2 := hM k hkM
        by_cases h1 : (L[k].toNat : Int) < (M[k].toNat : Int)
        · go_wp2
          go_quiet (fail)
          go_wp2
          go_ret
          exact ⟨ret_int (by rw [hrel.out, cmpL_lt L M k hkL hkM h1]), drew_ex1 _ _ _⟩
        · by_cases h2 : (M[k].toNat : Int) < (L[k].toNat : Int)
          · go_wp2
            go_quiet (fail)
            go_wp2
            go_quiet (fail)
            go_wp2
            go_ret
            exact ⟨ret_int (by rw [hrel.out, cmpL_gt L M k hkL hkM h2]), drew_ex2 _ _ _ _⟩
          · go_wp2
            go_quiet (fail)
            go_wp2
            go_quiet (fail)
            go_wp2
            go_roundw
            case rel => exact ⟨k + 1, _, by omega, by go_num, rfl, hrel.out.trans (cmpL_eq L M k hkL hkM (by omega) (by omega))⟩
            case measure => simp [intOf]; omega
      · by_cases he : (n1 : Int) < (n2 : Int)
        · have hE : Hid (r = -1) := by
            have := hn1.out; have := hn2.out
            exact hrel.out.trans (cmpL_end_lt L M k (by omega) (by omega))
          go_wp2
          go_ret
          exact ⟨ret_int (by rw [hE.out]), n, rfl⟩
        · have hE : Hid (r = 0) := by
            have := hn1.out; have := hn2.out
            exact hrel.out.trans (cmpL_end_eq L M k (by omega) (by omega))
          go_wp2
          go_ret
          exact ⟨ret_int (by rw [hE.out]), n, rfl⟩

end Go.Proofs.Qxb6603746aMods.K
