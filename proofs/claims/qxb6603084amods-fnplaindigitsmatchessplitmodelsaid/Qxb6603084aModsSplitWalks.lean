import Derived.Test.Qxb6603084aModsDigitsWalks
import Derived.Lib.Strings
namespace Go.Proofs.Qxb6603084aMods.Digits
open Go.RowKit
open Go.Proofs.Qxb6603084aMods.Shape (dig dig_t dig_f ret_bool)
set_option linter.unusedSimpArgs false
set_option linter.unusedVariables false

theorem b1Dig_any (c : UInt8) (w : World) :
    Calls Trym.prog 26 #[.int .u8 (c.toNat : Int)] w fun e w' => e = .returned (.bool (dig c)) ∧ w = w' := by
  by_cases h1 : (48 : Int) ≤ (c.toNat : Int)
  · by_cases h2 : (c.toNat : Int) ≤ 57
    · have e := dig_t c h1 h2
      go_enter Trym.func26, Trym.ntmps26
      go_wp2
      go_ret
      exact ⟨ret_bool (by simp [e]), rfl⟩
    · have e := dig_f c (by omega)
      go_enter Trym.func26, Trym.ntmps26
      go_wp2
      go_ret
      exact ⟨ret_bool (by simp [e]), rfl⟩
  · have e := dig_f c (by omega)
    go_enter Trym.func26, Trym.ntmps26
    go_wp2
    go_ret
    exact ⟨ret_bool (by simp [e]), rfl⟩

theorem all_any (s : ByteArray) (v : Bool) (w : World) (hs : s.size ≤ 1048576) (hv : s.data.toList.all dig = v) :
    Calls Trym.prog 23 #[.string s] w fun e w' => e = .returned (.bool v) ∧ w = w' := by
  have HV : Hid (s.data.toList.all dig = v) := hv
  clear hv
  go_enter Trym.func23, Trym.ntmps23
  go_wp2
  go_loop [3] (fun i => ∃ k : Nat, k ≤ s.size ∧ i = .int .i64 k ∧ Hid (s.data.toList.all dig = (s.data.toList.drop k).all dig)) (fun i => s.size - (intOf i).toNat)
  case atStart => exact ⟨0, Nat.zero_le _, rfl, rfl⟩
  case round =>
    obtain ⟨k, hk, rfl, hm⟩ := hrel
    by_cases hlt : k < s.size
    · have hst : Hid ((s.data.toList.drop k).all dig = (dig s[k] && (s.data.toList.drop (k + 1)).all dig)) := by rw [drop_at s k hlt]; simp [Hid]
      cases hd : dig s[k]
      · go_wp2_with (go_at_call 26; refine (b1Dig_any _ _).mono ?_; rintro e w' ⟨rfl, rfl⟩)
        go_ret
        exact ⟨ret_bool (by rw [← HV.out, hm.out, hst.out, hd]; rfl), rfl⟩
      · go_wp2_with (go_at_call 26; refine (b1Dig_any _ _).mono ?_; rintro e w' ⟨rfl, rfl⟩)
        go_round
        case rel => exact ⟨k + 1, by omega, by go_num, hm.out.trans (hst.out.trans (by rw [hd]; rfl))⟩
        case measure => simp [intOf]; omega
    · go_wp2
      go_ret
      exact ⟨ret_bool (by rw [← HV.out, hm.out, List.drop_of_length_le (by simp; omega)]; rfl), rfl⟩

theorem ext_size (s : ByteArray) (a b : Nat) (ha : a ≤ b) (hb : b ≤ s.size) : (s.extract a b).size = b - a := by
  rw [ByteArray.size_extract]; omega

theorem unsign_sg (s : ByteArray) (h0 : 0 < s.size) (h : isSign s[0] = true) : unsign s.data.toList = (s.extract 1 s.size).data.toList := by
  have e : s.data.toList = s[0] :: s.data.toList.drop 1 := by have := drop_at s 0 h0; simpa using this
  rw [Lib.extract_data]
  have hl : s.data.toList.length = s.size := by simp
  rw [e]
  simp only [unsign, h, if_true, List.drop_succ_cons, List.drop_zero]
  rw [List.take_of_length_le (by simp)]

theorem unsign_un (s : ByteArray) (h0 : 0 < s.size) (h : isSign s[0] = false) : unsign s.data.toList = s.data.toList := by
  have e : s.data.toList = s[0] :: s.data.toList.drop 1 := by have := drop_at s 0 h0; simpa using this
  rw [e]
  simp [unsign, h]

theorem unsign_nil (s : ByteArray) (h0 : ¬ 0 < s.size) : unsign s.data.toList = s.data.toList := by
  have e : s.data.toList = [] := by
    apply List.eq_nil_of_length_eq_zero
    have hl : s.data.toList.length = s.size := by simp
    omega
  rw [e]; rfl

theorem split_dot (b : ByteArray) (k : Nat) (hk : k < b.size) (hd : isDot b[k] = true) (hn : ∀ j (hj : j < k) (h : j < b.size), isDot b[j] = false) :
    split b.data.toList = if (b.extract 0 k).data.toList.all dig && (b.extract (k + 1) b.size).data.toList.all dig then some (k, b.size - (k + 1)) else none := by
  have hl : b.data.toList.length = b.size := by simp
  obtain ⟨e1, e2⟩ := left_at b.data.toList k (by omega) hd (fun j hj => hn j hj (by omega))
  unfold split
  rw [e1, e2, Lib.extract_data, Lib.extract_data]
  simp only [List.drop_zero, Nat.sub_zero]
  rw [List.take_of_length_le (l := List.drop (k + 1) b.data.toList) (by rw [List.length_drop]; omega), List.length_take, List.length_drop, hl, Nat.min_eq_left (by omega)]

theorem split_none (b : ByteArray) (hn : ∀ j (hj : j < b.size) (h : j < b.size), isDot b[j] = false) :
    split b.data.toList = if b.data.toList.all dig then some (b.size, 0) else none := by
  have hl : b.data.toList.length = b.size := by simp
  obtain ⟨e1, e2⟩ := left_none b.data.toList (fun j hj => hn j (by omega) (by omega))
  unfold split
  rw [e1, e2]
  simp

set_option maxHeartbeats 1000000 in
theorem model_sg (s : ByteArray) (w : World) (r : Option (Nat × Nat)) (hr : Hid (split (unsign s.data.toList) = r)) (hs : s.size ≤ 1048576) (h0 : 0 < s.size)
    (h1 : ((s[0].toNat : Int) == 43) = true ∨ (((s[0].toNat : Int) == 43) = false ∧ ((s[0].toNat : Int) == 45) = true)) :
    Calls Trym.prog 12 #[.string s] w fun e w' => e = .returned (tup (res r)) ∧ w = w' := by
  have H0 : unsign s.data.toList = (s.extract 1 s.size).data.toList := unsign_sg s h0 (by unfold isSign; simp at h1 ⊢; omega)
  have hz := ext_size s 1 s.size h0 (Nat.le_refl _)
  rcases h1 with h1 | ⟨h1, h2⟩
  all_goals
    go_enter Trym.func12, Trym.ntmps12
    go_wp2
    generalize hb : s.extract 1 s.size = b at H0 hz ⊢
    have hr' : Hid (split b.data.toList = r) := by rw [← H0]; exact hr
    have hz' : b.size ≤ 1048576 := by omega
    clear hb H0 hz hr
    go_loop [6, 7] (fun d i => ∃ k : Nat, k ≤ b.size ∧ i = .int .i64 k ∧ d = .int .i64 (-1) ∧ Hid (∀ j (hj : j < k) (h : j < b.size), isDot b[j] = false)) (fun _ i => b.size - (intOf i).toNat)
    case atStart => exact ⟨0, Nat.zero_le _, rfl, rfl, fun j hj _ => absurd hj (Nat.not_lt_zero _)⟩
    case round =>
      obtain ⟨k, hk, rfl, rfl, hn⟩ := hrel
      by_cases hlt : k < b.size
      · by_cases hdot : ((b[k].toNat : Int) == 46) = true
        · have hsp : Hid (split b.data.toList = if (b.extract 0 k).data.toList.all dig && (b.extract (k + 1) b.size).data.toList.all dig then some (k, b.size - (k + 1)) else none) :=
            split_dot b k hlt (dot_t _ hdot) hn.out
          have z1 := ext_size b 0 k (Nat.zero_le _) hk
          have z2 := ext_size b (k + 1) b.size hlt (Nat.le_refl _)
          cases hv1 : (b.extract 0 k).data.toList.all dig
          · have E : Hid (tup (res r) = .tuple #[.int .i64 0, .int .i64 0, .bool false]) := by rw [← hr'.out, hsp.out, hv1]; exact tup_none
            go_wp2_with fail
            refine (all_any (b.extract 0 k) false _ (by omega) hv1).mono ?_
            rintro e w' ⟨rfl, rfl⟩
            go_wp2
            go_ret3
            exact ⟨by rw [E.out]; rfl, rfl⟩
          · cases hv2 : (b.extract (k + 1) b.size).data.toList.all dig
            · have E : Hid (tup (res r) = .tuple #[.int .i64 0, .int .i64 0, .bool false]) := by rw [← hr'.out, hsp.out, hv1, hv2]; exact tup_none
              go_wp2_with fail
              refine (all_any (b.extract 0 k) true _ (by omega) hv1).mono ?_
              rintro e w' ⟨rfl, rfl⟩
              go_wp2_with fail
              refine (all_any (b.extract (k + 1) b.size) false _ (by omega) hv2).mono ?_
              rintro e w' ⟨rfl, rfl⟩
              go_wp2
              go_ret3
              exact ⟨by rw [E.out]; rfl, rfl⟩
            · have E : Hid (tup (res r) = .tuple #[.int .i64 (k : Int), .int .i64 ((b.size - (k + 1) : Nat) : Int), .bool (decide ((0 : Int) < (k : Int) + ((b.size - (k + 1) : Nat) : Int)))]) := by rw [← hr'.out, hsp.out, hv1, hv2]; exact tup_some _ _
              go_wp2_with fail
              refine (all_any (b.extract 0 k) true _ (by omega) hv1).mono ?_
              rintro e w' ⟨rfl, rfl⟩
              go_wp2_with fail
              refine (all_any (b.extract (k + 1) b.size) true _ (by omega) hv2).mono ?_
              rintro e w' ⟨rfl, rfl⟩
              go_wp2
              go_ret3
              exact ⟨by rw [E.out]; rfl, rfl⟩
        · have hdot' : ((b[k].toNat : Int) == 46) = false := by simpa using hdot
          go_wp2
          go_round
          case rel =>
            refine ⟨k + 1, by omega, by go_num, rfl, fun j hj h => ?_⟩
            by_cases e : j = k
            · subst e; exact dot_f _ hdot'
            · exact hn.out j (by omega) h
          case measure => simp [intOf]; omega
      · have hk' : k = b.size := by omega
        subst hk'
        have hsp : Hid (split b.data.toList = if b.data.toList.all dig then some (b.size, 0) else none) := split_none b hn.out
        cases hv1 : b.data.toList.all dig
        · have E : Hid (tup (res r) = .tuple #[.int .i64 0, .int .i64 0, .bool false]) := by rw [← hr'.out, hsp.out, hv1]; exact tup_none
          go_wp2_with fail
          refine (all_any b false _ (by omega) hv1).mono ?_
          rintro e w' ⟨rfl, rfl⟩
          go_wp2
          go_ret3
          exact ⟨by rw [E.out]; rfl, rfl⟩
        · have E : Hid (tup (res r) = .tuple #[.int .i64 (b.size : Int), .int .i64 0, .bool (decide (0 < b.size))]) := by rw [← hr'.out, hsp.out, hv1]; exact rfl
          go_wp2_with fail
          refine (all_any b true _ (by omega) hv1).mono ?_
          rintro e w' ⟨rfl, rfl⟩
          go_wp2_with fail
          refine (all_any _ true _ (by simp [ByteArray.size]) rfl).mono ?_
          rintro e w' ⟨rfl, rfl⟩
          go_wp2
          go_ret3
          exact ⟨by rw [E.out]; first | rfl | (rw [decide_eq_false (by omega)]; rfl) | (rw [decide_eq_true (by omega)]; rfl), rfl⟩

set_option maxHeartbeats 1000000 in
theorem model_un (b : ByteArray) (w : World) (r : Option (Nat × Nat)) (hr : Hid (split (unsign b.data.toList) = r)) (hz' : b.size ≤ 1048576)
    (h1 : ¬ 0 < b.size ∨ (∃ h0 : 0 < b.size, ((b[0].toNat : Int) == 43) = false ∧ ((b[0].toNat : Int) == 45) = false)) :
    Calls Trym.prog 12 #[.string b] w fun e w' => e = .returned (tup (res r)) ∧ w = w' := by
  have hr' : Hid (split b.data.toList = r) := by
    rcases h1 with h1 | ⟨h0, h1, h2⟩
    · rw [← unsign_nil b h1]; exact hr
    · rw [← unsign_un b h0 (by unfold isSign; simp at h1 h2 ⊢; omega)]; exact hr
  clear hr
  rcases h1 with h1 | ⟨h0, h1, h2⟩
  all_goals
    go_enter Trym.func12, Trym.ntmps12
    go_wp2
    go_loop [6, 7] (fun d i => ∃ k : Nat, k ≤ b.size ∧ i = .int .i64 k ∧ d = .int .i64 (-1) ∧ Hid (∀ j (hj : j < k) (h : j < b.size), isDot b[j] = false)) (fun _ i => b.size - (intOf i).toNat)
    case atStart => exact ⟨0, Nat.zero_le _, rfl, rfl, fun j hj _ => absurd hj (Nat.not_lt_zero _)⟩
    case round =>
      obtain ⟨k, hk, rfl, rfl, hn⟩ := hrel
      by_cases hlt : k < b.size
      · by_cases hdot : ((b[k].toNat : Int) == 46) = true
        · have hsp : Hid (split b.data.toList = if (b.extract 0 k).data.toList.all dig && (b.extract (k + 1) b.size).data.toList.all dig then some (k, b.size - (k + 1)) else none) :=
            split_dot b k hlt (dot_t _ hdot) hn.out
          have z1 := ext_size b 0 k (Nat.zero_le _) hk
          have z2 := ext_size b (k + 1) b.size hlt (Nat.le_refl _)
          cases hv1 : (b.extract 0 k).data.toList.all dig
          · have E : Hid (tup (res r) = .tuple #[.int .i64 0, .int .i64 0, .bool false]) := by rw [← hr'.out, hsp.out, hv1]; exact tup_none
            go_wp2_with fail
            refine (all_any (b.extract 0 k) false _ (by omega) hv1).mono ?_
            rintro e w' ⟨rfl, rfl⟩
            go_wp2
            go_ret3
            exact ⟨by rw [E.out]; rfl, rfl⟩
          · cases hv2 : (b.extract (k + 1) b.size).data.toList.all dig
            · have E : Hid (tup (res r) = .tuple #[.int .i64 0, .int .i64 0, .bool false]) := by rw [← hr'.out, hsp.out, hv1, hv2]; exact tup_none
              go_wp2_with fail
              refine (all_any (b.extract 0 k) true _ (by omega) hv1).mono ?_
              rintro e w' ⟨rfl, rfl⟩
              go_wp2_with fail
              refine (all_any (b.extract (k + 1) b.size) false _ (by omega) hv2).mono ?_
              rintro e w' ⟨rfl, rfl⟩
              go_wp2
              go_ret3
              exact ⟨by rw [E.out]; rfl, rfl⟩
            · have E : Hid (tup (res r) = .tuple #[.int .i64 (k : Int), .int .i64 ((b.size - (k + 1) : Nat) : Int), .bool (decide ((0 : Int) < (k : Int) + ((b.size - (k + 1) : Nat) : Int)))]) := by rw [← hr'.out, hsp.out, hv1, hv2]; exact tup_some _ _
              go_wp2_with fail
              refine (all_any (b.extract 0 k) true _ (by omega) hv1).mono ?_
              rintro e w' ⟨rfl, rfl⟩
              go_wp2_with fail
              refine (all_any (b.extract (k + 1) b.size) true _ (by omega) hv2).mono ?_
              rintro e w' ⟨rfl, rfl⟩
              go_wp2
              go_ret3
              exact ⟨by rw [E.out]; rfl, rfl⟩
        · have hdot' : ((b[k].toNat : Int) == 46) = false := by simpa using hdot
          go_wp2
          go_round
          case rel =>
            refine ⟨k + 1, by omega, by go_num, rfl, fun j hj h => ?_⟩
            by_cases e : j = k
            · subst e; exact dot_f _ hdot'
            · exact hn.out j (by omega) h
          case measure => simp [intOf]; omega
      · have hk' : k = b.size := by omega
        subst hk'
        have hsp : Hid (split b.data.toList = if b.data.toList.all dig then some (b.size, 0) else none) := split_none b hn.out
        cases hv1 : b.data.toList.all dig
        · have E : Hid (tup (res r) = .tuple #[.int .i64 0, .int .i64 0, .bool false]) := by rw [← hr'.out, hsp.out, hv1]; exact tup_none
          go_wp2_with fail
          refine (all_any b false _ (by omega) hv1).mono ?_
          rintro e w' ⟨rfl, rfl⟩
          go_wp2
          go_ret3
          exact ⟨by rw [E.out]; rfl, rfl⟩
        · have E : Hid (tup (res r) = .tuple #[.int .i64 (b.size : Int), .int .i64 0, .bool (decide (0 < b.size))]) := by rw [← hr'.out, hsp.out, hv1]; exact rfl
          go_wp2_with fail
          refine (all_any b true _ (by omega) hv1).mono ?_
          rintro e w' ⟨rfl, rfl⟩
          go_wp2_with fail
          refine (all_any _ true _ (by simp [ByteArray.size]) rfl).mono ?_
          rintro e w' ⟨rfl, rfl⟩
          go_wp2
          go_ret3
          exact ⟨by rw [E.out]; first | rfl | (rw [decide_eq_false (by omega)]; rfl) | (rw [decide_eq_true (by omega)]; rfl), rfl⟩

theorem model_any (s : ByteArray) (w : World) (hs : s.size ≤ 1048576) :
    Calls Trym.prog 12 #[.string s] w fun e w' => e = .returned (tup (pm s.data.toList)) ∧ w = w' := by
  by_cases h0 : 0 < s.size
  · cases h1 : ((s[0].toNat : Int) == 43)
    · cases h2 : ((s[0].toNat : Int) == 45)
      · exact model_un s w _ rfl hs (.inr ⟨h0, h1, h2⟩)
      · exact model_sg s w _ rfl hs h0 (.inr ⟨h1, h2⟩)
    · exact model_sg s w _ rfl hs h0 (.inl h1)
  · exact model_un s w _ rfl hs (.inl h0)

theorem zzplain_any (s : ByteArray) (w : World) (hs : s.size ≤ 1048576) :
    Calls Trym.prog 11 #[.string s] w fun e w' => e = .returned (tup (pm s.data.toList)) ∧ w = w' := by
  have E : Hid (res (pdAt s 0 false 0 0) = pm s.data.toList) := by
    unfold pdAt; simp only [decide_true, List.drop_zero]; exact res_pd _
  go_enter Trym.func11, Trym.ntmps11
  go_wp2_with fail
  refine (plain_any s _ hs).mono ?_
  rintro e w' ⟨rfl, rfl⟩
  rw [E.out]
  unfold tup
  go_wp2
  go_ret3
  exact ⟨rfl, rfl⟩

theorem zzplain_val (s : ByteArray) (w : World) (hs : s.size ≤ 1048576) (a b : Nat) (c : Bool) (hp : Hid (tup (pm s.data.toList) = .tuple #[.int .i64 (a : Int), .int .i64 (b : Int), .bool c])) :
    Calls Trym.prog 11 #[.string s] w fun e w' => e = .returned (.tuple #[.int .i64 (a : Int), .int .i64 (b : Int), .bool c]) ∧ w = w' := by
  rw [← hp.out]; exact zzplain_any s w hs

theorem model_val (s : ByteArray) (w : World) (hs : s.size ≤ 1048576) (a b : Nat) (c : Bool) (hp : Hid (tup (pm s.data.toList) = .tuple #[.int .i64 (a : Int), .int .i64 (b : Int), .bool c])) :
    Calls Trym.prog 12 #[.string s] w fun e w' => e = .returned (.tuple #[.int .i64 (a : Int), .int .i64 (b : Int), .bool c]) ∧ w = w' := by
  rw [← hp.out]; exact model_any s w hs

theorem bytes_yes (a : ByteArray) (w : World) (h : a.size ≤ 1048576) :
    Calls Trym.prog 10 #[.string a] w fun e w' => e = .returned (.bool true) ∧ w = w' := by
  go_enter Trym.func10, Trym.ntmps10
  go_wp2
  go_ret
  exact ⟨rfl, rfl⟩

theorem bytes_no (a : ByteArray) (w : World) (h : (1048576 : Int) < (a.size : Int)) :
    Calls Trym.prog 10 #[.string a] w fun e w' => e = .returned (.bool false) ∧ w = w' := by
  go_enter Trym.func10, Trym.ntmps10
  go_wp2
  go_ret
  exact ⟨rfl, rfl⟩

theorem walk (a0 : ByteArray) (w0 : a0.size ≤ maxLen) (w : World) :
    Calls Trym.prog 3 #[.string a0] w fun e w' => e = .returned (.bool true) ∧ Grown w w' := by
  by_cases h : (1048576 : Int) < (a0.size : Int)
  · go_enter Trym.func3, Trym.ntmps3
    go_wp2_with (go_at_call 10; refine (bytes_no _ _ h).mono ?_; rintro e w' ⟨rfl, rfl⟩)
    go_ret
    exact ⟨rfl, Grown.refl _⟩
  · have h' : a0.size ≤ 1048576 := by omega
    obtain ⟨a, b, c, hp⟩ : ∃ a b c, tup (pm a0.data.toList) = .tuple #[.int .i64 ((a : Nat) : Int), .int .i64 ((b : Nat) : Int), .bool c] := ⟨_, _, _, rfl⟩
    have HP : Hid (tup (pm a0.data.toList) = .tuple #[.int .i64 ((a : Nat) : Int), .int .i64 ((b : Nat) : Int), .bool c]) := hp
    clear hp
    go_enter Trym.func3, Trym.ntmps3
    go_wp2_with fail
    refine (bytes_yes _ _ h').mono ?_
    rintro e w' ⟨rfl, rfl⟩
    go_wp2_with fail
    refine (zzplain_val a0 _ h' a b c HP).mono ?_
    rintro e w' ⟨rfl, rfl⟩
    go_wp2_with fail
    refine (model_val a0 _ h' a b c HP).mono ?_
    rintro e w' ⟨rfl, rfl⟩
    cases c
    all_goals
      go_wp2
      go_ret
      exact ⟨rfl, Grown.refl _⟩

end Go.Proofs.Qxb6603084aMods.Digits
