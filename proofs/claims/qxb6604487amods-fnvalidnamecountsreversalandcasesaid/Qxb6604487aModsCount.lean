import Derived.Test.Qxb6604487aModsRowsOf
namespace Go.Proofs.Qxb6604487aMods.V
open Go.RowKit
set_option linter.unusedSimpArgs false
set_option linter.unusedVariables false

theorem count_big (a0 : ByteArray) (w0 : a0.size ≤ maxLen) (w : World) (h : ¬ a0.size ≤ 1048576) :
    Calls Trym.prog 4 #[.string a0] w fun e w' => e = .returned (.bool true) ∧ Below w.heap.size w w' := by
  go_enter Trym.func4, Trym.ntmps4
  go_wp2_with (go_at_call 8; refine (bytes4_no _ _ w0 h).mono ?_; rintro e w' ⟨rfl, rfl⟩)
  go_ret
  exact ⟨rfl, Below.refl _ _⟩

theorem count_long (a0 : ByteArray) (w : World) (h : a0.size ≤ 1048576) (h2 : ¬ a0.size ≤ 65536) :
    Calls Trym.prog 4 #[.string a0] w fun e w' => e = .returned (.bool true) ∧ Below w.heap.size w w' := by
  go_enter Trym.func4, Trym.ntmps4
  go_wp2_with (go_at_call 8; refine (bytes4_yes _ _ h).mono ?_; rintro e w' ⟨rfl, rfl⟩)
  go_ret
  exact ⟨rfl, Below.refl _ _⟩

theorem size_of (L : List UInt8) (n : Nat) (h : L.length = n) : (⟨L.toArray⟩ : ByteArray).size = n := by
  show L.toArray.size = n
  simpa using h

theorem bad_next (s : ByteArray) (k : Nat) (h : k < s.size) : bad (s.data.toList.take (k + 1)) = bad (s.data.toList.take k) + if cls s[k] = 0 then 1 else 0 := by
  rw [take_snoc s k h, bad_snoc]
theorem dots_next (s : ByteArray) (k : Nat) (h : k < s.size) : dots (s.data.toList.take (k + 1)) = dots (s.data.toList.take k) + if cls s[k] = 3 then 1 else 0 := by
  rw [take_snoc s k h, dots_snoc]

theorem cls_ways (c : UInt8) : cls c = 0 ∨ cls c = 1 ∨ cls c = 3 ∨ (((cls c : Int) == 0) = false ∧ ((cls c : Int) == 1) = false ∧ ((cls c : Int) == 3) = false) := by
  by_cases h0 : cls c = 0
  · exact .inl h0
  · by_cases h1 : cls c = 1
    · exact .inr (.inl h1)
    · by_cases h3 : cls c = 3
      · exact .inr (.inr (.inl h3))
      · exact .inr (.inr (.inr ⟨by simp; omega, by simp; omega, by simp; omega⟩))

set_option maxRecDepth 8000 in
set_option maxHeartbeats 4000000 in
theorem count_main (s : ByteArray) (w : World) (h2 : s.size ≤ 65536) :
    Calls Trym.prog 4 #[.string s] w fun e w' => e = .returned (.bool true) ∧ Below w.heap.size w w' := by
  have hL : s.data.toList.length = s.size := by simp
  have hmk := run_mk s.size (by omega)
  go_enter Trym.func4, Trym.ntmps4
  go_wp2_with (go_at_call 8; refine (bytes4_yes _ _ (by omega)).mono ?_; rintro e w' ⟨rfl, rfl⟩)
  go_loopw [4, 5, 8] (fun b d i wr => ∃ k B D : Nat, k ≤ s.size ∧ i = .int .i64 (k : Int) ∧ b = .int .i64 (B : Int) ∧ d = .int .i64 (D : Int) ∧ B ≤ k ∧ D ≤ k ∧ Hid (B = bad (s.data.toList.take k)) ∧ Hid (D = dots (s.data.toList.take k)) ∧ St w wr s.data.toList k) (fun _ _ i _ => s.size - (intOf i).toNat)
  case atStart => exact ⟨0, 0, 0, Nat.zero_le _, rfl, rfl, rfl, Nat.le_refl _, Nat.le_refl _, rfl, rfl, St.start w _ _ hL⟩
  case round =>
    obtain ⟨k, B, D, hk, rfl, rfl, rfl, hB1, hD1, hB, hD, hst⟩ := hrel
    by_cases hlt : k < s.size
    · have eb : Hid (_ = _) := bad_next s k hlt
      have ed : Hid (_ = _) := dots_next s k hlt
      rw [← hB.out] at eb
      rw [← hD.out] at ed
      have c1 := hst.rev.cell (s.size - 1 - k) (by rw [revL_length _ _ (by omega)]; omega)
      have f1 := hst.rev.frozen (s.size - 1 - k)
      have c2 := hst.swp.cell k (by rw [swpL_length _ _ (by omega)]; omega)
      have f2 := hst.swp.frozen k
      rcases cls_ways s[k] with h0 | h0 | h0 | ⟨h0, h1, h3⟩
      · rw [h0] at eb ed
        have hsw : Hid (_ = ((swc s[k]).toNat : Int)) := swc_same s[k] (by rw [h0]; decide)
        go_wp2_with (go_at_call 9; refine (cls_any _ _).mono ?_; rintro e w' ⟨rfl, rfl⟩; try rw [h0])
        go_roundw
        case rel => exact ⟨k + 1, B + 1, D, by omega, by go_num, by go_num, by go_num, by omega, by omega, eb.out.symm, ed.out.symm, hst.next (by omega) _ (by omega) _ _ rfl hsw.out⟩
        case measure => simp [intOf]; omega
      · rw [h0] at eb ed
        have hsw : Hid (_ = ((swc s[k]).toNat : Int)) := xor32 s[k] h0
        go_wp2_with (go_at_call 9; refine (cls_any _ _).mono ?_; rintro e w' ⟨rfl, rfl⟩; try rw [h0])
        go_roundw
        case rel => exact ⟨k + 1, B, D, by omega, by go_num, by go_num, by go_num, by omega, by omega, eb.out.symm, ed.out.symm, hst.next (by omega) _ (by omega) _ _ rfl hsw.out⟩
        case measure => simp [intOf]; omega
      · rw [h0] at eb ed
        have hsw : Hid (_ = ((swc s[k]).toNat : Int)) := swc_same s[k] (by rw [h0]; decide)
        go_wp2_with (go_at_call 9; refine (cls_any _ _).mono ?_; rintro e w' ⟨rfl, rfl⟩; try rw [h0])
        go_roundw
        case rel => exact ⟨k + 1, B, D + 1, by omega, by go_num, by go_num, by go_num, by omega, by omega, eb.out.symm, ed.out.symm, hst.next (by omega) _ (by omega) _ _ rfl hsw.out⟩
        case measure => simp [intOf]; omega
      · rw [if_neg (by simp at h0; omega)] at eb
        rw [if_neg (by simp at h3; omega)] at ed
        have hsw : Hid (_ = ((swc s[k]).toNat : Int)) := swc_same s[k] (by simp at h1; omega)
        go_wp2_with (go_at_call 9; refine (cls_any _ _).mono ?_; rintro e w' ⟨rfl, rfl⟩)
        go_roundw
        case rel => exact ⟨k + 1, B, D, by omega, by go_num, by go_num, by go_num, by omega, by omega, eb.out.symm, ed.out.symm, hst.next (by omega) _ (by omega) _ _ rfl hsw.out⟩
        case measure => simp [intOf]; omega
    · have hk' : k = s.size := by omega
      subst hk'
      have ea : s.data.toList.take s.size = s.data.toList := List.take_of_length_le (by simp)
      rw [ea] at hB hD
      have hv : Hid (valid s.data.toList = _) := valid_want2 s.data.toList
      unfold want2 at hv
      rw [hL, ← hB.out, ← hD.out] at hv
      have hr : Blk wr w.heap.size s.data.toList.reverse := by
        have := hst.rev
        rwa [← hL, revL_full] at this
      have hp : Blk wr (w.heap.size + 1) (s.data.toList.map swc) := by
        have := hst.swp
        rwa [← hL, swpL_full] at this
      have hbw := hst.bel
      have vr : Hid (valid s.data.toList.reverse = _) := valid_rev s.data.toList
      have vs : Hid (valid (s.data.toList.map swc) = _) := valid_swp s.data.toList
      clear ea hlt hst hmk
      generalize hV : valid s.data.toList = V at hv vr vs
      have HV : Hid (valid s.data.toList = V) := hV
      clear hV
      go_upto_region 23 with fail
      go_cut [11] (fun t wc => t = .bool V ∧ wr = wc)
      case first =>
        have hs4 : s.size = 0 ∨ (1 ≤ s.size ∧ s.size ≤ 2) ∨ (3 ≤ s.size ∧ s.size ≤ 249) ∨ 250 ≤ s.size := by omega
        have hB0 : ((B : Int) == 0) = true ∨ ((B : Int) == 0) = false := by cases ((B : Int) == 0) <;> simp
        have hD0 : ((D : Int) == (s.size : Int)) = true ∨ ((D : Int) == (s.size : Int)) = false := by cases ((D : Int) == (s.size : Int)) <;> simp
        rcases hB0 with q1 | q1
        all_goals
          rcases hD0 with q2 | q2
          all_goals
            rcases hs4 with g | ⟨g1, g2⟩ | ⟨g1, g2⟩ | g
            all_goals
              go_wp2
              go_meet
              case rel => exact ⟨by rw [hv.out]; first | (congr 1; simp at q1 q2 ⊢; done) | (congr 1; simp at q1 q2 ⊢; omega) | (congr 1; rw [Bool.eq_iff_iff]; simp at q1 q2 ⊢; omega), rfl⟩
      case rest =>
        obtain ⟨ht, hw⟩ := hcut
        subst ht
        subst hw
        clear hv hB hD
        cases V
        all_goals
          go_wp2_with fail
          refine (valid_val s wr _ h2 HV.out).mono ?_
          rintro e w1 ⟨rfl, hb1⟩
          have hr1 := hr.below hb1
          have hp1 := hp.below hb1
          have hc1 := hr1.str s.size (by simp)
          have hl1 : (⟨s.data.toList.reverse.toArray⟩ : ByteArray).size ≤ 65536 := by rw [size_of _ s.size (by simp)]; exact h2
          have hV1 : Hid (valid (⟨s.data.toList.reverse.toArray⟩ : ByteArray).data.toList = _) := vr.out
          generalize (⟨s.data.toList.reverse.toArray⟩ : ByteArray) = X at hc1 hl1 hV1
          go_wp2_with fail
          refine (valid_val X w1 _ hl1 hV1.out).mono ?_
          rintro e w2 ⟨rfl, hb2⟩
          have hp2 := hp1.below hb2
          have hc2 := hp2.str s.size (by simp)
          have hl2 : (⟨(s.data.toList.map swc).toArray⟩ : ByteArray).size ≤ 65536 := by rw [size_of _ s.size (by simp)]; exact h2
          have hV2 : Hid (valid (⟨(s.data.toList.map swc).toArray⟩ : ByteArray).data.toList = _) := vs.out
          generalize (⟨(s.data.toList.map swc).toArray⟩ : ByteArray) = Y at hc2 hl2 hV2
          go_wp2_with fail
          refine (valid_val Y w2 _ hl2 hV2.out).mono ?_
          rintro e w3 ⟨rfl, hb3⟩
          go_wp2
          go_ret
          have n1 := hbw.size
          have n2 := hb1.size
          have n3 := hb2.size
          exact ⟨rfl, ((hbw.trans (hb1.mono n1)).trans (hb2.mono (by omega))).trans (hb3.mono (by omega))⟩

theorem count (a0 : ByteArray) (w0 : a0.size ≤ maxLen) (w : World) :
    Calls Trym.prog 4 #[.string a0] w fun e w' => e = .returned (.bool true) ∧ Below w.heap.size w w' := by
  by_cases h : a0.size ≤ 1048576
  · by_cases h2 : a0.size ≤ 65536
    · exact count_main a0 w h2
    · exact count_long a0 w h h2
  · exact count_big a0 w0 w h

end Go.Proofs.Qxb6604487aMods.V
