import Derived.Test.Qxb6603084aModsShapeWalks
import Derived.Test.Qxb6603084aModsBuf
import Derived.ProofKit
namespace Go.Proofs.Qxb6603084aMods.Shape
open Go.RowKit
set_option linter.unusedSimpArgs false
set_option linter.unusedVariables false

theorem Trym.info5 : (Trym.prog.info? 5).map (fun i => (i.zero, i.size, i.bytes)) = some (some (.int .u8 0), 1, 1) := by kernel_rfl

theorem run_mk (n : Nat) (hn : n ≤ 1048576) (w : World) :
    (Instr.makeSlice 27 (.int .i64 (n : Int)) (.int .i64 (n : Int))).run Trym.prog w = .ok (.slice (some ⟨w.heap.size, 0, none⟩) n n) (w.alloc (.cells (madeCells #[.int .u8 0] n) 5)) := by
  obtain ⟨i0, hi, hz0, hz1, hz2⟩ := info_parts Trym.info5
  have := run_make (P := Trym.prog) w 27 5 i0 (.int .u8 0) Trym.underlying27 hi hz0 .i64 .i64 n n (by omega) (by omega) (by rw [hz2]; omega) (by omega)
  rw [hz1] at this
  simpa [Value.cells] using this

/-- what the buffer holds behind 'k' rounds -/
def bufL (s : List UInt8) (k : Nat) : List UInt8 := inst 0 (s.take k) ++ List.replicate (s.length - k) 0

theorem bufL_length (s : List UInt8) (k : Nat) (h : k ≤ s.length) : (bufL s k).length = s.length := by
  simp [bufL, inst_length]; omega

theorem inst_snoc : ∀ (j : Nat) (s : List UInt8) (c : UInt8), inst j (s ++ [c]) = inst j s ++ [ibB (j + s.length) c]
  | j, [], c => by simp [inst]
  | j, a :: s, c => by
    simp only [List.cons_append, inst, inst_snoc (j + 1) s c, List.length_cons]
    rw [show j + 1 + s.length = j + (s.length + 1) from by omega]

theorem bufL_succ (s : List UInt8) (k : Nat) (h : k < s.length) : bufL s (k + 1) = (bufL s k).set k (ibB k s[k]) := by
  unfold bufL
  rw [List.take_succ_eq_append_getElem h, inst_snoc]
  have e : s.length - k = (s.length - (k + 1)) + 1 := by omega
  have hl : (inst 0 (s.take k)).length = k := by simp [inst_length]; omega
  rw [e, List.replicate_succ, List.set_append_right _ _ (by omega), hl]
  simp [Nat.min_eq_left (Nat.le_of_lt h)]

theorem bufL_zero (s : List UInt8) : bufL s 0 = List.replicate s.length 0 := by simp [bufL, inst]
theorem bufL_full (s : List UInt8) : bufL s s.length = inst 0 s := by simp [bufL]

theorem walk_big (a0 a1 : ByteArray) (w0 : a0.size ≤ maxLen) (w1 : a1.size ≤ maxLen) (w : World) (h : ¬ a0.size + a1.size ≤ 1048576) :
    Calls Trym.prog 6 #[.string a0, .string a1] w fun e w' => e = .returned (.bool true) ∧ Grown w w' := by
  go_enter Trym.func6, Trym.ntmps6
  go_wp2_with (go_at_call 16; refine (bytes_no _ _ _ w0 w1 h).mono ?_; rintro e w' ⟨rfl, rfl⟩)
  go_ret
  exact ⟨rfl, Grown.refl _⟩

theorem walk_long (a0 a1 : ByteArray) (w : World) (h : a0.size + a1.size ≤ 1048576) (h2 : (524288 : Int) < (a0.size : Int) ∨ (524288 : Int) < (a1.size : Int)) :
    Calls Trym.prog 6 #[.string a0, .string a1] w fun e w' => e = .returned (.bool true) ∧ Grown w w' := by
  by_cases h3 : (524288 : Int) < (a0.size : Int)
  · go_enter Trym.func6, Trym.ntmps6
    go_wp2_with (go_at_call 16; refine (bytes_yes _ _ _ h).mono ?_; rintro e w' ⟨rfl, rfl⟩)
    go_ret
    exact ⟨rfl, Grown.refl _⟩
  · have h4 : (524288 : Int) < (a1.size : Int) := by omega
    clear h2
    go_enter Trym.func6, Trym.ntmps6
    go_wp2_with (go_at_call 16; refine (bytes_yes _ _ _ h).mono ?_; rintro e w' ⟨rfl, rfl⟩)
    go_ret
    exact ⟨rfl, Grown.refl _⟩

theorem take_snoc (s : ByteArray) (k : Nat) (h : k < s.size) : s.data.toList.take (k + 1) = s.data.toList.take k ++ [s[k]] := by
  rw [List.take_succ_eq_append_getElem (by simpa using h)]; rfl

theorem hasD_yes (s : ByteArray) (k : Nat) (h : k < s.size) (hd : ((s[k].toNat : Int) == 100) = true) : hasD (s.data.toList.take (k + 1)) = true := by
  rw [take_snoc s k h]
  simp at hd
  unfold hasD
  simp
  exact .inr (by omega)

theorem hasD_no (s : ByteArray) (k : Nat) (h : k < s.size) (hd : ((s[k].toNat : Int) == 100) = false) : hasD (s.data.toList.take (k + 1)) = hasD (s.data.toList.take k) := by
  rw [take_snoc s k h]
  simp at hd
  unfold hasD
  rw [List.any_append]
  have : (s[k].toNat == 100) = false := by simp; omega
  simp [this]

theorem ib_d (k : Nat) (c : UInt8) (hd : ((c.toNat : Int) == 100) = true) : (48 + (k : Int) % 10) = ((ibB k c).toNat : Int) := by
  rw [ibB_toNat]; unfold ib; simp at hd; rw [if_pos (by omega)]; omega
theorem ib_o (k : Nat) (c : UInt8) (hd : ((c.toNat : Int) == 100) = false) : (c.toNat : Int) = ((ibB k c).toNat : Int) := by
  rw [ibB_toNat]; unfold ib; simp at hd; rw [if_neg (by omega)]

theorem buf_step {w wr : World} (s : ByteArray) (k : Nat) (h : k < s.size) (hbuf : Buf w wr w.heap.size (bufL s.data.toList k)) (v : Int) (hv : v = ((ibB k s[k]).toNat : Int)) :
    Buf w (wr.setCell ⟨w.heap.size, k, none⟩ (.int .u8 v)) w.heap.size (bufL s.data.toList (k + 1)) := by
  have hl := bufL_length s.data.toList k (by simp; omega)
  rw [bufL_succ s.data.toList k (by simpa using h)]
  exact hbuf.set k (by rw [hl]; simpa using h) _ v hv

theorem fin_buf {w wr : World} (s : ByteArray) (hbuf : Buf w wr w.heap.size (bufL s.data.toList s.size)) :
    ∃ X : ByteArray, X.size = s.size ∧ X.data.toList = inst 0 s.data.toList ∧ Buf w wr w.heap.size X.data.toList ∧
      (convert 27 9 (.slice (some ⟨w.heap.size, 0, none⟩) s.size s.size)).run Trym.prog wr = .ok (.string X) wr := by
  have e : s.data.toList.length = s.size := by rw [Array.length_toList]; rfl
  rw [← e, bufL_full] at hbuf
  refine ⟨⟨(inst 0 s.data.toList).toArray⟩, ?_, rfl, hbuf, ?_⟩
  · show (inst 0 s.data.toList).toArray.size = _
    rw [List.size_toArray, inst_length, e]
  · have := hbuf.str (P := Trym.prog) 27 9 5 s.size Trym.underlying27 Trym.underlying5 Trym.underlying9
    rw [inst_length, e] at this
    exact this

theorem data_append (a b : ByteArray) : (a ++ b).data.toList = a.data.toList ++ b.data.toList := by simp

theorem xor_one_all : ∀ n : Fin 256, bits BinOp.xor IntKind.u8 (n.val : Int) 1 = ((UInt8.ofNat n.val ^^^ 1).toNat : Int) ∧ (UInt8.ofNat n.val ^^^ 1).toNat ≠ n.val := by decide +kernel

theorem xor_one (c : UInt8) : bits BinOp.xor IntKind.u8 (c.toNat : Int) 1 = ((c ^^^ 1).toNat : Int) ∧ (c ^^^ 1).toNat ≠ c.toNat := by
  have := xor_one_all ⟨c.toNat, c.toNat_lt⟩
  simp only [UInt8.ofNat_toNat] at this
  exact this

/-- the call, its answer known -/
theorem zz_val (t s : ByteArray) (b : Bool) (w : World) (ht : t.size ≤ 2097152) (hs : s.size ≤ 2097152) (hb : mt s.data.toList t.data.toList = b) :
    Calls Trym.prog 15 #[.string t, .string s] w fun e w' => e = .returned (.bool b) ∧ ∃ n, w' = w.drewN n := by
  subst hb
  exact zz_any t s w (by unfold maxLen; omega) (by unfold maxLen; omega)

theorem mt_cut_of (s X : ByteArray) (hXs : X.size = s.size) (h : 0 < s.size) : mt s.data.toList (X.extract 0 (s.size - 1)).data.toList = false := by
  apply mt_short
  have e : (X.extract 0 (s.size - 1)).size = s.size - 1 := by rw [ByteArray.size_extract]; omega
  rw [Array.length_toList, Array.length_toList]
  show (X.extract 0 (s.size - 1)).size < s.size
  omega

theorem spoil {w wr : World} (s X tl : ByteArray) (hXs : X.size = s.size) (hb : Buf w wr w.heap.size X.data.toList) (hne : 0 < s.size) (x : UInt8) (v : Int) (hv : v = (x.toNat : Int)) (hok : ok s[0] x = false) :
    ∃ Y : ByteArray, Y.size = s.size ∧ mt s.data.toList (Y ++ tl).data.toList = false ∧
      (∀ N, (convert 27 9 (.slice (some ⟨w.heap.size, 0, none⟩) s.size s.size)).run Trym.prog ((wr.drewN N).setCell ⟨w.heap.size, 0, none⟩ (.int .u8 v)) = .ok (.string Y) ((wr.drewN N).setCell ⟨w.heap.size, 0, none⟩ (.int .u8 v))) ∧
      ∀ N, Grown w ((wr.drewN N).setCell ⟨w.heap.size, 0, none⟩ (.int .u8 v)) := by
  have hXl : X.data.toList.length = s.size := by rw [Array.length_toList]; exact hXs
  refine ⟨⟨(X.data.toList.set 0 x).toArray⟩, ?_, ?_, fun N => ?_, fun N => ?_⟩
  · show (X.data.toList.set 0 x).toArray.size = _
    rw [List.size_toArray, List.length_set, hXl]
  · rw [data_append]
    apply mt_spoil _ _ (by rw [Array.length_toList]; exact hne) (by simp; omega)
    have e : ((X.data.toList.set 0 x).toArray.toList ++ tl.data.toList)[0]'(by simp; omega) = x := by
      rw [List.getElem_append_left (by simp; omega)]
      simp
    rw [show (({ data := (X.data.toList.set 0 x).toArray } : ByteArray).data.toList ++ tl.data.toList)[0]'(by simp; omega) = x from e]
    exact hok
  · have := ((hb.drewN N).set 0 (by omega) x v hv).str (P := Trym.prog) 27 9 5 s.size Trym.underlying27 Trym.underlying5 Trym.underlying9
    rw [List.length_set, hXl] at this
    exact this
  · exact ((hb.drewN N).set 0 (by omega) x v hv).2.2.1

set_option maxHeartbeats 1000000 in
theorem walk_main (s tl : ByteArray) (w : World) (h : s.size + tl.size ≤ 1048576) (h3 : ¬ (524288 : Int) < (s.size : Int)) (h4 : ¬ (524288 : Int) < (tl.size : Int)) :
    Calls Trym.prog 6 #[.string s, .string tl] w fun e w' => e = .returned (.bool true) ∧ Grown w w' := by
  have hmk := run_mk s.size (by omega)
  go_enter Trym.func6, Trym.ntmps6
  go_wp2_with (go_at_call 16; refine (bytes_yes _ _ _ h).mono ?_; rintro e w' ⟨rfl, rfl⟩)
  go_loopw [6, 7] (fun d i wr => ∃ k : Nat, k ≤ s.size ∧ i = .int .i64 k ∧ d = .bool (hasD (s.data.toList.take k)) ∧ Buf w wr w.heap.size (bufL s.data.toList k)) (fun _ i _ => s.size - (intOf i).toNat)
  case atStart => exact ⟨0, Nat.zero_le _, rfl, rfl, by rw [bufL_zero]; exact Buf.made w s.size 5⟩
  case round =>
    obtain ⟨k, hk, rfl, rfl, hbuf⟩ := hrel
    have hbl := bufL_length s.data.toList k (by simpa using hk)
    by_cases hlt : k < s.size
    · have hc := hbuf.1 k (by rw [hbl]; simpa using hlt)
      have hf := hbuf.2.1 k
      by_cases hd : ((s[k].toNat : Int) == 100) = true
      · go_wp2
        go_roundw
        case rel => exact ⟨k + 1, by omega, by go_num, by rw [hasD_yes s k hlt hd], buf_step s k hlt hbuf _ (ib_d k _ hd)⟩
        case measure => simp [intOf]; omega
      · have hd' : ((s[k].toNat : Int) == 100) = false := by simpa using hd
        go_wp2
        go_roundw
        case rel => exact ⟨k + 1, by omega, by go_num, by rw [hasD_no s k hlt hd'], buf_step s k hlt hbuf _ (ib_o k _ hd')⟩
        case measure => simp [intOf]; omega
    · have hk' : k = s.size := by omega
      subst hk'
      obtain ⟨X, hXs, hX0, hb, hcv⟩ := fin_buf s hbuf
      have hX : Hid (X.data.toList = inst 0 s.data.toList) := hX0
      clear hX0 hbl hlt hbuf
      have m1 : mt s.data.toList X.data.toList = true := by rw [hX.out]; exact mt_inst 0 _
      have m2 : mt s.data.toList (X ++ tl).data.toList = true := by rw [data_append]; exact mt_append _ _ _ m1
      have hD0 : hasD (List.take s.size s.data.toList) = hasD s.data.toList := by rw [List.take_of_length_le (by simp)]
      have m4 := mt_self s.data.toList
      cases hD : hasD s.data.toList
      all_goals
        rw [hD] at hD0 m4
        simp only [Bool.not_false, Bool.not_true] at m4
        go_wp2_with fail
        refine (zz_val X s true _ (by omega) (by omega) m1).mono ?_
        rintro e w1 ⟨rfl, n1, rfl⟩
        go_wp2_with fail
        refine (zz_val (X ++ tl) s true _ (by rw [ByteArray.size_append, hXs]; omega) (by omega) m2).mono ?_
        rintro e w1 ⟨rfl, n2, rfl⟩
        go_wp2_with fail
        refine (zz_val tl _ true _ (by omega) (by simp [ByteArray.size]) rfl).mono ?_
        rintro e w1 ⟨rfl, n3, rfl⟩
        go_wp2_with fail
        refine (zz_val s s _ _ (by omega) (by omega) m4).mono ?_
        rintro e w1 ⟨rfl, n4, rfl⟩
        by_cases hne : 0 < s.size
        · have hc0 := hb.1 0 (by rw [Array.length_toList]; show 0 < X.size; omega)
          have hf0 := hb.2.1 0
          have m5 := mt_cut_of s X hXs hne
          go_wp2_with fail
          refine (zz_val (X.extract 0 (s.size - 1)) s false _ (by rw [ByteArray.size_extract]; omega) (by omega) m5).mono ?_
          rintro e w1 ⟨rfl, n5, rfl⟩
          by_cases hd : ((s[0].toNat : Int) == 100) = true
          · obtain ⟨Y, hYs, m6, hcy, hgy⟩ := spoil s X tl hXs hb hne 120 120 rfl (ok_x _ _ (by simp at hd; omega) rfl)
            go_wp2_with fail
            refine (zz_val (Y ++ tl) s false _ (by rw [ByteArray.size_append, hYs]; omega) (by omega) m6).mono ?_
            rintro e w1 ⟨rfl, n6, rfl⟩
            go_wp2
            go_ret
            exact ⟨rfl, hgy _⟩
          · have hd' : ((s[0].toNat : Int) == 100) = false := by simpa using hd
            obtain ⟨Y, hYs, m6, hcy, hgy⟩ := spoil s X tl hXs hb hne (s[0] ^^^ 1) _ (xor_one s[0]).1 (ok_other _ _ (by simp at hd'; omega) (xor_one s[0]).2)
            go_wp2_with fail
            refine (zz_val (Y ++ tl) s false _ (by rw [ByteArray.size_append, hYs]; omega) (by omega) m6).mono ?_
            rintro e w1 ⟨rfl, n6, rfl⟩
            go_wp2
            go_ret
            exact ⟨rfl, hgy _⟩
        · go_wp2_with fail
          go_ret
          exact ⟨rfl, hb.2.2.1⟩

theorem walk (a0 a1 : ByteArray) (w0 : a0.size ≤ maxLen) (w1 : a1.size ≤ maxLen) (w : World) :
    Calls Trym.prog 6 #[.string a0, .string a1] w fun e w' => e = .returned (.bool true) ∧ Grown w w' := by
  by_cases h : a0.size + a1.size ≤ 1048576
  · by_cases h2 : (524288 : Int) < (a0.size : Int) ∨ (524288 : Int) < (a1.size : Int)
    · exact walk_long a0 a1 w h h2
    · exact walk_main a0 a1 w h (by omega) (by omega)
  · exact walk_big a0 a1 w0 w1 w h

end Go.Proofs.Qxb6603084aMods.Shape
