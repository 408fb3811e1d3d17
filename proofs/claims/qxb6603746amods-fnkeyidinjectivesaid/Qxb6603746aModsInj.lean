import Derived.Test.Qxb6603746aModsOrder
import Derived.Deep.DeepCutAuto
namespace Go.Proofs.Qxb6603746aMods.K
open Go.RowKit
set_option linter.unusedSimpArgs false
set_option linter.unusedVariables false
set_option linter.unnecessarySimpa false

theorem bytes9_yes (S T : List UInt8) (a b : ByteArray) (w : World) (h : a.size + b.size ≤ 1048576) :
    Calls Trym.prog 9 #[.agg (scA S), .string a, .agg (scA T), .string b] w fun e w' => e = .returned (.bool true) ∧ (w.alloc (.cells (scA S) 22)).alloc (.cells (scA T) 22) = w' := by
  go_enter Trym.func9, Trym.ntmps9
  go_wp2
  go_ret
  exact ⟨rfl, rfl⟩

theorem bytes9_no (S T : List UInt8) (a b : ByteArray) (w : World) (ha : a.size ≤ maxLen) (hb : b.size ≤ maxLen) (h : ¬ a.size + b.size ≤ 1048576) :
    Calls Trym.prog 9 #[.agg (scA S), .string a, .agg (scA T), .string b] w fun e w' => e = .returned (.bool false) ∧ (w.alloc (.cells (scA S) 22)).alloc (.cells (scA T) 22) = w' := by
  unfold maxLen at ha hb
  by_cases h1 : (1048576 : Int) < (a.size : Int)
  · go_enter Trym.func9, Trym.ntmps9
    go_wp2
    go_ret
    exact ⟨rfl, rfl⟩
  · by_cases h2 : (1048576 : Int) < (b.size : Int)
    · go_enter Trym.func9, Trym.ntmps9
      go_wp2
      go_ret
      exact ⟨rfl, rfl⟩
    · go_enter Trym.func9, Trym.ntmps9
      go_wp2
      go_ret
      exact ⟨rfl, rfl⟩

theorem range_two (w : World) (S T : List UInt8) : ((w.alloc (.cells (scA S) 22)).alloc (.cells (scA T) 22)).rangeAt w.heap.size 0 (sc S) ∧ ((w.alloc (.cells (scA S) 22)).alloc (.cells (scA T) 22)).rangeAt (w.heap.size + 1) 0 (sc T) := by
  refine ⟨World.rangeAt_alloc (range_new w S 22) _, ?_⟩
  have := range_new (w.alloc (.cells (scA S) 22)) T 22
  rw [show (w.alloc (.cells (scA S) 22)).heap.size = w.heap.size + 1 from by simp] at this
  exact this

theorem below_four (w : World) (a b c d : Obj) : Below w.heap.size w ((((w.alloc a).alloc b).alloc c).alloc d) := (below_three w a b c).alloc (by simp; omega) _
theorem below_five (w : World) (a b c d e : Obj) : Below w.heap.size w (((((w.alloc a).alloc b).alloc c).alloc d).alloc e) := (below_four w a b c d).alloc (by simp; omega) _

theorem inj_big (S : List UInt8) (hS : S.length = 32) (a : ByteArray) (ha : a.size ≤ maxLen) (T : List UInt8) (hT : T.length = 32) (b : ByteArray) (hb : b.size ≤ maxLen) (w : World) (h : ¬ a.size + b.size ≤ 1048576) :
    Calls Trym.prog 4 #[.agg (scA S), .string a, .agg (scA T), .string b] w fun e w' => e = .returned (.bool true) ∧ Below w.heap.size w w' := by
  obtain ⟨r1, r2⟩ := range_two w S T
  go_enter Trym.func4, Trym.ntmps4
  go_wp2_with (first
    | (refine load22 rfl _ rfl w.heap.size rfl S hS (by first | exact r1) ?_)
    | (refine load22 rfl _ rfl (w.heap.size + 1) rfl T hT (by first | exact r2) ?_)
    | (go_at_call 9; refine (bytes9_no S T a b _ ha hb h).mono ?_; rintro e w' ⟨rfl, rfl⟩))
  go_ret
  exact ⟨rfl, below_four _ _ _ _ _⟩

theorem inj_long (S : List UInt8) (hS : S.length = 32) (a : ByteArray) (T : List UInt8) (hT : T.length = 32) (b : ByteArray) (w : World) (h : a.size + b.size ≤ 1048576)
    (h2 : (65536 : Int) < (a.size : Int) ∨ (¬ (65536 : Int) < (a.size : Int) ∧ (65536 : Int) < (b.size : Int))) :
    Calls Trym.prog 4 #[.agg (scA S), .string a, .agg (scA T), .string b] w fun e w' => e = .returned (.bool true) ∧ Below w.heap.size w w' := by
  obtain ⟨r1, r2⟩ := range_two w S T
  rcases h2 with h2 | ⟨h2, h3⟩
  all_goals
    go_enter Trym.func4, Trym.ntmps4
    go_wp2_with (first
      | (refine load22 rfl _ rfl w.heap.size rfl S hS (by first | exact r1) ?_)
      | (refine load22 rfl _ rfl (w.heap.size + 1) rfl T hT (by first | exact r2) ?_)
      | (go_at_call 9; refine (bytes9_yes S T a b _ h).mono ?_; rintro e w' ⟨rfl, rfl⟩))
    go_ret
    exact ⟨rfl, below_four _ _ _ _ _⟩

/-- is the key one that the law leaves out? -/
def skip (S : List UInt8) (a : ByteArray) : Bool := decide (S = zeros) && (if h : 0 < a.size then a[0].toNat == 0 else false)

theorem skip_t (S : List UInt8) (a : ByteArray) (hz : S = zeros) (h0 : 0 < a.size) (he : ((a[0].toNat : Int) == 0) = true) : skip S a = true := by
  unfold skip
  rw [dif_pos h0]
  simp at he
  simp [hz]
  omega

theorem skip_f (S : List UInt8) (a : ByteArray) (h : (¬ S = zeros ∨ ¬ 0 < a.size) ∨ (∃ h0 : 0 < a.size, ((a[0].toNat : Int) == 0) = false)) : skip S a = false := by
  unfold skip
  rcases h with (h | h) | ⟨h0, h⟩
  · simp [h]
  · rw [dif_neg h]; simp
  · rw [dif_pos h0]
    simp at h
    simp
    intro _
    omega

theorem key_inj (S : List UInt8) (hS : S.length = 32) (a : ByteArray) (T : List UInt8) (hT : T.length = 32) (b : ByteArray) (h1 : skip S a = false) (h2 : skip T b = false) (h : keyId S a = keyId T b) : S = T ∧ a = b := by
  have back : ∀ x y : ByteArray, x.data.toList = y.data.toList → x = y := fun x y e => by
    rw [← str_back x, ← str_back y, e]
  have bad : ∀ (U : List UInt8) (x : ByteArray) (l : List UInt8), U = zeros → x.data.toList = 0 :: l → skip U x = false → False := fun U x l hU e hk => by
    have hx : 0 < x.size := by rw [← size_list, e]; simp
    have : x[0] = 0 := by
      have : x.data.toList[0]'(by rw [size_list]; exact hx) = 0 := by simp only [e, List.getElem_cons_zero]
      exact this
    rw [skip_t U x hU hx (by rw [this]; rfl)] at hk
    cases hk
  by_cases hz : S = zeros
  · by_cases hz2 : T = zeros
    · rw [keyId_zero S a hz, keyId_zero T b hz2] at h
      exact ⟨hz.trans hz2.symm, back _ _ h⟩
    · rw [keyId_zero S a hz, keyId_other T b hz2] at h
      exact (bad S a _ hz h h1).elim
  · by_cases hz2 : T = zeros
    · rw [keyId_other S a hz, keyId_zero T b hz2] at h
      exact (bad T b _ hz2 h.symm h2).elim
    · rw [keyId_other S a hz, keyId_other T b hz2] at h
      simp only [List.cons.injEq, true_and] at h
      obtain ⟨e1, e2⟩ := List.append_inj h (hS.trans hT.symm)
      exact ⟨e1, back _ _ e2⟩

theorem cmp_val (g1 c1 g2 c2 : Nat) (L M : List UInt8) (w : World) (hl : L.length ≤ 1048576) (hm : M.length ≤ 1048576)
    (hL : ∀ j (hj : j < L.length), w.cell? ⟨g1, j, none⟩ = some (.int .u8 (L[j].toNat : Int))) (hM : ∀ j (hj : j < M.length), w.cell? ⟨g2, j, none⟩ = some (.int .u8 (M[j].toNat : Int))) (r : Int) (hr : Hid (cmpL L M = r)) :
    Calls Trym.prog 10 #[.slice (some ⟨g1, 0, none⟩) L.length c1, .slice (some ⟨g2, 0, none⟩) M.length c2] w fun e w' => e = .returned (.int .i64 r) ∧ ∃ n, w' = w.drewN n := by
  rw [← hr.out]
  exact cmp_any g1 c1 g2 c2 _ _ L M w rfl rfl hl hm hL hM

theorem cmp_quiet (g1 c1 g2 c2 : Nat) (L M : List UInt8) (w : World) (n : Nat) (hl : L.length ≤ 1048576) (hm : M.length ≤ 1048576)
    (hL : ∀ j (hj : j < L.length), w.cell? ⟨g1, j, none⟩ = some (.int .u8 (L[j].toNat : Int))) (hM : ∀ j (hj : j < M.length), w.cell? ⟨g2, j, none⟩ = some (.int .u8 (M[j].toNat : Int))) (r : Int) (hr : Hid (cmpL L M = r)) :
    Calls Trym.prog 10 #[.slice (some ⟨g1, 0, none⟩) L.length c1, .slice (some ⟨g2, 0, none⟩) M.length c2] (w.drewN n) fun e w' => e = .returned (.int .i64 r) ∧ ∃ m, w' = w.drewN m :=
  Calls.quiet_of (cmp_val g1 c1 g2 c2 L M (w.drewN n) hl hm hL hM r hr)

theorem quiet_load22 {ops : Array Oper} {C : World → Prop} {Q : Act → Prop} {a : Act} {o : Oper} {rest : List Oper} (hw : Region.wanted o (yielded ops a.tmps) = true) (x : Operand) (ho : o.op = .load 22 x)
    (b : Nat) (hx : a.eval x = .pointer (some ⟨b, 0, none⟩)) (S : List UInt8) (hS : S.length = 32) (hC : ∀ w, C w → w.rangeAt b 0 (sc S))
    (h : wpQuiet Trym.prog ops C Q rest (a.put o.dst (.agg (scA S)))) : wpQuiet Trym.prog ops C Q (o :: rest) a := by
  refine wpQuiet_step fun K hK => ?_
  rw [if_pos hw]
  refine ⟨.agg (scA S), fun w hw' => ?_, hK _ h⟩
  unfold Oper.quietAt execOp
  simp only [ho, hx, Instr.loadAt, Instr.sureAddr, Sem.run_bind, Sem.run_pure, Result.andThen_ok, run_loadVar_mid w b 0 22 (sc S) _ (hC w hw') Trym.underlying22 rfl (by rw [sc_length, hS]; exact size22)]
  exact ⟨rfl, rfl⟩

set_option maxHeartbeats 4000000 in
theorem inj_main (S : List UInt8) (hS : S.length = 32) (a : ByteArray) (T : List UInt8) (hT : T.length = 32) (b : ByteArray) (w : World) (ha : a.size ≤ 65536) (hb : b.size ≤ 65536) :
    Calls Trym.prog 4 #[.agg (scA S), .string a, .agg (scA T), .string b] w fun e w' => e = .returned (.bool true) ∧ Below w.heap.size w w' := by
  obtain ⟨r1, r2⟩ := range_two w S T
  have q1 := World.rangeAt_alloc (World.rangeAt_alloc (World.rangeAt_alloc r1 (.cells (scA S) 22)) (.cells (scA T) 22)) (.cells #[.int .u8 0, .int .u8 0, .int .u8 0, .int .u8 0, .int .u8 0, .int .u8 0, .int .u8 0, .int .u8 0, .int .u8 0, .int .u8 0, .int .u8 0, .int .u8 0, .int .u8 0, .int .u8 0, .int .u8 0, .int .u8 0, .int .u8 0, .int .u8 0, .int .u8 0, .int .u8 0, .int .u8 0, .int .u8 0, .int .u8 0, .int .u8 0, .int .u8 0, .int .u8 0, .int .u8 0, .int .u8 0, .int .u8 0, .int .u8 0, .int .u8 0, .int .u8 0] 22)
  have q2 := World.rangeAt_alloc (World.rangeAt_alloc (World.rangeAt_alloc r2 (.cells (scA S) 22)) (.cells (scA T) 22)) (.cells #[.int .u8 0, .int .u8 0, .int .u8 0, .int .u8 0, .int .u8 0, .int .u8 0, .int .u8 0, .int .u8 0, .int .u8 0, .int .u8 0, .int .u8 0, .int .u8 0, .int .u8 0, .int .u8 0, .int .u8 0, .int .u8 0, .int .u8 0, .int .u8 0, .int .u8 0, .int .u8 0, .int .u8 0, .int .u8 0, .int .u8 0, .int .u8 0, .int .u8 0, .int .u8 0, .int .u8 0, .int .u8 0, .int .u8 0, .int .u8 0, .int .u8 0, .int .u8 0] 22)
  have q0 := range_lit ((((w.alloc (.cells (scA S) 22)).alloc (.cells (scA T) 22)).alloc (.cells (scA S) 22)).alloc (.cells (scA T) 22)) (w.heap.size + 1 + 1 + 1 + 1) (by simp)
  have hb5 := below_five w (.cells (scA S) 22) (.cells (scA T) 22) (.cells (scA S) 22) (.cells (scA T) 22) (.cells #[.int .u8 0, .int .u8 0, .int .u8 0, .int .u8 0, .int .u8 0, .int .u8 0, .int .u8 0, .int .u8 0, .int .u8 0, .int .u8 0, .int .u8 0, .int .u8 0, .int .u8 0, .int .u8 0, .int .u8 0, .int .u8 0, .int .u8 0, .int .u8 0, .int .u8 0, .int .u8 0, .int .u8 0, .int .u8 0, .int .u8 0, .int .u8 0, .int .u8 0, .int .u8 0, .int .u8 0, .int .u8 0, .int .u8 0, .int .u8 0, .int .u8 0, .int .u8 0] 22)
  go_enter Trym.func4, Trym.ntmps4
  go_upto_region 8 with (first
    | (refine load22 rfl _ rfl w.heap.size rfl S hS (by first | exact r1) ?_)
    | (refine load22 rfl _ rfl (w.heap.size + 1) rfl T hT (by first | exact r2) ?_)
    | (go_at_call 9; refine (bytes9_yes S T a b _ (by omega)).mono ?_; rintro e w' ⟨rfl, rfl⟩))
  generalize ((((w.alloc (.cells (scA S) 22)).alloc (.cells (scA T) 22)).alloc (.cells (scA S) 22)).alloc (.cells (scA T) 22)).alloc (.cells #[.int .u8 0, .int .u8 0, .int .u8 0, .int .u8 0, .int .u8 0, .int .u8 0, .int .u8 0, .int .u8 0, .int .u8 0, .int .u8 0, .int .u8 0, .int .u8 0, .int .u8 0, .int .u8 0, .int .u8 0, .int .u8 0, .int .u8 0, .int .u8 0, .int .u8 0, .int .u8 0, .int .u8 0, .int .u8 0, .int .u8 0, .int .u8 0, .int .u8 0, .int .u8 0, .int .u8 0, .int .u8 0, .int .u8 0, .int .u8 0, .int .u8 0, .int .u8 0] 22) = W at q0 q1 q2 hb5 ⊢
  clear r1 r2
  go_cut [36] (fun v wc => v = .bool (skip S a) ∧ W = wc)
  case first =>
    by_cases hz : S = zeros
    · have hq := eq_yes S zeros hS zeros_length hz
      by_cases h0 : 0 < a.size
      · cases he : ((a[0].toNat : Int) == 0)
        · have hk : Hid (skip S a = false) := skip_f S a (.inr ⟨h0, he⟩)
          clear hz
          go_wp2_with (first
            | (refine load22 rfl _ rfl (w.heap.size) rfl S hS (by exact q1) ?_)
            | (refine load22 rfl _ rfl (w.heap.size + 1 + 1 + 1 + 1) rfl zeros zeros_length (by exact q0) ?_))
          go_meet
          case rel => exact ⟨by rw [hk.out], rfl⟩
        · have hk : Hid (skip S a = true) := skip_t S a hz h0 he
          clear hz
          go_wp2_with (first
            | (refine load22 rfl _ rfl (w.heap.size) rfl S hS (by exact q1) ?_)
            | (refine load22 rfl _ rfl (w.heap.size + 1 + 1 + 1 + 1) rfl zeros zeros_length (by exact q0) ?_))
          go_meet
          case rel => exact ⟨by rw [hk.out], rfl⟩
      · have hk : Hid (skip S a = false) := skip_f S a (.inl (.inr h0))
        clear hz
        go_wp2_with (first
          | (refine load22 rfl _ rfl (w.heap.size) rfl S hS (by exact q1) ?_)
          | (refine load22 rfl _ rfl (w.heap.size + 1 + 1 + 1 + 1) rfl zeros zeros_length (by exact q0) ?_))
        go_meet
        case rel => exact ⟨by rw [hk.out], rfl⟩
    · have hq := eq_no S zeros hS zeros_length hz
      have hk : Hid (skip S a = false) := skip_f S a (.inl (.inl hz))
      clear hz
      go_wp2_with (first
        | (refine load22 rfl _ rfl (w.heap.size) rfl S hS (by exact q1) ?_)
        | (refine load22 rfl _ rfl (w.heap.size + 1 + 1 + 1 + 1) rfl zeros zeros_length (by exact q0) ?_))
      go_meet
      case rel => exact ⟨by rw [hk.out], rfl⟩
  case rest =>
    obtain ⟨hv, hw⟩ := hcut
    subst hv
    subst hw
    cases hk1 : skip S a
    · go_upto_region 10 with fail
      go_cut [49] (fun v wc => v = .bool (skip T b) ∧ W = wc)
      case first =>
        by_cases hz : T = zeros
        · have hq := eq_yes T zeros hT zeros_length hz
          by_cases h0 : 0 < b.size
          · cases he : ((b[0].toNat : Int) == 0)
            · have hk : Hid (skip T b = false) := skip_f T b (.inr ⟨h0, he⟩)
              clear hz
              go_wp2_with (first
                | (refine load22 rfl _ rfl (w.heap.size + 1) rfl T hT (by exact q2) ?_)
                | (refine load22 rfl _ rfl (w.heap.size + 1 + 1 + 1 + 1) rfl zeros zeros_length (by exact q0) ?_))
              go_meet
              case rel => exact ⟨by rw [hk.out], rfl⟩
            · have hk : Hid (skip T b = true) := skip_t T b hz h0 he
              clear hz
              go_wp2_with (first
                | (refine load22 rfl _ rfl (w.heap.size + 1) rfl T hT (by exact q2) ?_)
                | (refine load22 rfl _ rfl (w.heap.size + 1 + 1 + 1 + 1) rfl zeros zeros_length (by exact q0) ?_))
              go_meet
              case rel => exact ⟨by rw [hk.out], rfl⟩
          · have hk : Hid (skip T b = false) := skip_f T b (.inl (.inr h0))
            clear hz
            go_wp2_with (first
              | (refine load22 rfl _ rfl (w.heap.size + 1) rfl T hT (by exact q2) ?_)
              | (refine load22 rfl _ rfl (w.heap.size + 1 + 1 + 1 + 1) rfl zeros zeros_length (by exact q0) ?_))
            go_meet
            case rel => exact ⟨by rw [hk.out], rfl⟩
        · have hq := eq_no T zeros hT zeros_length hz
          have hk : Hid (skip T b = false) := skip_f T b (.inl (.inl hz))
          clear hz
          go_wp2_with (first
            | (refine load22 rfl _ rfl (w.heap.size + 1) rfl T hT (by exact q2) ?_)
            | (refine load22 rfl _ rfl (w.heap.size + 1 + 1 + 1 + 1) rfl zeros zeros_length (by exact q0) ?_))
          go_meet
          case rel => exact ⟨by rw [hk.out], rfl⟩
      case rest =>
        obtain ⟨hv, hw⟩ := hcut
        subst hv
        subst hw
        cases hk2 : skip T b
        · have hinj := key_inj S hS a T hT b hk1 hk2
          have la := keyId_len S hS a ha
          have lb := keyId_len T hT b hb
          have HI : Hid (keyId S a = keyId T b → S = T ∧ a = b) := hinj
          clear hinj
          go_upto_region 14 with (first
            | (refine load22 rfl _ rfl w.heap.size rfl S hS (by first | exact q1) ?_)
            | (refine load22 rfl _ rfl (w.heap.size + 1) rfl T hT (by first | exact p2) ?_)
            | (go_at_call_of 7 (Value.string a); refine (zz_any S hS a _ ha).mono ?_; rintro e w4 ⟨g1, cap1, rfl, hrow1⟩; have p1 := range_below q1 hrow1.2.2.2; have p2 := range_below q2 hrow1.2.2.2)
            | (go_at_call_of 7 (Value.string b); refine (zz_any T hT b _ hb).mono ?_; rintro e w5 ⟨g2, cap2, rfl, hrow2⟩; have rS := range_below p1 hrow2.2.2.2; have rT := range_below p2 hrow2.2.2.2; have c1 : Hid (∀ j (hj : j < (keyId S a).length), w5.cell? ⟨g1, j, none⟩ = some (.int .u8 ((keyId S a)[j].toNat : Int))) := row_below hrow1 hrow2.2.2.2))
          have hfin : Hid (∀ n, Below w.heap.size w (w5.drewN n)) := fun n => below_fin hb5 hrow1.2.2.2 hrow2.2.2.2 n
          have c2 : Hid (∀ j (hj : j < (keyId T b).length), w5.cell? ⟨g2, j, none⟩ = some (.int .u8 ((keyId T b)[j].toNat : Int))) := hrow2.2.2.1
          have hu := Trym.underlying22
          have hi1 : (Trym.prog.info? 22).map (·.size) = some (sc S).length := by rw [sc_length, hS]; exact size22
          have hi2 : (Trym.prog.info? 22).map (·.size) = some (sc T).length := by rw [sc_length, hT]; exact size22
          clear hrow1 hrow2 hb5 q0 q1 q2 p1 p2
          by_cases hst : S = T
          · have hq := eq_yes S T hS hT hst
            by_cases hab : a = b
            · have hse : (a.toList == b.toList) = true := by rw [hab]; simp
              obtain ⟨r, hr0⟩ : ∃ r, cmpL (keyId S a) (keyId T b) = r := ⟨_, rfl⟩
              have HR : Hid (cmpL (keyId S a) (keyId T b) = r) := hr0
              have hr : (r == 0) = true := by rw [← hr0, hst, hab, cmpL_self]; rfl
              clear hr0 hab hst
              refine wp_region_quiet_lit (by kernel_rfl) (by kernel_rfl) ?_
              iterate 4 go_big_quiet_step ((go_at_call 10; exact cmp_quiet g1 cap1 g2 cap2 (keyId S a) (keyId T b) w5 _ la lb c1.out c2.out r HR))
              refine quiet_load22 rfl _ rfl w.heap.size rfl S hS (fun w' h' => by obtain ⟨n, rfl⟩ := h'; exact rS) ?_
              simp only [Act.put, List.setIfInBounds_toArray, List.set_cons_zero, List.set_cons_succ]
              refine quiet_load22 rfl _ rfl (w.heap.size + 1) rfl T hT (fun w' h' => by obtain ⟨n, rfl⟩ := h'; exact rT) ?_
              simp only [Act.put, List.setIfInBounds_toArray, List.set_cons_zero, List.set_cons_succ]
              repeat (go_big_quiet_step (fail))
              refine wpQuiet_nil ?_
              intro _ hw'
              obtain ⟨nq, hw''⟩ := hw'
              subst hw''
              go_wp2
              go_ret
              exact ⟨rfl, hfin.out _⟩
            · have hse : (a.toList == b.toList) = false := by
                simp only [beq_eq_false_iff_ne, ne_eq]
                intro e
                rw [ByteArray.toList_eq, ByteArray.toList_eq] at e
                exact hab (by rw [← str_back a, ← str_back b, e])
              obtain ⟨r, hr0⟩ : ∃ r, cmpL (keyId S a) (keyId T b) = r := ⟨_, rfl⟩
              have HR : Hid (cmpL (keyId S a) (keyId T b) = r) := hr0
              have hr : (r == 0) = false := by
                simp only [beq_eq_false_iff_ne, ne_eq]
                exact fun e => hab (HI.out (cmpL_zero _ _ (hr0.trans e))).2
              clear hr0 hab hst
              refine wp_region_quiet_lit (by kernel_rfl) (by kernel_rfl) ?_
              iterate 4 go_big_quiet_step ((go_at_call 10; exact cmp_quiet g1 cap1 g2 cap2 (keyId S a) (keyId T b) w5 _ la lb c1.out c2.out r HR))
              refine quiet_load22 rfl _ rfl w.heap.size rfl S hS (fun w' h' => by obtain ⟨n, rfl⟩ := h'; exact rS) ?_
              simp only [Act.put, List.setIfInBounds_toArray, List.set_cons_zero, List.set_cons_succ]
              refine quiet_load22 rfl _ rfl (w.heap.size + 1) rfl T hT (fun w' h' => by obtain ⟨n, rfl⟩ := h'; exact rT) ?_
              simp only [Act.put, List.setIfInBounds_toArray, List.set_cons_zero, List.set_cons_succ]
              repeat (go_big_quiet_step (fail))
              refine wpQuiet_nil ?_
              intro _ hw'
              obtain ⟨nq, hw''⟩ := hw'
              subst hw''
              go_wp2
              go_ret
              exact ⟨rfl, hfin.out _⟩
          · have hq := eq_no S T hS hT hst
            have hr : (cmpL (keyId S a) (keyId T b) == 0) = false := by
              simp only [beq_eq_false_iff_ne, ne_eq]
              exact fun e => hst (HI.out (cmpL_zero _ _ e)).1
            obtain ⟨r, hr0⟩ : ∃ r, cmpL (keyId S a) (keyId T b) = r := ⟨_, rfl⟩
            have HR : Hid (cmpL (keyId S a) (keyId T b) = r) := hr0
            rw [hr0] at hr
            clear hr0
            refine wp_region_quiet_lit (by kernel_rfl) (by kernel_rfl) ?_
            iterate 4 go_big_quiet_step ((go_at_call 10; exact cmp_quiet g1 cap1 g2 cap2 (keyId S a) (keyId T b) w5 _ la lb c1.out c2.out r HR))
            refine quiet_load22 rfl _ rfl w.heap.size rfl S hS (fun w' h' => by obtain ⟨n, rfl⟩ := h'; exact rS) ?_
            simp only [Act.put, List.setIfInBounds_toArray, List.set_cons_zero, List.set_cons_succ]
            refine quiet_load22 rfl _ rfl (w.heap.size + 1) rfl T hT (fun w' h' => by obtain ⟨n, rfl⟩ := h'; exact rT) ?_
            simp only [Act.put, List.setIfInBounds_toArray, List.set_cons_zero, List.set_cons_succ]
            repeat (go_big_quiet_step (fail))
            refine wpQuiet_nil ?_
            intro _ hw'
            obtain ⟨nq, hw''⟩ := hw'
            subst hw''
            go_wp2
            go_ret
            exact ⟨rfl, hfin.out _⟩
        · go_wp2
          go_ret
          exact ⟨rfl, hb5⟩
    · go_wp2
      go_ret
      exact ⟨rfl, hb5⟩

theorem inj_walk (S : List UInt8) (hS : S.length = 32) (a : ByteArray) (ha : a.size ≤ maxLen) (T : List UInt8) (hT : T.length = 32) (b : ByteArray) (hb : b.size ≤ maxLen) (w : World) :
    Calls Trym.prog 4 #[.agg (scA S), .string a, .agg (scA T), .string b] w fun e w' => e = .returned (.bool true) ∧ Below w.heap.size w w' := by
  by_cases h : a.size + b.size ≤ 1048576
  · by_cases h1 : (65536 : Int) < (a.size : Int)
    · exact inj_long S hS a T hT b w h (.inl h1)
    · by_cases h2 : (65536 : Int) < (b.size : Int)
      · exact inj_long S hS a T hT b w h (.inr ⟨h1, h2⟩)
      · exact inj_main S hS a T hT b w (by omega) (by omega)
  · exact inj_big S hS a ha T hT b hb w h

end Go.Proofs.Qxb6603746aMods.K
