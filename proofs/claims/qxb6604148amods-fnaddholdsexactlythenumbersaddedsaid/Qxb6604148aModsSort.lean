import Derived.Test.Qxb6604148aModsBlk
import Derived.Test.Qxb6604148aModsPlain2
import Derived.Deep.DeepCutAuto
import Derived.Deep.CutBlock
namespace Go.Proofs.Qxb6604148aMods.A
open Go.RowKit
open Go.Proofs.Qxb6604148aMods.P
set_option linter.unusedSimpArgs false
set_option linter.unusedVariables false

/-- what stands at the head of each pass -/
def R1 (w : World) (n : Nat) (N : List Int) (src dst wid : Value) (wr : World) : Prop :=
  ∃ (wd gs gd : Nat) (X Y : List Int), wid = .int .i64 (wd : Int) ∧ src = .slice (some ⟨gs, 0, none⟩) n n ∧ dst = .slice (some ⟨gd, 0, none⟩) n n ∧ gs ≠ gd ∧ w.heap.size ≤ gs ∧ w.heap.size ≤ gd ∧ Blk wr gs X ∧ Blk wr gd Y ∧
    X.length = n ∧ Y.length = n ∧ 1 ≤ wd ∧ wd ≤ 131072 ∧ Bs wd X ∧ (∀ x, x ∈ X ↔ x ∈ N) ∧ Below w.heap.size w wr

/-- what stands at the head of each merge -/
def R2 (w : World) (n wd gs gd : Nat) (X : List Int) (lov : Value) (wr : World) : Prop :=
  ∃ (lo : Nat) (Y : List Int), lov = .int .i64 (lo : Int) ∧ lo ≤ 400000 ∧ Blk wr gs X ∧ Blk wr gd Y ∧ Y.length = n ∧ Y.take lo ++ run wd (X.drop lo) = run wd X ∧ Below w.heap.size w wr

/-- what stands at the head of each step of a merge -/
def R3 (w : World) (n gs gd lo mid hi : Nat) (X T : List Int) (iv jv kv : Value) (wr : World) : Prop :=
  ∃ (i j k : Nat) (Y : List Int), iv = .int .i64 (i : Int) ∧ jv = .int .i64 (j : Int) ∧ kv = .int .i64 (k : Int) ∧ lo ≤ i ∧ i ≤ mid ∧ mid ≤ j ∧ j ≤ hi ∧ k + mid = i + j ∧ Blk wr gs X ∧ Blk wr gd Y ∧ Y.length = n ∧
    Y.take k ++ List.merge ((X.take mid).drop i) ((X.take hi).drop j) le = T ∧ Below w.heap.size w wr

theorem drop_take (X : List Int) (m i : Nat) (hi : i < m) (hm : m ≤ X.length) : (X.take m).drop i = X[i] :: (X.take m).drop (i + 1) := by
  rw [List.drop_eq_getElem_cons (by simp; omega), List.getElem_take]
theorem drop_end (X : List Int) (m i : Nat) (hi : m ≤ i) : (X.take m).drop i = [] := List.drop_of_length_le (by simp; omega)

theorem mA (X : List Int) (mid hi i j : Nat) (h1 : i < mid) (hm : mid ≤ X.length) (h2 : hi ≤ j) :
    List.merge ((X.take mid).drop i) ((X.take hi).drop j) le = X[i] :: List.merge ((X.take mid).drop (i + 1)) ((X.take hi).drop j) le := by
  rw [drop_end X hi j h2, List.merge_right, List.merge_right, drop_take X mid i h1 hm]
theorem mB (X : List Int) (mid hi i j : Nat) (h1 : i < mid) (hm : mid ≤ X.length) (h2 : j < hi) (hh : hi ≤ X.length) (h : X[i] ≤ X[j]) :
    List.merge ((X.take mid).drop i) ((X.take hi).drop j) le = X[i] :: List.merge ((X.take mid).drop (i + 1)) ((X.take hi).drop j) le := by
  rw [drop_take X mid i h1 hm, drop_take X hi j h2 hh, List.cons_merge_cons_pos _ _ _ (by simpa [le] using h)]
theorem mC (X : List Int) (mid hi i j : Nat) (h1 : i < mid) (hm : mid ≤ X.length) (h2 : j < hi) (hh : hi ≤ X.length) (h : ¬ X[i] ≤ X[j]) :
    List.merge ((X.take mid).drop i) ((X.take hi).drop j) le = X[j] :: List.merge ((X.take mid).drop i) ((X.take hi).drop (j + 1)) le := by
  rw [drop_take X mid i h1 hm, drop_take X hi j h2 hh, List.cons_merge_cons_neg _ _ _ (by simpa [le] using h)]
theorem mD (X : List Int) (mid hi i j : Nat) (h1 : mid ≤ i) (h2 : j < hi) (hh : hi ≤ X.length) :
    List.merge ((X.take mid).drop i) ((X.take hi).drop j) le = X[j] :: List.merge ((X.take mid).drop i) ((X.take hi).drop (j + 1)) le := by
  rw [drop_end X mid i h1, List.nil_merge, List.nil_merge, drop_take X hi j h2 hh]

theorem stepY (Y M T : List Int) (k : Nat) (v : Int) (hk : k < Y.length) (h : Y.take k ++ (v :: M) = T) : (Y.set k v).take (k + 1) ++ M = T := by
  rw [← h, List.take_succ_eq_append_getElem (by simpa using hk), List.getElem_set_self, List.take_set_of_le (Nat.le_refl _)]
  simp

theorem bel_drewN {B : Nat} {a w : World} (h : Below B a w) (n : Nat) : Below B a (w.drewN n) := h.trans ⟨rfl, rfl, rfl, Nat.le_refl _, fun _ _ => rfl⟩

theorem r3_left {w wr : World} {n gs gd lo mid hi : Nat} {X T Y : List Int} {i j k : Nat} (nq : Nat) (hne : gs ≠ gd) (hgd : w.heap.size ≤ gd) (hi1 : lo ≤ i) (h1 : i < mid) (hm : mid ≤ X.length) (hj1 : mid ≤ j) (hj2 : j ≤ hi) (hk2 : k + mid = i + j) (hkn : k < n)
    (hX : Blk wr gs X) (hY : Blk wr gd Y) (hYl : Y.length = n) (hbw : Below w.heap.size w wr)
    (hM : Y.take k ++ (X[i]'(by omega) :: List.merge ((X.take mid).drop (i + 1)) ((X.take hi).drop j) le) = T) :
    R3 w n gs gd lo mid hi X T (.int .i64 ((i : Int) + 1)) (.int .i64 (j : Int)) (.int .i64 ((k : Int) + 1)) ((wr.drewN nq).setCell ⟨gd, k, none⟩ (.int .i64 (X[i]'(by omega)))) :=
  ⟨i + 1, j, k + 1, Y.set k (X[i]'(by omega)), by go_num, rfl, by go_num, by omega, by omega, hj1, hj2, by omega, (hX.drewN nq).other _ _ hne, (hY.drewN nq).set k _, by simpa using hYl, stepY Y _ T k _ (by omega) hM, (bel_drewN hbw nq).setCell hgd _⟩

theorem r3_right {w wr : World} {n gs gd lo mid hi : Nat} {X T Y : List Int} {i j k : Nat} (nq : Nat) (hne : gs ≠ gd) (hgd : w.heap.size ≤ gd) (hi1 : lo ≤ i) (hi2 : i ≤ mid) (hj1 : mid ≤ j) (h2 : j < hi) (hh : hi ≤ X.length) (hk2 : k + mid = i + j) (hkn : k < n)
    (hX : Blk wr gs X) (hY : Blk wr gd Y) (hYl : Y.length = n) (hbw : Below w.heap.size w wr)
    (hM : Y.take k ++ (X[j]'(by omega) :: List.merge ((X.take mid).drop i) ((X.take hi).drop (j + 1)) le) = T) :
    R3 w n gs gd lo mid hi X T (.int .i64 (i : Int)) (.int .i64 ((j : Int) + 1)) (.int .i64 ((k : Int) + 1)) ((wr.drewN nq).setCell ⟨gd, k, none⟩ (.int .i64 (X[j]'(by omega)))) :=
  ⟨i, j + 1, k + 1, Y.set k (X[j]'(by omega)), rfl, by go_num, by go_num, hi1, hi2, by omega, by omega, by omega, (hX.drewN nq).other _ _ hne, (hY.drewN nq).set k _, by simpa using hYl, stepY Y _ T k _ (by omega) hM, (bel_drewN hbw nq).setCell hgd _⟩

/-- one merge is done: the head of the next -/
theorem r2_next {X Y Y1 T : List Int} {n wd lo mid hi : Nat} (hw : 1 ≤ wd) (hXl : X.length = n) (hYl : Y.length = n) (hlo : lo < n) (hm : mid = min (lo + wd) n) (hh : hi = min (lo + 2 * wd) n)
    (hT : T = Y1.take lo ++ List.merge ((X.take mid).drop lo) ((X.take hi).drop mid) le) (hY : Y.take hi = T) (hrun : Y1.take lo ++ run wd (X.drop lo) = run wd X) :
    Y.take (lo + 2 * wd) ++ run wd (X.drop (lo + 2 * wd)) = run wd X := by
  have e0 : Y.take (lo + 2 * wd) = Y.take hi := by
    rw [hh]
    by_cases h : lo + 2 * wd ≤ n
    · rw [Nat.min_eq_left h]
    · rw [Nat.min_eq_right (by omega), List.take_of_length_le (by omega), List.take_of_length_le (by omega)]
  have e1 : (X.take mid).drop lo = (X.drop lo).take wd := by
    rw [hm, List.drop_take]
    by_cases h : lo + wd ≤ n
    · rw [Nat.min_eq_left h, show lo + wd - lo = wd from by omega]
    · rw [Nat.min_eq_right (by omega), List.take_of_length_le (by simp; omega), List.take_of_length_le (by simp; omega)]
  have e2 : (X.take hi).drop mid = ((X.drop lo).drop wd).take wd := by
    rw [List.drop_drop]
    by_cases h : lo + wd ≤ n
    · have hm' : mid = lo + wd := by omega
      rw [hm', List.drop_take]
      by_cases h2 : lo + 2 * wd ≤ n
      · rw [show hi = lo + 2 * wd from by omega, show lo + 2 * wd - (lo + wd) = wd from by omega]
      · rw [show hi = n from by omega, List.take_of_length_le (by simp; omega), List.take_of_length_le (by simp; omega)]
    · have hm' : mid = n := by omega
      have hh' : hi = n := by omega
      rw [hm', hh', List.drop_of_length_le (by simp; omega), List.drop_of_length_le (by omega)]
      simp
  have hne : X.drop lo ≠ [] := by
    intro e
    have := congrArg List.length e
    simp at this
    omega
  rw [e0, hY, hT, ← hrun, run_cons wd hw (X.drop lo) hne, e1, e2]
  simp only [List.append_assoc, List.drop_drop]

set_option maxHeartbeats 4000000 in
set_option maxRecDepth 8000 in
theorem sort_any (ao : Option Addr) (n c : Nat) (N : List Int) (w : World) (hN : N.length = n) (hn : n ≤ 65536) (harg : Arg w ao N) :
    Calls Trym.prog 9 #[.slice ao n c] w fun e w' => ∃ g S, e = .returned (.slice (some ⟨g, 0, none⟩) n n) ∧ Blk w' g S ∧ S.length = n ∧ S.Pairwise (· ≤ ·) ∧ (∀ x, x ∈ S ↔ x ∈ N) ∧ w.heap.size ≤ g ∧ Below w.heap.size w w' := by
  have hmk := run_mk n (by omega)
  have hb : Hid (Blk (w.alloc (.cells (madeCells #[.int .i64 0] n) 3)) w.heap.size (List.replicate n 0)) := Blk.made w n
  have ha : Hid (Arg (w.alloc (.cells (madeCells #[.int .i64 0] n) 3)) ao N) := by
    rcases harg with ⟨e, e2⟩ | ⟨y, e, hc⟩
    · exact .inl ⟨e, e2⟩
    · refine .inr ⟨y, e, fun j hj => ?_⟩
      have := hc j hj
      rw [World.cell?_alloc_lt _ _ _ (World.block_lt_of_cell? w _ this)]
      exact this
  go_enter Trym.func9, Trym.ntmps9
  go_wp2_with (refine copy_row rfl (.tmp 18) (.tmp 19) rfl ao n c w.heap.size rfl rfl N (List.replicate n 0) hN (by simp) hb.out ha.out w ((Below.refl _ _).alloc (Nat.le_refl _) _) (Nat.le_refl _) ?_; intro w1 hblk hbel)
  go_loopw [4, 5, 6] (fun s d wi wr => R1 w n N s d wi wr) (fun _ _ wi _ => n - (intOf wi).toNat)
  case atStart =>
    have hlt := hblk.lt
    exact ⟨1, w.heap.size, w1.heap.size, N, List.replicate n 0, rfl, rfl, rfl, by omega, Nat.le_refl _, hbel.size, hblk.alloc _, Blk.made w1 n, hN, by simp, by omega, by omega, bs_one N, fun _ => Iff.rfl, hbel.alloc hbel.size _⟩
  case round =>
    obtain ⟨wd, gs, gd, X, Y, rfl, rfl, rfl, hne, hgs, hgd, hX, hY, hXl, hYl, hw1, hw2, hbs, hmem, hbw⟩ := hrel
    by_cases hlt : wd < n
    · go_wp2
      go_loopw [7] (fun lo wr => R2 w n wd gs gd X lo wr) (fun lo _ => n - (intOf lo).toNat)
      case atStart => exact ⟨0, Y, rfl, by omega, hX, hY, hYl, by simp, hbw⟩
      case round =>
        obtain ⟨lo, Y1, rfl, hlo, hX1, hY1, hY1l, hrun0, hbw1⟩ := hrel
        have hrunH : Hid (Y1.take lo ++ run wd (X.drop lo) = run wd X) := hrun0
        clear hrun0
        by_cases hlo2 : lo < n
        · go_upto_region 11 with fail
          go_cut [8] (fun v wc => v = .int .i64 ((min (lo + wd) n : Nat) : Int) ∧ wr = wc)
          case first =>
            go_wp2
            all_goals
              go_meet
              case rel => exact ⟨by congr 1; omega, rfl⟩
          case rest =>
            obtain ⟨hv, hw⟩ := hcut
            subst hw
            obtain ⟨mid, hmid⟩ : ∃ m, m = min (lo + wd) n := ⟨_, rfl⟩
            rw [← hmid] at hv
            subst hv
            have HM : Hid (mid = min (lo + wd) n) := hmid
            clear hmid
            go_upto_region 12 with fail
            go_cut [9] (fun v wc => v = .int .i64 ((min (lo + 2 * wd) n : Nat) : Int) ∧ wr = wc)
            case first =>
              go_wp2
              all_goals
                go_meet
                case rel => exact ⟨by congr 1; omega, rfl⟩
            case rest =>
              obtain ⟨hv, hw⟩ := hcut
              subst hw
              obtain ⟨hi, hhi⟩ : ∃ m, m = min (lo + 2 * wd) n := ⟨_, rfl⟩
              rw [← hhi] at hv
              subst hv
              have HH : Hid (hi = min (lo + 2 * wd) n) := hhi
              clear hhi
              have hml : mid ≤ n := by have := HM.out; omega
              have hhl : hi ≤ n := by have := HH.out; omega
              have hmh : mid ≤ hi := by have := HM.out; have := HH.out; omega
              have hlm : lo ≤ mid := by have := HM.out; omega
              obtain ⟨T, hT0⟩ : ∃ T, T = Y1.take lo ++ List.merge ((X.take mid).drop lo) ((X.take hi).drop mid) le := ⟨_, rfl⟩
              have HT : Hid (T = Y1.take lo ++ List.merge ((X.take mid).drop lo) ((X.take hi).drop mid) le) := hT0
              clear hT0
              go_wp2
              go_loopw [10, 11, 12] (fun i j k wr => R3 w n gs gd lo mid hi X T i j k wr) (fun _ _ k _ => hi - (intOf k).toNat)
              case atStart => exact ⟨lo, mid, lo, Y1, rfl, rfl, rfl, Nat.le_refl _, hlm, Nat.le_refl _, hmh, by omega, hX1, hY1, hY1l, HT.out.symm, hbw1⟩
              case round =>
                obtain ⟨i, j, k, Y2, rfl, rfl, rfl, hi1, hi2, hj1, hj2, hk2, hX2, hY2, hY2l, hM0, hbw2⟩ := hrel
                have hM : Hid (Y2.take k ++ List.merge ((X.take mid).drop i) ((X.take hi).drop j) le = T) := hM0
                clear hM0
                by_cases hk : k < hi
                · have fd := hY2.frozen k
                  have cd := hY2.cell k (by omega)
                  by_cases h1 : i < mid
                  · have ci := hX2.cell i (by omega)
                    by_cases h2 : hi ≤ j
                    · go_wp2
                      go_quiet (fail)
                      go_wp2
                      go_roundw
                      case rel => exact r3_left nq hne hgd hi1 h1 (by omega) hj1 hj2 hk2 (by omega) hX2 hY2 hY2l hbw2 (by rw [← mA X mid hi i j h1 (by omega) h2]; exact hM.out)
                      case measure => simp [intOf]; omega
                    · have cj := hX2.cell j (by omega)
                      by_cases h3 : X[i] ≤ X[j]
                      · go_wp2
                        go_quiet (fail)
                        go_wp2
                        go_roundw
                        case rel => exact r3_left nq hne hgd hi1 h1 (by omega) hj1 hj2 hk2 (by omega) hX2 hY2 hY2l hbw2 (by rw [← mB X mid hi i j h1 (by omega) (by omega) (by omega) h3]; exact hM.out)
                        case measure => simp [intOf]; omega
                      · go_wp2
                        go_quiet (fail)
                        go_wp2
                        go_roundw
                        case rel => exact r3_right nq hne hgd hi1 hi2 hj1 (by omega) (by omega) hk2 (by omega) hX2 hY2 hY2l hbw2 (by rw [← mC X mid hi i j h1 (by omega) (by omega) (by omega) (by omega)]; exact hM.out)
                        case measure => simp [intOf]; omega
                  · have cj := hX2.cell j (by omega)
                    go_wp2
                    go_quiet (fail)
                    go_wp2
                    go_roundw
                    case rel => exact r3_right nq hne hgd hi1 hi2 hj1 (by omega) (by omega) hk2 (by omega) hX2 hY2 hY2l hbw2 (by rw [← mD X mid hi i j (by omega) (by omega) (by omega)]; exact hM.out)
                    case measure => simp [intOf]; omega
                · have hYT : Hid (Y2.take hi = T) := by
                    have := hM.out
                    rw [drop_end X mid i (by omega), drop_end X hi j (by omega), List.nil_merge, List.append_nil, show k = hi from by omega] at this
                    exact this
                  have hrun2 : Hid (Y2.take (lo + 2 * wd) ++ run wd (X.drop (lo + 2 * wd)) = run wd X) := r2_next hw1 hXl hY2l hlo2 HM.out HH.out HT.out hYT.out hrunH.out
                  go_wp2
                  go_roundw
                  case rel => exact ⟨lo + 2 * wd, Y2, by go_num, by omega, hX2, hY2, hY2l, hrun2.out, hbw2⟩
                  case measure => simp [intOf]; omega
        · have hYr : Hid (Y1 = run wd X) := by
            have := hrunH.out
            rw [List.take_of_length_le (by omega), List.drop_of_length_le (by omega), run_nil, List.append_nil] at this
            exact this
          go_wp2
          go_roundw
          case rel => exact ⟨wd * 2, gd, gs, Y1, X, by go_num, rfl, rfl, hne.symm, hgd, hgs, hY1, hX1, hY1l, hXl, by omega, by omega, by rw [hYr.out, Nat.mul_comm]; exact bs_run wd hw1 X hbs, fun x => by rw [hYr.out, run_mem wd hw1 X x]; exact hmem x, hbw1⟩
          case measure => simp [intOf]; omega
    · go_wp2
      go_ret
      exact ⟨gs, X, rfl, hX, hXl, bs_sorted wd X hbs (by omega), hmem, hgs, hbw⟩

end Go.Proofs.Qxb6604148aMods.A
