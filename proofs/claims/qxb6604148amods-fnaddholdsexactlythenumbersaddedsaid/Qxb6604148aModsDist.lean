import Derived.Test.Qxb6604148aModsSort
import Derived.Deep.AppendSrc
namespace Go.Proofs.Qxb6604148aMods.A
open Go.RowKit
open Go.Proofs.Qxb6604148aMods.P
set_option linter.unusedSimpArgs false
set_option linter.unusedVariables false

/-- a law for the walk: one number more, within the capacity -/
theorem append_one {ops : Array Oper} {rest : List Oper} {op : Oper} {a : Act} {w : World} {Q : Exit → Act → World → Prop} (hgd : op.guard = none) (s x : Operand)
    (hop : op.op = Op.call { callee := Callee.builtin Builtin.append, args := #[s, x], argTypes := #[22, 22] }) (g k n : Nat) (hs : a.eval s = .slice (some ⟨g, 0, none⟩) k n)
    (b : Nat) (hx : a.eval x = .slice (some ⟨b, 0, none⟩) 1 1) (v : Int) (hv : w.cell? ⟨b, 0, none⟩ = some (.int .i64 v)) (Y : List Int) (hY : Blk w g Y) (hYl : Y.length = n) (hk : k < n)
    (h : wpList Trym.prog ops Q rest (a.put op.dst (.slice (some ⟨g, 0, none⟩) (k + 1) n)) (w.setCell ⟨g, k, none⟩ (.int .i64 v))) : wpList Trym.prog ops Q (op :: rest) a w := by
  obtain ⟨i0, hi, hz0, hz1, hz2⟩ := info_parts info3
  have src : Src Trym.prog 1 22 (.slice (some ⟨b, 0, none⟩) 1 1) 1 [.int .i64 v] w :=
    Src.ofSlice w Trym.underlying22 ⟨b, 0, none⟩ 1 1 [.int .i64 v] rfl (fun j u hj => by
      match j, hj with
      | 0, hj => simp at hj; subst hj; simpa [Addr.add] using hv) (fun u hu => by simp at hu; subst hu; rfl)
  have hrun := run_append_room_src (P := Trym.prog) w 22 22 op.type 3 i0 Trym.underlying22 hi g 0 k n (.slice (some ⟨b, 0, none⟩) 1 1) 1 [.int .i64 v] (by rw [hz1]; exact src) (by omega)
    (fun j hj => by
      have hj0 : j = 0 := by simpa using hj
      subst hj0
      rw [hz1]
      have := hY.cell k (by omega)
      simp [this]) (fun j hj => by rw [hz1]; simpa using hY.frozen _)
  simp only [hz1, Nat.mul_one, Nat.zero_add] at hrun
  refine wpList_plain hgd fun K hK' => ?_
  unfold Oper.wp
  simp [execOp, hop, resolve, invoke, builtin, hs, hx, hrun, Result.andThen]
  exact hK' _ _ h

/-- what stands at the head of each round -/
def R4 (w : World) (n gs gu : Nat) (S : List Int) (uv iv : Value) (wr : World) : Prop :=
  ∃ (k m : Nat) (Y : List Int), k ≤ n ∧ iv = .int .i64 (k : Int) ∧ uv = .slice (some ⟨gu, 0, none⟩) m n ∧ Hid (m = (dd (S.take k)).length) ∧ Blk wr gu Y ∧ Y.length = n ∧ Y.take m = dd (S.take k) ∧ m ≤ k ∧ Blk wr gs S ∧ Below w.heap.size w wr

theorem last_of {Y D : List Int} {m : Nat} (hm : m = D.length) (h : Y.take m = D) (h0 : m ≠ 0) (hY : m ≤ Y.length) : D.getLast? = some (Y[m - 1]'(by omega)) := by
  have e : D[m - 1]? = (Y.take m)[m - 1]? := by rw [h]
  rw [List.getLast?_eq_getElem?, ← hm, e, List.getElem?_take, if_pos (by omega), List.getElem?_eq_getElem (by omega)]

theorem r4_app {w wr : World} {n gs gu : Nat} {S Y : List Int} {k m : Nat} (o : Obj) (hlt : k < n) (hSl : S.length = n) (hm : m = (dd (S.take k)).length) (hY : Blk wr gu Y) (hYl : Y.length = n) (hYm : Y.take m = dd (S.take k)) (hmk : m ≤ k) (hS : Blk wr gs S)
    (hbw : Below w.heap.size w wr) (hgu : w.heap.size ≤ gu) (hne : gs ≠ gu) (hl : (dd (S.take k)).getLast? ≠ some (S[k]'(by omega))) :
    R4 w n gs gu S (.slice (some ⟨gu, 0, none⟩) (m + 1) n) (.int .i64 ((k : Int) + 1)) ((wr.alloc o).setCell ⟨gu, m, none⟩ (.int .i64 (S[k]'(by omega)))) := by
  have e : dd (S.take (k + 1)) = dd (S.take k) ++ [S[k]'(by omega)] := by
    rw [List.take_succ_eq_append_getElem (by omega), dd_snoc]; exact if_neg hl
  refine ⟨k + 1, m + 1, Y.set m (S[k]'(by omega)), by omega, by go_num, rfl, ?_, (hY.alloc o).set m _, by simpa using hYl, ?_, by omega, (hS.alloc o).other _ _ hne, (hbw.alloc hbw.size o).setCell hgu _⟩
  · show m + 1 = _
    rw [e, List.length_append, hm]; rfl
  · rw [e, List.take_succ_eq_append_getElem (by simp; omega), List.getElem_set_self, List.take_set_of_le (Nat.le_refl _), hYm]

theorem r4_skip {w wr : World} {n gs gu : Nat} {S Y : List Int} {k m : Nat} (hlt : k < n) (hSl : S.length = n) (hm : m = (dd (S.take k)).length) (hY : Blk wr gu Y) (hYl : Y.length = n) (hYm : Y.take m = dd (S.take k)) (hmk : m ≤ k) (hS : Blk wr gs S)
    (hbw : Below w.heap.size w wr) (hl : (dd (S.take k)).getLast? = some (S[k]'(by omega))) :
    R4 w n gs gu S (.slice (some ⟨gu, 0, none⟩) m n) (.int .i64 ((k : Int) + 1)) wr := by
  have e : dd (S.take (k + 1)) = dd (S.take k) := by
    rw [List.take_succ_eq_append_getElem (by omega), dd_snoc]; exact if_pos hl
  refine ⟨k + 1, m, Y, by omega, by go_num, rfl, ?_, hY, hYl, by rw [e, hYm], by omega, hS, hbw⟩
  show m = _
  rw [e, hm]

set_option maxHeartbeats 1000000 in
set_option maxRecDepth 4000 in
theorem dist_any (ao : Option Addr) (n c : Nat) (N : List Int) (w : World) (hN : N.length = n) (hn : n ≤ 65536) (harg : Arg w ao N) :
    Calls Trym.prog 7 #[.slice ao n c] w fun e w' => ∃ (g : Nat) (U : List Int), e = .returned (.slice (some ⟨g, 0, none⟩) U.length n) ∧ (∀ j (hj : j < U.length), w'.cell? ⟨g, j, none⟩ = some (.int .i64 U[j])) ∧ U.Pairwise (· < ·) ∧ (∀ x, x ∈ U ↔ x ∈ N) ∧ U.length ≤ n ∧ Below w.heap.size w w' := by
  have hmk := run_mk0 n (by omega)
  go_enter Trym.func7, Trym.ntmps7
  go_wp2_with (go_at_call 9; refine (sort_any ao n c N _ hN hn harg).mono ?_; rintro e w1 ⟨gs, S, rfl, hS, hSl, hSs, hSm, hgs, hb1⟩)
  have hspec := dd_spec S hSs
  have HS : Hid (∀ k, k ≤ S.length → (dd (S.take k)).Pairwise (· < ·) ∧ (∀ x, x ∈ dd (S.take k) ↔ x ∈ S.take k) ∧ (dd (S.take k)).getLast? = (S.take k).getLast? ∧ (dd (S.take k)).length ≤ k) := hspec
  clear hspec
  have hz := hS.lt
  have hsz : w.heap.size ≤ w1.heap.size := hb1.size
  go_loopw [4, 14] (fun u i wr => R4 w n gs w1.heap.size S u i wr) (fun _ i _ => n - (intOf i).toNat)
  case atStart => exact ⟨0, 0, List.replicate n 0, Nat.zero_le _, rfl, rfl, rfl, Blk.made w1 n, by simp, rfl, Nat.le_refl _, hS.alloc _, hb1.alloc hsz _⟩
  case round =>
    obtain ⟨k, m, Y, hk, rfl, rfl, hm, hY, hYl, hYm0, hmk2, hS1, hbw⟩ := hrel
    have hYm : Hid (Y.take m = dd (S.take k)) := hYm0
    clear hYm0
    by_cases hlt : k < n
    · have ck := hS1.cell k (by omega)
      have hgne : gs ≠ w1.heap.size := by omega
      have ca : Hid ((wr.alloc (.cells #[.int .i64 S[k]] 3)).cell? ⟨wr.heap.size, 0, none⟩ = some (.int .i64 S[k])) := by
        show _ = _
        rw [World.cell?_alloc_at _ _ _ _ rfl]; rfl
      by_cases h0 : m = 0
      · have hl : (dd (S.take k)).getLast? ≠ some S[k] := by
          have : dd (S.take k) = [] := List.eq_nil_of_length_eq_zero (by rw [← hm.out]; exact h0)
          rw [this]; simp
        have HL : Hid ((dd (S.take k)).getLast? ≠ some S[k]) := hl
        have H0 : Hid (m = 0) := h0
        have h0' : ((m : Int) == 0) = true := by simp [h0]
        clear hl h0
        go_wp2_with (at_builtin; refine append_one rfl (.tmp 31) (.tmp 33) rfl w1.heap.size m n rfl wr.heap.size rfl S[k] ca.out Y (hY.alloc _) hYl (by omega) ?_)
        go_roundw
        case rel => exact r4_app _ hlt hSl hm.out hY hYl hYm.out hmk2 hS1 hbw hsz hgne HL.out
        case measure => simp [intOf]; omega
      · have h0' : ((m : Int) == 0) = false := by simp; omega
        have cl := hY.cell (m - 1) (by omega)
        have hlast : Hid ((dd (S.take k)).getLast? = some (Y[m - 1]'(by omega))) := last_of hm.out hYm.out h0 (by omega)
        by_cases he : Y[m - 1]'(by omega) = S[k]
        · have he' : ((Y[m - 1]'(by omega)) != S[k]) = false := by simp [he]
          have HL : Hid ((dd (S.take k)).getLast? = some S[k]) := by rw [← he]; exact hlast.out
          clear he
          go_wp2_with (at_builtin; fail)
          go_roundw
          case rel => exact r4_skip hlt hSl hm.out hY hYl hYm.out hmk2 hS1 hbw HL.out
          case measure => simp [intOf]; omega
        · have he' : ((Y[m - 1]'(by omega)) != S[k]) = true := by simp [he]
          have HL : Hid ((dd (S.take k)).getLast? ≠ some S[k]) := by rw [hlast.out]; simpa [Hid] using he
          clear he
          go_wp2_with (at_builtin; refine append_one rfl (.tmp 31) (.tmp 33) rfl w1.heap.size m n rfl wr.heap.size rfl S[k] ca.out Y (hY.alloc _) hYl (by omega) ?_)
          go_roundw
          case rel => exact r4_app _ hlt hSl hm.out hY hYl hYm.out hmk2 hS1 hbw hsz hgne HL.out
          case measure => simp [intOf]; omega
    · obtain ⟨s1, s2, s3, s4⟩ := HS.out k (by omega)
      have et : S.take k = S := List.take_of_length_le (by omega)
      have HM : Hid (m = (dd (S.take k)).length) := hm
      have HF : Hid (∀ x, x ∈ dd (S.take k) ↔ x ∈ N) := fun x => (s2 x).trans (by rw [et]; exact hSm x)
      have HC : Hid (∀ j (hj : j < (dd (S.take k)).length), wr.cell? ⟨w1.heap.size, j, none⟩ = some (.int .i64 (dd (S.take k))[j])) := fun j hj => by
        have := hY.cell j (by have := hm.out; omega)
        rw [this]
        congr 2
        simp only [← hYm.out, List.getElem_take]
      have HP : Hid ((dd (S.take k)).Pairwise (· < ·)) := s1
      clear s1 s2 s3 s4 et
      go_wp2
      go_ret
      exact ⟨w1.heap.size, dd (S.take k), by rw [← HM.out]; rfl, HC.out, HP.out, HF.out, by have := HM.out; omega, hbw⟩

end Go.Proofs.Qxb6604148aMods.A
