/- The plain law: a bottom-up merge sort, the distinct values, the words of a bitmap. No Go in sight. -/
namespace Go.Proofs.Qxb6604148aMods.P
set_option linter.unusedSimpArgs false

def le (a b : Int) : Bool := decide (a ≤ b)

/-! ### one pass of the merge sort -/
def pass : Nat → Nat → List Int → List Int
  | 0, _, _ => []
  | f + 1, w, X => if X = [] then [] else List.merge (X.take w) ((X.drop w).take w) le ++ pass f w (X.drop (2 * w))

theorem pass_fuel (w : Nat) (hw : 1 ≤ w) : ∀ (f f' : Nat) (X : List Int), X.length ≤ f → X.length ≤ f' → pass f w X = pass f' w X
  | 0, 0, _, _, _ => rfl
  | 0, f' + 1, X, h, _ => by
    have : X = [] := List.eq_nil_of_length_eq_zero (by omega)
    simp [pass, this]
  | f + 1, 0, X, _, h => by
    have : X = [] := List.eq_nil_of_length_eq_zero (by omega)
    simp [pass, this]
  | f + 1, f' + 1, X, h, h' => by
    simp only [pass]
    by_cases e : X = []
    · simp [e]
    · have hl : 0 < X.length := List.length_pos_iff.2 e
      rw [if_neg e, if_neg e, pass_fuel w hw f f' (X.drop (2 * w)) (by rw [List.length_drop]; omega) (by rw [List.length_drop]; omega)]

def run (w : Nat) (X : List Int) : List Int := pass X.length w X

theorem run_nil (w : Nat) : run w [] = [] := rfl

theorem run_cons (w : Nat) (hw : 1 ≤ w) (X : List Int) (h : X ≠ []) : run w X = List.merge (X.take w) ((X.drop w).take w) le ++ run w (X.drop (2 * w)) := by
  have hl : 0 < X.length := List.length_pos_iff.2 h
  unfold run
  rw [pass_fuel w hw X.length (X.length - 1 + 1) X (Nat.le_refl _) (by omega)]
  simp only [pass]
  rw [if_neg h, pass_fuel w hw (X.length - 1) (X.drop (2 * w)).length (X.drop (2 * w)) (by rw [List.length_drop]; omega) (Nat.le_refl _)]

theorem three (w : Nat) (X : List Int) : X.take w ++ ((X.drop w).take w ++ X.drop (2 * w)) = X := by
  rw [show 2 * w = w + w from by omega, ← List.drop_drop, List.take_append_drop, List.take_append_drop]

/-- induction over the passes' pieces -/
theorem run_ind (w : Nat) (hw : 1 ≤ w) (C : List Int → Prop) (h0 : C []) (h1 : ∀ X, X ≠ [] → C (X.drop (2 * w)) → C X) : ∀ (n : Nat) (X : List Int), X.length ≤ n → C X
  | 0, X, h => by rw [List.eq_nil_of_length_eq_zero (by omega : X.length = 0)]; exact h0
  | n + 1, X, h => by
    by_cases e : X = []
    · rw [e]; exact h0
    · have hl : 0 < X.length := List.length_pos_iff.2 e
      exact h1 X e (run_ind w hw C h0 h1 n (X.drop (2 * w)) (by rw [List.length_drop]; omega))

theorem run_length (w : Nat) (hw : 1 ≤ w) (X : List Int) : (run w X).length = X.length := by
  refine run_ind w hw (fun X => (run w X).length = X.length) rfl (fun X h ih => ?_) X.length X (Nat.le_refl _)
  show (run w X).length = X.length
  rw [run_cons w hw X h, List.length_append, List.length_merge, ih]
  simp
  omega

theorem run_mem (w : Nat) (hw : 1 ≤ w) (X : List Int) (a : Int) : a ∈ run w X ↔ a ∈ X := by
  refine run_ind w hw (fun X => a ∈ run w X ↔ a ∈ X) Iff.rfl (fun X h ih => ?_) X.length X (Nat.le_refl _)
  show a ∈ run w X ↔ a ∈ X
  rw [run_cons w hw X h, List.mem_append, List.mem_merge, ih]
  have e : a ∈ X ↔ a ∈ X.take w ++ ((X.drop w).take w ++ X.drop (2 * w)) := by rw [three w X]
  rw [e]
  simp only [List.mem_append]
  constructor
  · rintro ((h | h) | h)
    · exact .inl h
    · exact .inr (.inl h)
    · exact .inr (.inr h)
  · rintro (h | h | h)
    · exact .inl (.inl h)
    · exact .inl (.inr h)
    · exact .inr h

/-- sorted in pieces of 'w' -/
def Bs (w : Nat) (X : List Int) : Prop := ∀ (i j : Nat) (hi : i < j) (hj : j < X.length), i / w = j / w → X[i]'(by omega) ≤ X[j]

theorem bs_one (X : List Int) : Bs 1 X := by
  intro i j hi hj e
  simp at e
  omega

theorem bs_sorted (w : Nat) (X : List Int) (h : Bs w X) (hw : X.length ≤ w) : X.Pairwise (· ≤ ·) := by
  rw [List.pairwise_iff_getElem]
  intro i j hi hj hij
  exact h i j hij hj (by rw [Nat.div_eq_of_lt (by omega), Nat.div_eq_of_lt (by omega)])

theorem bs_take (w : Nat) (X : List Int) (h : Bs w X) : (X.take w).Pairwise (· ≤ ·) := by
  rw [List.pairwise_iff_getElem]
  intro i j hi hj hij
  simp at hi hj
  rw [List.getElem_take, List.getElem_take]
  exact h i j hij (by omega) (by rw [Nat.div_eq_of_lt (by omega), Nat.div_eq_of_lt (by omega)])

theorem bs_drop (w : Nat) (hw : 1 ≤ w) (X : List Int) (h : Bs w X) : Bs w (X.drop w) := by
  intro i j hi hj e
  rw [List.length_drop] at hj
  rw [List.getElem_drop, List.getElem_drop]
  exact h (w + i) (w + j) (by omega) (by omega) (by rw [Nat.add_div_left _ hw, Nat.add_div_left _ hw, e])

theorem bs_drop2 (w : Nat) (hw : 1 ≤ w) (X : List Int) (h : Bs w X) : Bs w (X.drop (2 * w)) := by
  rw [show 2 * w = w + w from by omega, ← List.drop_drop]
  exact bs_drop w hw _ (bs_drop w hw X h)

theorem merge_sorted (A B : List Int) (hA : A.Pairwise (· ≤ ·)) (hB : B.Pairwise (· ≤ ·)) : (List.merge A B le).Pairwise (· ≤ ·) := by
  have := List.pairwise_merge (le := le) (l₁ := A) (l₂ := B) (by intro a b c; simp [le]; omega) (by intro a b; simp [le]; omega) (by simpa [le] using hA) (by simpa [le] using hB)
  simpa [le] using this

theorem bs_run (w : Nat) (hw : 1 ≤ w) (X : List Int) : Bs w X → Bs (2 * w) (run w X) := by
  refine run_ind w hw (fun X => Bs w X → Bs (2 * w) (run w X)) (fun _ => ?_) (fun X h ih hb => ?_) X.length X (Nat.le_refl _)
  · intro i j hi hj
    simp [run_nil] at hj
  · have ih' := ih (bs_drop2 w hw X hb)
    rw [run_cons w hw X h]
    have hM := merge_sorted _ _ (bs_take w X hb) (bs_take w _ (bs_drop w hw X hb))
    have hR := run_length w hw (X.drop (2 * w))
    generalize hm : List.merge (X.take w) ((X.drop w).take w) le = M at hM ⊢
    have hMl : M.length = min (2 * w) X.length := by rw [← hm, List.length_merge]; simp; omega
    generalize run w (X.drop (2 * w)) = R at ih' hR ⊢
    rw [List.length_drop] at hR
    intro i j hij hj e
    rw [List.length_append] at hj
    rw [List.pairwise_iff_getElem] at hM
    by_cases hjM : j < M.length
    · rw [List.getElem_append_left (by omega), List.getElem_append_left hjM]
      exact hM i j (by omega) hjM hij
    · have h2 : M.length = 2 * w := by omega
      have hi2 : ¬ i < 2 * w := by
        intro hi
        rw [Nat.div_eq_of_lt hi] at e
        have : 1 ≤ j / (2 * w) := (Nat.le_div_iff_mul_le (by omega)).2 (by omega)
        omega
      rw [List.getElem_append_right (by omega), List.getElem_append_right (by omega)]
      refine ih' (i - M.length) (j - M.length) (by omega) (by omega) ?_
      rw [h2]
      have f1 : i / (2 * w) = (i - 2 * w) / (2 * w) + 1 := by rw [← Nat.add_div_right _ (by omega : 0 < 2 * w), Nat.sub_add_cancel (by omega)]
      have f2 : j / (2 * w) = (j - 2 * w) / (2 * w) + 1 := by rw [← Nat.add_div_right _ (by omega : 0 < 2 * w), Nat.sub_add_cancel (by omega)]
      omega

end Go.Proofs.Qxb6604148aMods.P
