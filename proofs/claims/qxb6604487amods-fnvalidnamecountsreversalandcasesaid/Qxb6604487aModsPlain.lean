/- The plain law of topic names: lists of bytes, no Go in sight. -/
namespace Go.Proofs.Qxb6604487aMods.V
set_option linter.unusedSimpArgs false

/-- a byte that a topic's name may hold -/
def okn (n : Nat) : Bool := (decide (97 ≤ n) && decide (n ≤ 122)) || (decide (65 ≤ n) && decide (n ≤ 90)) || (decide (48 ≤ n) && decide (n ≤ 57)) || n == 46 || n == 95 || n == 45
def okb (c : UInt8) : Bool := okn c.toNat

def valid (l : List UInt8) : Bool := decide (1 ≤ l.length) && decide (l.length ≤ 249) && !(l == [46]) && !(l == [46, 46]) && l.all okb

def dot (c : UInt8) : Bool := c.toNat == 46

def want (l : List UInt8) : Bool := decide (1 ≤ l.length) && decide (l.length ≤ 249) && l.all okb && !(l.all dot && decide (l.length ≤ 2))

theorem dot_iff (c : UInt8) : dot c = true ↔ c = 46 := by
  unfold dot
  rw [beq_iff_eq, ← UInt8.toNat_inj]
  rfl

theorem all_dot_one (l : List UInt8) (h : 1 ≤ l.length) : (l.all dot && decide (l.length ≤ 2)) = ((l == [46]) || (l == [46, 46])) := by
  match l, h with
  | [a], _ =>
    rw [Bool.eq_iff_iff]
    simp [dot_iff]
  | [a, b], _ =>
    rw [Bool.eq_iff_iff]
    simp [dot_iff]
  | a :: b :: c :: l, _ =>
    rw [Bool.eq_iff_iff]
    simp

theorem valid_want (l : List UInt8) : valid l = want l := by
  unfold valid want
  by_cases h : 1 ≤ l.length
  · rw [all_dot_one l h]
    cases (l == [46]) <;> cases (l == [46, 46]) <;> cases l.all okb <;> simp
  · simp [h]

/-! ### the counts -/
/-- 0 refused, 1 letter, 2 digit, 3 dot, 4 underscore or hyphen -/
def cls (c : UInt8) : Nat :=
  if (decide (97 ≤ c.toNat) && decide (c.toNat ≤ 122)) || (decide (65 ≤ c.toNat) && decide (c.toNat ≤ 90)) then 1
  else if decide (48 ≤ c.toNat) && decide (c.toNat ≤ 57) then 2
  else if c.toNat = 46 then 3
  else if c.toNat = 95 ∨ c.toNat = 45 then 4
  else 0

theorem cls_bad (c : UInt8) : okb c = !(cls c == 0) := by
  have : ∀ n : Fin 256, okb (UInt8.ofNat n.val) = !(cls (UInt8.ofNat n.val) == 0) := by decide +kernel
  have := this ⟨c.toNat, c.toNat_lt⟩
  simpa using this

theorem cls_dot (c : UInt8) : dot c = (cls c == 3) := by
  have : ∀ n : Fin 256, dot (UInt8.ofNat n.val) = (cls (UInt8.ofNat n.val) == 3) := by decide +kernel
  have := this ⟨c.toNat, c.toNat_lt⟩
  simpa using this

/-- the case of a letter swapped -/
def swc (c : UInt8) : UInt8 := if cls c = 1 then c ^^^ 32 else c

theorem swc_ok (c : UInt8) : okb (swc c) = okb c := by
  have : ∀ n : Fin 256, okb (swc (UInt8.ofNat n.val)) = okb (UInt8.ofNat n.val) := by decide +kernel
  have := this ⟨c.toNat, c.toNat_lt⟩
  simpa using this

theorem swc_dot (c : UInt8) : dot (swc c) = dot c := by
  have : ∀ n : Fin 256, dot (swc (UInt8.ofNat n.val)) = dot (UInt8.ofNat n.val) := by decide +kernel
  have := this ⟨c.toNat, c.toNat_lt⟩
  simpa using this

def bad (l : List UInt8) : Nat := (l.filter fun c => cls c == 0).length
def dots (l : List UInt8) : Nat := (l.filter fun c => cls c == 3).length

theorem bad_snoc (l : List UInt8) (c : UInt8) : bad (l ++ [c]) = bad l + if cls c = 0 then 1 else 0 := by
  unfold bad; rw [List.filter_append]; by_cases h : cls c = 0 <;> simp [h]
theorem dots_snoc (l : List UInt8) (c : UInt8) : dots (l ++ [c]) = dots l + if cls c = 3 then 1 else 0 := by
  unfold dots; rw [List.filter_append]; by_cases h : cls c = 3 <;> simp [h]
theorem bad_le (l : List UInt8) : bad l ≤ l.length := List.length_filter_le _ _
theorem dots_le (l : List UInt8) : dots l ≤ l.length := List.length_filter_le _ _

theorem bad_zero (l : List UInt8) : (bad l == 0) = l.all okb := by
  rw [Bool.eq_iff_iff]
  unfold bad
  simp only [beq_iff_eq, List.length_eq_zero_iff, List.filter_eq_nil_iff, List.all_eq_true]
  constructor
  · intro h c hc; have := h c hc; rw [cls_bad]; simpa using this
  · intro h c hc; have := h c hc; rw [cls_bad] at this; simpa using this

theorem dots_all (l : List UInt8) : (dots l == l.length) = l.all dot := by
  rw [Bool.eq_iff_iff]
  unfold dots
  simp only [beq_iff_eq, List.length_filter_eq_length_iff, List.all_eq_true]
  constructor
  · intro h c hc; rw [cls_dot]; simpa using h c hc
  · intro h c hc; have := h c hc; rw [cls_dot] at this; simpa using this

def want2 (l : List UInt8) : Bool := decide (1 ≤ l.length) && decide (l.length ≤ 249) && (bad l == 0) && !((dots l == l.length) && decide (l.length ≤ 2))

theorem valid_want2 (l : List UInt8) : valid l = want2 l := by
  rw [valid_want]; unfold want want2; rw [bad_zero, dots_all]

theorem valid_rev (l : List UInt8) : valid l.reverse = valid l := by
  rw [valid_want, valid_want]; unfold want; simp

theorem valid_swp (l : List UInt8) : valid (l.map swc) = valid l := by
  rw [valid_want, valid_want]; unfold want
  rw [List.all_map, List.all_map, List.length_map]
  have e1 : (okb ∘ swc) = okb := funext swc_ok
  have e2 : (dot ∘ swc) = dot := funext swc_dot
  rw [e1, e2]

end Go.Proofs.Qxb6604487aMods.V
