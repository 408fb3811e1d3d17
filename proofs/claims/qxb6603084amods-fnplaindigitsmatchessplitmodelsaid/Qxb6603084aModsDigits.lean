/- The plain law of plainDigits against the split model: lists of bytes, no Go in sight. -/
import Derived.Test.Qxb6603084aModsShape
namespace Go.Proofs.Qxb6603084aMods.Digits
open Go.Proofs.Qxb6603084aMods.Shape (dig)

def isDot (c : UInt8) : Bool := c.toNat == 46
def isSign (c : UInt8) : Bool := c.toNat == 45 || c.toNat == 43

/-- what plainDigits does from here on: is this the first byte? has the point been met? -/
def pd : Bool → Bool → Nat → Nat → List UInt8 → Option (Nat × Nat)
  | _, _, wh, pl, [] => some (wh, pl)
  | first, point, wh, pl, c :: cs =>
    if dig c then (if point then pd false point wh (pl + 1) cs else pd false point (wh + 1) pl cs)
    else if isDot c && !point then pd false true wh pl cs
    else if !first || !isSign c then none
    else pd false point wh pl cs

def res : Option (Nat × Nat) → Nat × Nat × Bool
  | none => (0, 0, false)
  | some (a, b) => (a, b, decide (0 < a + b))

def left (b : List UInt8) : List UInt8 := b.takeWhile fun c => !isDot c
def right (b : List UInt8) : List UInt8 := (b.dropWhile fun c => !isDot c).drop 1

def unsign : List UInt8 → List UInt8
  | [] => []
  | c :: cs => if isSign c then cs else c :: cs

/-- the split model on a text without its sign -/
def split (b : List UInt8) : Option (Nat × Nat) :=
  if (left b).all dig && (right b).all dig then some ((left b).length, (right b).length) else none

def pm (s : List UInt8) : Nat × Nat × Bool := res (split (unsign s))

theorem dig_dot (c : UInt8) (h : isDot c = true) : dig c = false := by
  unfold isDot at h; unfold dig; simp at h; simp [h]
theorem dig_sign (c : UInt8) (h : isSign c = true) : dig c = false := by
  unfold isSign at h; unfold dig; simp at h; rcases h with h | h <;> simp [h]
theorem dot_sign (c : UInt8) (h : isSign c = true) : isDot c = false := by
  unfold isSign at h; unfold isDot; simp at h; rcases h with h | h <;> simp [h]

theorem pd_pt : ∀ (cs : List UInt8) (wh pl : Nat), pd false true wh pl cs = if cs.all dig then some (wh, pl + cs.length) else none
  | [], _, _ => by simp [pd]
  | c :: cs, wh, pl => by
    simp only [pd, List.all_cons, List.length_cons]
    by_cases h : dig c = true
    · simp only [h, if_true, Bool.true_and]
      rw [pd_pt cs wh (pl + 1)]
      rw [show pl + 1 + cs.length = pl + (cs.length + 1) from by omega]
    · simp [h]

theorem pd_no : ∀ (cs : List UInt8) (wh pl : Nat), pd false false wh pl cs = if (left cs).all dig && (right cs).all dig then some (wh + (left cs).length, pl + (right cs).length) else none
  | [], _, _ => by simp [pd, left, right]
  | c :: cs, wh, pl => by
    simp only [pd]
    by_cases h : isDot c = true
    · have e1 : left (c :: cs) = [] := by simp [left, h]
      have e2 : right (c :: cs) = cs := by simp [right, h]
      rw [e1, e2, dig_dot c h, pd_pt]
      simp [h]
    · have e1 : left (c :: cs) = c :: left cs := by simp [left, h]
      have e2 : right (c :: cs) = right cs := by simp [right, h]
      rw [e1, e2]
      by_cases hd : dig c = true
      · simp only [hd, if_true, List.all_cons, Bool.true_and, List.length_cons]
        rw [pd_no cs (wh + 1) pl]
        simp only [Bool.false_eq_true, if_false]
        rw [show wh + 1 + (left cs).length = wh + ((left cs).length + 1) from by omega]
      · simp [hd, h]

theorem pd_split (s : List UInt8) : pd true false 0 0 s = split (unsign s) := by
  cases s with
  | nil => simp [pd, split, unsign, left, right]
  | cons c cs =>
    simp only [pd, unsign]
    by_cases hs : isSign c = true
    · simp only [hs, if_true, dig_sign c hs, dot_sign c hs, Bool.false_eq_true, if_false, Bool.false_and, Bool.not_true, Bool.or_self]
      rw [pd_no]
      simp [split]
    · have e := pd_no (c :: cs) 0 0
      simp only [pd] at e
      simp only [hs, Bool.false_eq_true, if_false]
      unfold split
      simp only [Nat.zero_add] at e
      rw [← e]
      by_cases hd : dig c = true
      · simp [hd]
      · by_cases ht : isDot c = true
        · simp [hd, ht]
        · simp [hd, ht]

theorem res_pd (s : List UInt8) : res (pd true false 0 0 s) = pm s := by rw [pd_split]; rfl

/-! the split at a place -/
theorem split_at (l1 : List UInt8) (c : UInt8) (l2 : List UInt8) (hall : ∀ c ∈ l1, (fun c => !isDot c) c = true) (hd : isDot c = true) : left (l1 ++ c :: l2) = l1 ∧ right (l1 ++ c :: l2) = l2 := by
  constructor
  · unfold left
    rw [List.takeWhile_append_of_pos hall, List.takeWhile_cons_of_neg (by simp [hd])]
    simp
  · unfold right
    rw [List.dropWhile_append_of_pos hall, List.dropWhile_cons_of_neg (by simp [hd])]
    simp

theorem left_at (b : List UInt8) (k : Nat) (h : k < b.length) (hd : isDot b[k] = true) (hn : ∀ j (hj : j < k), isDot (b[j]'(by omega)) = false) : left b = b.take k ∧ right b = b.drop (k + 1) := by
  have e : b.take k ++ b[k] :: b.drop (k + 1) = b := by simp
  have hall : ∀ c ∈ b.take k, (fun c => !isDot c) c = true := by
    intro c hc
    obtain ⟨j, hj, rfl⟩ := List.mem_iff_getElem.1 hc
    have hjk : j < k := by simp at hj; omega
    have := hn j hjk
    simp [this]
  have := split_at (b.take k) b[k] (b.drop (k + 1)) hall hd
  rw [e] at this
  exact this

theorem left_none (b : List UInt8) (hn : ∀ j (hj : j < b.length), isDot b[j] = false) : left b = b ∧ right b = [] := by
  have hall : ∀ c ∈ b, (fun c => !isDot c) c = true := by
    intro c hc
    obtain ⟨j, hj, rfl⟩ := List.mem_iff_getElem.1 hc
    simp [hn j hj]
  constructor
  · unfold left
    simpa using List.takeWhile_append_of_pos (l₂ := []) hall
  · unfold right
    have := List.dropWhile_append_of_pos (l₂ := []) hall
    simp at this
    simp [this]

end Go.Proofs.Qxb6603084aMods.Digits
