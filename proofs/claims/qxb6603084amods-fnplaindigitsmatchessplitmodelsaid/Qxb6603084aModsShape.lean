/- The plain law of startsWithShape: lists of bytes, no Go in sight. -/
namespace Go.Proofs.Qxb6603084aMods.Shape

def dig (c : UInt8) : Bool := decide (48 ≤ c.toNat) && decide (c.toNat ≤ 57)

/-- one byte of a text against one byte of a shape -/
def ok (c t : UInt8) : Bool := if c.toNat = 100 then dig t else t.toNat == c.toNat

/-- does the text 't' start with what the shape lays out? -/
def mt : List UInt8 → List UInt8 → Bool
  | [], _ => true
  | _ :: _, [] => false
  | c :: cs, t :: ts => ok c t && mt cs ts

theorem mt_short : ∀ (s t : List UInt8), t.length < s.length → mt s t = false
  | [], _, h => by simp at h
  | _ :: _, [], _ => rfl
  | c :: cs, t :: ts, h => by
    simp only [mt]
    rw [mt_short cs ts (by simpa using h)]
    simp

theorem mt_drop (s t : List UInt8) (k : Nat) (hs : k < s.length) (ht : k < t.length) :
    mt (s.drop k) (t.drop k) = (ok s[k] t[k] && mt (s.drop (k + 1)) (t.drop (k + 1))) := by
  rw [List.drop_eq_getElem_cons hs, List.drop_eq_getElem_cons ht]
  rfl

theorem mt_end (s t : List UInt8) (k : Nat) (h : s.length ≤ k) : mt (s.drop k) (t.drop k) = true := by
  rw [List.drop_of_length_le h]
  rfl

theorem mt_append : ∀ (s t u : List UInt8), mt s t = true → mt s (t ++ u) = true
  | [], _, _, _ => by simp [mt]
  | _ :: _, [], _, h => by simp [mt] at h
  | c :: cs, t :: ts, u, h => by
    simp only [mt, Bool.and_eq_true] at h
    simp only [List.cons_append, mt, Bool.and_eq_true]
    exact ⟨h.1, mt_append cs ts u h.2⟩

/-- the byte that the law lays at place 'k' for the shape's byte 'c' -/
def ib (k : Nat) (c : UInt8) : Nat := if c.toNat = 100 then 48 + k % 10 else c.toNat

def ibB (k : Nat) (c : UInt8) : UInt8 := UInt8.ofNat (ib k c)

theorem ib_lt (k : Nat) (c : UInt8) : ib k c < 256 := by
  unfold ib
  have := c.toNat_lt
  split <;> omega

theorem ibB_toNat (k : Nat) (c : UInt8) : (ibB k c).toNat = ib k c := by
  unfold ibB
  rw [UInt8.toNat_ofNat']
  exact Nat.mod_eq_of_lt (by simpa using ib_lt k c)

theorem ok_ib (k : Nat) (c : UInt8) : ok c (ibB k c) = true := by
  unfold ok dig
  rw [ibB_toNat]
  unfold ib
  by_cases h : c.toNat = 100
  · simp only [h, if_true]
    simp
    omega
  · simp [h]

/-- the shape from place 'k' on, each d written as a digit -/
def inst : Nat → List UInt8 → List UInt8
  | _, [] => []
  | k, c :: cs => ibB k c :: inst (k + 1) cs

theorem inst_length : ∀ (k : Nat) (s : List UInt8), (inst k s).length = s.length
  | _, [] => rfl
  | k, c :: cs => by simp [inst, inst_length (k + 1) cs]

theorem inst_get : ∀ (k : Nat) (s : List UInt8) (j : Nat) (h : j < s.length), (inst k s)[j]'(by rw [inst_length]; exact h) = ibB (k + j) s[j]
  | k, c :: cs, 0, _ => by simp [inst]
  | k, c :: cs, j + 1, h => by
    have hj : j < cs.length := by simpa using h
    have := inst_get (k + 1) cs j hj
    simp only [inst, List.getElem_cons_succ]
    rw [this]
    congr 1
    omega

theorem mt_inst : ∀ (k : Nat) (s : List UInt8), mt s (inst k s) = true
  | _, [] => rfl
  | k, c :: cs => by simp [inst, mt, ok_ib, mt_inst (k + 1) cs]

def hasD (s : List UInt8) : Bool := s.any fun c => c.toNat == 100

theorem mt_self : ∀ (s : List UInt8), mt s s = !hasD s
  | [] => rfl
  | c :: cs => by
    simp only [mt, hasD, List.any_cons]
    rw [mt_self cs]
    unfold ok dig hasD
    by_cases h : c.toNat = 100 <;> simp [h]

theorem mt_cut (s t : List UInt8) (h : t.length + 1 = s.length) : mt s t = false := mt_short s t (by omega)

/-- the first byte spoiled -/
theorem mt_spoil (s t : List UInt8) (hs : 0 < s.length) (ht : 0 < t.length) (h : ok s[0] t[0] = false) : mt s t = false := by
  have := mt_drop s t 0 hs ht
  simp only [List.drop_zero] at this
  rw [this, h]
  rfl

theorem ok_x (c t : UInt8) (h : c.toNat = 100) (ht : t.toNat = 120) : ok c t = false := by
  unfold ok dig
  simp [h, ht]

theorem ok_other (c t : UInt8) (h : c.toNat ≠ 100) (ht : t.toNat ≠ c.toNat) : ok c t = false := by
  unfold ok
  simp [h, ht]

end Go.Proofs.Qxb6603084aMods.Shape
