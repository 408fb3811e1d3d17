/- The plain law, second half: distinct values of a sorted list; the words of a bitmap; the groups of 64. -/
import Derived.Test.Qxb6604148aModsPlain
namespace Go.Proofs.Qxb6604148aMods.P
set_option linter.unusedSimpArgs false

/-! ### the distinct values -/
def step (acc : List Int) (x : Int) : List Int := if acc.getLast? = some x then acc else acc ++ [x]
def dd (l : List Int) : List Int := l.foldl step []

theorem dd_nil : dd [] = [] := rfl
theorem dd_snoc (l : List Int) (x : Int) : dd (l ++ [x]) = step (dd l) x := by simp [dd, List.foldl_append]

theorem last_snoc (l : List Int) (a : Int) : (l ++ [a]).getLast? = some a := by simp
theorem last_some (l : List Int) (h : l ≠ []) : ∃ z, l.getLast? = some z := by
  cases e : l.getLast? with
  | none => rw [List.getLast?_eq_none_iff] at e; exact absurd e h
  | some z => exact ⟨z, rfl⟩

theorem step_length (acc : List Int) (x : Int) : (step acc x).length ≤ acc.length + 1 := by
  unfold step; split <;> simp

theorem dd_spec (S : List Int) (hS : S.Pairwise (· ≤ ·)) : ∀ k, k ≤ S.length →
    (dd (S.take k)).Pairwise (· < ·) ∧ (∀ x, x ∈ dd (S.take k) ↔ x ∈ S.take k) ∧ (dd (S.take k)).getLast? = (S.take k).getLast? ∧ (dd (S.take k)).length ≤ k
  | 0, _ => by simp [dd_nil]
  | k + 1, h => by
    obtain ⟨h1, h2, h3, h4⟩ := dd_spec S hS k (by omega)
    have hlt : k < S.length := by omega
    rw [List.take_succ_eq_append_getElem hlt, dd_snoc]
    have hle : ∀ y ∈ S.take k, y ≤ S[k] := by
      intro y hy
      obtain ⟨i, hi, rfl⟩ := List.mem_iff_getElem.1 hy
      simp at hi
      rw [List.getElem_take]
      exact List.pairwise_iff_getElem.1 hS i k (by omega) hlt (by omega)
    unfold step
    by_cases e : (dd (S.take k)).getLast? = some S[k]
    · rw [if_pos e]
      have hm : S[k] ∈ dd (S.take k) := List.mem_of_getLast? e
      refine ⟨h1, fun x => ?_, by rw [e, last_snoc], by omega⟩
      rw [h2, List.mem_append]
      constructor
      · exact .inl
      · rintro (hx | hx)
        · exact hx
        · simp at hx; rw [hx]; exact (h2 _).1 hm
    · rw [if_neg e]
      refine ⟨?_, fun x => ?_, by rw [last_snoc, last_snoc], by simp; omega⟩
      · rw [List.pairwise_append]
        refine ⟨h1, by simp, fun a ha b hb => ?_⟩
        simp at hb
        subst hb
        have hle' := hle a ((h2 a).1 ha)
        rcases Int.lt_or_eq_of_le hle' with hlt' | heq
        · exact hlt'
        · exfalso
          apply e
          have hne : dd (S.take k) ≠ [] := List.ne_nil_of_mem ha
          obtain ⟨z, hz⟩ := last_some _ hne
          have hzm : z ∈ dd (S.take k) := List.mem_of_getLast? hz
          have hz1 := hle z ((h2 z).1 hzm)
          obtain ⟨i, hi, hia⟩ := List.mem_iff_getElem.1 ha
          have hzl : z = (dd (S.take k))[(dd (S.take k)).length - 1]'(by omega) := by
            rw [List.getLast?_eq_getElem?, List.getElem?_eq_getElem (by omega)] at hz
            exact (Option.some.inj hz).symm
          have : a ≤ z := by
            by_cases hil : i = (dd (S.take k)).length - 1
            · subst hil; rw [← hia, hzl]; exact Int.le_refl _
            · have := List.pairwise_iff_getElem.1 h1 i ((dd (S.take k)).length - 1) hi (by omega) (by omega)
              omega
          rw [hz]
          congr 1
          omega
      · rw [List.mem_append, List.mem_append, h2]

/-! ### how many are less -/
def cnt (U : List Int) (x : Int) : Nat := (U.filter fun y => decide (y < x)).length

theorem cnt_le (U : List Int) (x : Int) : cnt U x ≤ U.length := List.length_filter_le _ _

theorem cnt_iff : ∀ (U : List Int) (_ : U.Pairwise (· < ·)) (x : Int) (i : Nat) (hi : i < U.length), U[i] < x ↔ i < cnt U x
  | a :: U, h, x, i, hi => by
    rw [List.pairwise_cons] at h
    by_cases ha : a < x
    · have e : cnt (a :: U) x = cnt U x + 1 := by simp [cnt, ha]
      rw [e]
      cases i with
      | zero => simp [ha]
      | succ i =>
        have hi' : i < U.length := by simpa using hi
        simp only [List.getElem_cons_succ]
        rw [cnt_iff U h.2 x i hi']
        omega
    · have e : cnt (a :: U) x = 0 := by
        unfold cnt
        rw [List.length_eq_zero_iff, List.filter_eq_nil_iff]
        intro y hy
        simp only [decide_eq_true_eq]
        rcases List.mem_cons.1 hy with rfl | hy
        · exact ha
        · have := h.1 y hy; omega
      rw [e]
      constructor
      · intro hlt
        exfalso
        have hm : (a :: U)[i] ∈ a :: U := List.getElem_mem hi
        rcases List.mem_cons.1 hm with hm | hm
        · omega
        · have := h.1 _ hm; omega
      · intro h0; omega

theorem cnt_of (U : List Int) (h : U.Pairwise (· < ·)) (x : Int) (c : Nat) (hc : c ≤ U.length) (hi : ∀ i (hi : i < U.length), U[i] < x ↔ i < c) : cnt U x = c := by
  have h1 := cnt_le U x
  by_cases e : cnt U x < c
  · have := (hi (cnt U x) (by omega)).2 e
    have := (cnt_iff U h x (cnt U x) (by omega)).1 this
    omega
  · by_cases e2 : c < cnt U x
    · have := (cnt_iff U h x c (by omega)).2 e2
      have := (hi c (by omega)).1 this
      omega
    · omega

theorem strict_get (U : List Int) (h : U.Pairwise (· < ·)) (i j : Nat) (hi : i < U.length) (hj : j < U.length) : U[i] < U[j] ↔ i < j := by
  have hp := List.pairwise_iff_getElem.1 h
  constructor
  · intro hlt
    by_cases e : i < j
    · exact e
    · by_cases e2 : i = j
      · subst e2; omega
      · have := hp j i hj hi (by omega); omega
  · intro hij; exact hp i j hi hj hij

theorem cnt_at (U : List Int) (h : U.Pairwise (· < ·)) (i : Nat) (hi : i < U.length) : cnt U U[i] = i :=
  cnt_of U h _ i (by omega) (fun j hj => strict_get U h j i hj hi)

theorem cnt_in (U : List Int) (h : U.Pairwise (· < ·)) (x : Int) (hx : x ∈ U) : ∃ hl : cnt U x < U.length, U[cnt U x] = x ∧ cnt U (x + 1) = cnt U x + 1 := by
  obtain ⟨i, hi, rfl⟩ := List.mem_iff_getElem.1 hx
  have e := cnt_at U h i hi
  refine ⟨by omega, by simp only [e], ?_⟩
  rw [e]
  refine cnt_of U h _ (i + 1) (by omega) fun j hj => ?_
  have := strict_get U h j i hj hi
  have h2 := strict_get U h i j hi hj
  omega

theorem cnt_out (U : List Int) (h : U.Pairwise (· < ·)) (x : Int) (hx : x ∉ U) : cnt U (x + 1) = cnt U x := by
  refine cnt_of U h _ _ (cnt_le U x) fun j hj => ?_
  rw [← cnt_iff U h x j hj]
  have : U[j] ≠ x := fun e => hx (e ▸ List.getElem_mem hj)
  omega

/-! ### the words -/
def wd (l : List Int) (q : Int) : Nat := l.foldl (fun acc x => if x / 64 = q then acc ||| 2 ^ (x % 64).toNat else acc) 0

theorem wd_nil (q : Int) : wd [] q = 0 := rfl
theorem wd_same (l : List Int) (x : Int) : wd (l ++ [x]) (x / 64) = wd l (x / 64) ||| 2 ^ (x % 64).toNat := by simp [wd, List.foldl_append]
theorem wd_other (l : List Int) (x q : Int) (h : ¬ x / 64 = q) : wd (l ++ [x]) q = wd l q := by simp [wd, List.foldl_append, h]

theorem fold_bit (q : Int) (b : Nat) : ∀ (l : List Int) (acc : Nat),
    (l.foldl (fun acc x => if x / 64 = q then acc ||| 2 ^ (x % 64).toNat else acc) acc).testBit b = true ↔ (acc.testBit b = true ∨ ∃ x ∈ l, x / 64 = q ∧ (x % 64).toNat = b)
  | [], acc => by simp
  | x :: l, acc => by
    rw [List.foldl_cons, fold_bit q b l]
    by_cases h : x / 64 = q
    · rw [if_pos h, Nat.testBit_or, Nat.testBit_two_pow]
      simp only [Bool.or_eq_true, decide_eq_true_eq, List.mem_cons, exists_eq_or_imp]
      constructor
      · rintro ((h1 | h1) | h1)
        · exact .inl h1
        · exact .inr (.inl ⟨h, h1⟩)
        · exact .inr (.inr h1)
      · rintro (h1 | h1 | h1)
        · exact .inl (.inl h1)
        · exact .inl (.inr h1.2)
        · exact .inr h1
    · rw [if_neg h]
      simp only [List.mem_cons, exists_eq_or_imp]
      constructor
      · rintro (h1 | h1)
        · exact .inl h1
        · exact .inr (.inr h1)
      · rintro (h1 | h1 | h1)
        · exact .inl h1
        · exact absurd h1.1 h
        · exact .inr h1

theorem wd_bit (l : List Int) (q : Int) (b : Nat) (hb : b < 64) : (wd l q).testBit b = true ↔ (64 * q + (b : Int)) ∈ l := by
  unfold wd
  rw [fold_bit]
  simp only [Nat.zero_testBit, Bool.false_eq_true, false_or]
  constructor
  · rintro ⟨x, hx, h1, h2⟩
    have : x = 64 * q + (b : Int) := by omega
    exact this ▸ hx
  · intro h
    exact ⟨_, h, by omega, by omega⟩

theorem fold_lt (q : Int) : ∀ (l : List Int) (acc : Nat), acc < 2 ^ 64 → l.foldl (fun acc x => if x / 64 = q then acc ||| 2 ^ (x % 64).toNat else acc) acc < 2 ^ 64
  | [], _, h => h
  | x :: l, acc, h => by
    rw [List.foldl_cons]
    apply fold_lt q l
    split
    · exact Nat.or_lt_two_pow h (Nat.pow_lt_pow_right (by omega) (by omega))
    · exact h

theorem wd_lt (l : List Int) (q : Int) : wd l q < 2 ^ 64 := fold_lt q l 0 (by decide)

/-! ### how many distinct ones -/
def nub : List Int → List Int
  | [] => []
  | x :: l => if x ∈ l then nub l else x :: nub l

theorem mem_nub : ∀ (l : List Int) (a : Int), a ∈ nub l ↔ a ∈ l
  | [], _ => Iff.rfl
  | x :: l, a => by
    simp only [nub]
    split
    · rename_i h
      rw [mem_nub l a, List.mem_cons]
      constructor
      · exact .inr
      · rintro (rfl | h')
        · exact h
        · exact h'
    · rw [List.mem_cons, List.mem_cons, mem_nub l a]

theorem nodup_nub : ∀ l : List Int, (nub l).Nodup
  | [] => List.nodup_nil
  | x :: l => by
    simp only [nub]
    split
    · exact nodup_nub l
    · rename_i h
      exact List.nodup_cons.2 ⟨fun h' => h ((mem_nub l x).1 h'), nodup_nub l⟩

def card (l : List Int) : Nat := (nub l).length

theorem card_of (l m : List Int) (hm : m.Nodup) (h : ∀ a, a ∈ l ↔ a ∈ m) : card l = m.length :=
  ((List.perm_ext_iff_of_nodup (nodup_nub l) hm).2 (fun a => (mem_nub l a).trans (h a))).length_eq

theorem card_congr (l m : List Int) (h : ∀ a, a ∈ l ↔ a ∈ m) : card l = card m :=
  card_of l (nub m) (nodup_nub m) (fun a => (h a).trans (mem_nub m a).symm)

theorem card_nil : card [] = 0 := rfl

theorem card_add (l m : List Int) (x : Int) (hx : x ∉ l) (h : ∀ a, a ∈ m ↔ (a ∈ l ∨ a = x)) : card m = card l + 1 := by
  have := card_of m (x :: nub l) (List.nodup_cons.2 ⟨fun h' => hx ((mem_nub l x).1 h'), nodup_nub l⟩) (fun a => by
    rw [h, List.mem_cons, mem_nub]
    constructor
    · rintro (h' | h')
      · exact .inr h'
      · exact .inl h'
    · rintro (h' | h')
      · exact .inr h'
      · exact .inl h')
  simpa [card] using this

def qs (l : List Int) : List Int := l.map (· / 64)

theorem mem_qs (l : List Int) (q : Int) : q ∈ qs l ↔ ∃ x ∈ l, x / 64 = q := by simp [qs]

theorem card_snoc_new (l : List Int) (x : Int) (h : x / 64 ∉ qs l) : card (qs (l ++ [x])) = card (qs l) + 1 :=
  card_add _ _ _ h (fun a => by simp [qs])

theorem card_snoc_old (l : List Int) (x : Int) (h : x / 64 ∈ qs l) : card (qs (l ++ [x])) = card (qs l) :=
  card_congr _ _ (fun a => by
    have e : qs (l ++ [x]) = qs l ++ [x / 64] := by simp [qs]
    rw [e, List.mem_append]
    constructor
    · rintro (h' | h')
      · exact h'
      · simp at h'; rw [h']; exact h
    · exact .inl)

/-! ### one group of 64 -/
theorem cnt_group (U : List Int) (h : U.Pairwise (· < ·)) (y : Int) (hj : cnt U (64 * y) < U.length) : cnt U (64 * (U[cnt U (64 * y)] / 64)) = cnt U (64 * y) := by
  have hge : ¬ U[cnt U (64 * y)] < 64 * y := fun e => by
    have := (cnt_iff U h _ _ hj).1 e
    omega
  refine cnt_of U h _ _ (cnt_le U _) fun i hi => ?_
  constructor
  · intro hlt
    have : U[i] < U[cnt U (64 * y)] := by omega
    exact (strict_get U h i _ hi hj).1 this
  · intro hlt
    have := (cnt_iff U h _ i hi).2 hlt
    omega

theorem cnt_up (U : List Int) (h : U.Pairwise (· < ·)) (q : Int) (hj : cnt U (64 * q) < U.length) (hq : U[cnt U (64 * q)] / 64 = q) : cnt U (64 * q) < cnt U (64 * (q + 1)) :=
  (cnt_iff U h _ _ hj).1 (by omega)

theorem take_cnt (U : List Int) (h : U.Pairwise (· < ·)) (x a : Int) : a ∈ U.take (cnt U x) ↔ (a ∈ U ∧ a < x) := by
  constructor
  · intro ha
    obtain ⟨i, hi, rfl⟩ := List.mem_iff_getElem.1 ha
    simp at hi
    rw [List.getElem_take]
    exact ⟨List.getElem_mem (by omega), (cnt_iff U h x i (by omega)).2 (by omega)⟩
  · rintro ⟨ha, hlt⟩
    obtain ⟨i, hi, rfl⟩ := List.mem_iff_getElem.1 ha
    have := (cnt_iff U h x i hi).1 hlt
    rw [List.mem_iff_getElem]
    exact ⟨i, by simp; omega, by rw [List.getElem_take]⟩

theorem card_group (U : List Int) (h : U.Pairwise (· < ·)) (q : Int) (hj : cnt U (64 * q) < U.length) (hq : U[cnt U (64 * q)] / 64 = q) :
    card (qs (U.take (cnt U (64 * (q + 1))))) = card (qs (U.take (cnt U (64 * q)))) + 1 := by
  refine card_add _ _ q (fun hx => ?_) (fun a => ?_)
  · obtain ⟨x, hx, e⟩ := (mem_qs _ _).1 hx
    have := ((take_cnt U h _ x).1 hx).2
    omega
  · rw [mem_qs, mem_qs]
    constructor
    · rintro ⟨x, hx, rfl⟩
      obtain ⟨hx1, hx2⟩ := (take_cnt U h _ x).1 hx
      by_cases e : x < 64 * q
      · exact .inl ⟨x, (take_cnt U h _ x).2 ⟨hx1, e⟩, rfl⟩
      · right; omega
    · rintro (⟨x, hx, rfl⟩ | rfl)
      · obtain ⟨hx1, hx2⟩ := (take_cnt U h _ x).1 hx
        exact ⟨x, (take_cnt U h _ x).2 ⟨hx1, by omega⟩, rfl⟩
      · exact ⟨_, (take_cnt U h _ _).2 ⟨List.getElem_mem hj, by omega⟩, hq⟩

/-! ### the highest -/
def mx (l : List Int) : Int := l.foldl (fun a b => if a < b then b else a) 0

theorem mx_snoc (l : List Int) (x : Int) : mx (l ++ [x]) = if mx l < x then x else mx l := by unfold mx; rw [List.foldl_append]; rfl

theorem mx_spec (N : List Int) : ∀ k, k ≤ N.length → (∀ a ∈ N.take k, a ≤ mx (N.take k)) ∧ (mx (N.take k) = 0 ∨ mx (N.take k) ∈ N.take k) ∧ 0 ≤ mx (N.take k)
  | 0, _ => by simp [mx]
  | k + 1, h => by
    obtain ⟨h1, h2, h3⟩ := mx_spec N k (by omega)
    rw [List.take_succ_eq_append_getElem (by omega : k < N.length), mx_snoc]
    refine ⟨fun a ha => ?_, ?_, ?_⟩
    · rcases List.mem_append.1 ha with ha | ha
      · have := h1 a ha; split <;> omega
      · simp at ha; subst ha; split <;> omega
    · split
      · right; exact List.mem_append.2 (.inr (List.mem_singleton.2 rfl))
      · rcases h2 with h2 | h2
        · exact .inl h2
        · exact .inr (List.mem_append.2 (.inl h2))
    · split <;> omega

theorem mx_last (N U : List Int) (hU : U.Pairwise (· < ·)) (hm : ∀ a, a ∈ U ↔ a ∈ N) (hpos : ∀ a ∈ N, 1 ≤ a) (h : 0 < U.length) : mx N = U[U.length - 1] := by
  obtain ⟨h1, h2, h3⟩ := mx_spec N N.length (Nat.le_refl _)
  rw [List.take_length] at h1 h2 h3
  have hl : U[U.length - 1] ∈ N := (hm _).1 (List.getElem_mem (by omega))
  have hge := h1 _ hl
  rcases h2 with h2 | h2
  · have := hpos _ hl; omega
  · obtain ⟨i, hi, e⟩ := List.mem_iff_getElem.1 ((hm _).2 h2)
    by_cases hil : i = U.length - 1
    · subst hil; exact e.symm
    · have := (strict_get U hU i (U.length - 1) hi (by omega)).2 (by omega)
      omega

end Go.Proofs.Qxb6604148aMods.P
