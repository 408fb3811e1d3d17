import Derived.Test.Qxb6604148aModsZZ
namespace Go.Proofs.Qxb6604148aMods.A
open Go.RowKit
open Go.Proofs.Qxb6604148aMods.P
set_option linter.unusedSimpArgs false
set_option linter.unusedVariables false

theorem bytes_yes (ao : Option Addr) (n c : Nat) (w : World) (h : n ≤ 1048576) : Calls Trym.prog 4 #[.slice ao n c] w fun e w' => e = .returned (.bool true) ∧ w = w' := by
  go_enter Trym.func4, Trym.ntmps4
  go_wp2
  go_ret
  exact ⟨rfl, rfl⟩
theorem bytes_no (ao : Option Addr) (n c : Nat) (w : World) (h : (1048576 : Int) < (n : Int)) : Calls Trym.prog 4 #[.slice ao n c] w fun e w' => e = .returned (.bool false) ∧ w = w' := by
  go_enter Trym.func4, Trym.ntmps4
  go_wp2
  go_ret
  exact ⟨rfl, rfl⟩

theorem law_big (ao : Option Addr) (n c : Nat) (w : World) (h : (1048576 : Int) < (n : Int)) : Calls Trym.prog 3 #[.slice ao n c] w fun e w' => e = .returned (.bool true) ∧ Below w.heap.size w w' := by
  go_enter Trym.func3, Trym.ntmps3
  go_wp2_with (go_at_call 4; refine (bytes_no ao n c _ h).mono ?_; rintro e w' ⟨rfl, rfl⟩)
  go_ret
  exact ⟨rfl, Below.refl _ _⟩

theorem law_long (ao : Option Addr) (n c : Nat) (w : World) (h : n ≤ 1048576) (h2 : (65536 : Int) < (n : Int)) : Calls Trym.prog 3 #[.slice ao n c] w fun e w' => e = .returned (.bool true) ∧ Below w.heap.size w w' := by
  go_enter Trym.func3, Trym.ntmps3
  go_wp2_with (go_at_call 4; refine (bytes_yes ao n c _ h).mono ?_; rintro e w' ⟨rfl, rfl⟩)
  go_ret
  exact ⟨rfl, Below.refl _ _⟩

/-- a slice whose elements can be read -/
def Plain (w : World) (ao : Option Addr) (N : List Int) : Prop := ∀ k (hk : k < N.length), ∃ b o, ao = some ⟨b, o, none⟩ ∧ w.cell? ⟨b, o + k, none⟩ = some (.int .i64 N[k])

theorem clone_any (ao : Option Addr) (n c : Nat) (N : List Int) (w : World) (hN : N.length = n) (hn : n ≤ 1048576) (harg : Arg w ao N) (hnil : ao = none → c = 0) :
    Calls Trym.prog 5 #[.slice ao n c] w fun e w' => ∃ ao' c', e = .returned (.slice ao' n c') ∧ Arg w' ao' N ∧ Plain w' ao' N ∧ Below w.heap.size w w' ∧ (∀ B, Below w'.heap.size w' B → Plain B ao' N ∧ Arg B ao' N) := by
  cases ao with
  | none =>
    have hc := hnil rfl
    subst hc
    have hN0 : N = [] := by
      rcases harg with ⟨_, h⟩ | ⟨x, h, _⟩
      · exact h
      · cases h
    subst hN0
    have hn0 : n = 0 := hN.symm
    subst hn0
    refine (clone_nil w).mono fun e w' ⟨he, hw⟩ => ?_
    subst hw
    exact ⟨none, 0, he, .inl ⟨rfl, rfl⟩, fun k hk => absurd hk (Nat.not_lt_zero _), Below.refl _ _, fun B _ => ⟨fun k hk => absurd hk (Nat.not_lt_zero _), .inl ⟨rfl, rfl⟩⟩⟩
  | some x =>
    refine (clone_some x n c N w hN hn harg).mono fun e w' ⟨he, hblk, hbel⟩ => ?_
    have key : ∀ B, Blk B w.heap.size N → Plain B (some ⟨w.heap.size, 0, none⟩) N ∧ Arg B (some ⟨w.heap.size, 0, none⟩) N := fun B hB =>
      ⟨fun k hk => ⟨w.heap.size, 0, rfl, by rw [Nat.zero_add]; exact hB.cell k hk⟩, .inr ⟨_, rfl, fun j hj => by
        have e : (⟨w.heap.size, 0, none⟩ : Addr).add j = ⟨w.heap.size, j, none⟩ := by unfold Addr.add; split <;> simp_all
        rw [e]; exact hB.cell j hj⟩⟩
    exact ⟨some ⟨w.heap.size, 0, none⟩, n, he, (key w' hblk).2, (key w' hblk).1, hbel, fun B hB => key B (hblk.below hB)⟩

/-- what stands at the head of each round of the adding -/
def R6 (w1 : World) (n : Nat) (N : List Int) (mv0 hv iv : Value) (wr : World) : Prop :=
  ∃ (k : Nat) (h : Int) (mv : Value), mv = mv0 ∧ k ≤ n ∧ iv = .int .i64 (k : Int) ∧ hv = .int .i64 h ∧ Hid (h = mx (N.take k)) ∧ MS wr mv w1.heap.size (N.take k) ∧ Below w1.heap.size w1 wr

theorem mx_bd (N : List Int) (k : Nat) (hk : k ≤ N.length) (hall : ∀ x ∈ N, 1 ≤ x ∧ x ≤ 9223372036854775807) : 0 ≤ mx (N.take k) ∧ mx (N.take k) ≤ 9223372036854775807 := by
  obtain ⟨h1, h2, h3⟩ := mx_spec N k hk
  refine ⟨h3, ?_⟩
  rcases h2 with h2 | h2
  · omega
  · exact (hall _ (List.mem_of_mem_take h2)).2

theorem r6_next {w1 w2 : World} {n : Nat} {N : List Int} {k bm : Nat} {h : Int} (hN : N.length = n) (hlt : k < n) (hm : h = mx (N.take k)) (hbm : w1.heap.size ≤ bm) (hB : Bits w2 bm (N.take k ++ [N[k]'(by omega)])) (hbel : Below w1.heap.size w1 w2) :
    R6 w1 n N (.map (some bm)) (.int .i64 (if h < N[k]'(by omega) then N[k]'(by omega) else h)) (.int .i64 ((k : Int) + 1)) w2 := by
  have e : N.take (k + 1) = N.take k ++ [N[k]'(by omega)] := List.take_succ_eq_append_getElem (by omega)
  refine ⟨k + 1, _, _, rfl, by omega, by go_num, rfl, ?_, .inr ⟨bm, rfl, hbm, by rw [e]; exact hB⟩, hbel⟩
  show _ = mx (N.take (k + 1))
  rw [e, mx_snoc, hm]

theorem Bits.below {w w' : World} {bm : Nat} {l : List Int} (h : Bits w bm l) (hb : Below w.heap.size w w') : Bits w' bm l := by
  have hlt := h.lt
  obtain ⟨D, ⟨es, clock, hm, r1⟩, r2⟩ := h
  exact ⟨D, ⟨es, clock, by rw [hb.block bm hlt]; exact hm, r1⟩, r2⟩

theorem u_facts {N U : List Int} {n g : Nat} {h : Int} {w3 : World} (hN : N.length = n) (hn0 : 0 < n) (hU : ∀ j (hj : j < U.length), w3.cell? ⟨g, j, none⟩ = some (.int .i64 U[j])) (hUs : U.Pairwise (· < ·)) (hUm : ∀ x, x ∈ U ↔ x ∈ N) (hmx : h = mx N)
    (hall : ∀ x ∈ N, 1 ≤ x ∧ x ≤ 9223372036854775807) : 0 < U.length ∧ ((U.length : Int) == 0) = false ∧ w3.cell? ⟨g, U.length - 1, none⟩ = some (.int .i64 h) := by
  have h0 : 0 < U.length := by
    have : N[0]'(by omega) ∈ U := (hUm _).2 (List.getElem_mem (by omega))
    exact List.length_pos_of_mem this
  refine ⟨h0, by simp only [beq_eq_false_iff_ne, ne_eq]; omega, ?_⟩
  rw [hU (U.length - 1) (by omega), hmx, mx_last N U hUs hUm (fun a ha => (hall a ha).1) h0]

theorem look_of {w : World} {bm : Nat} {N : List Int} (hB : Bits w bm N) (q : Int) (hq : q ∈ qs N) (h1 : 0 ≤ q) (h2 : q ≤ 9223372036854775807) :
    (Instr.lookup 25 (.map (some bm)) (.int .i64 q) true).run Trym.prog w = .ok (.tuple #[.int .u64 (wd N q : Int), .bool true]) w := by
  obtain ⟨D, hown, hhas, hat, hsize⟩ := hB
  have hkey := Maps.keyOf_int_mk (P := Trym.prog) Trym.underlying3 (a := q) (WalkArith.wf_i64 (by omega))
  obtain ⟨v, ps, hrun, hv⟩ := hown.look_ok law Trym.underlying25 (zeroE _) (plainElem_int (H := Unit) Trym.underlying28 (WalkArith.wf_u64 (by omega))) hkey
  obtain ⟨c, rfl, hc, _⟩ := plainElem_int_inv Trym.underlying28 hv
  rw [hrun, (hhas q).2 hq]
  have e : c = (wd N q : Int) := by
    have := congrArg Prod.fst hc
    simp only [hat q] at this
    simpa using this.symm
  rw [e]

theorem len_of {w : World} {bm : Nat} {N : List Int} (hB : Bits w bm N) (ty : TypeId) : (Builtin.len_ #[25] ty #[.map (some bm)]).run Trym.prog w = .ok (.int .i64 (card (qs N) : Int)) w := by
  obtain ⟨D, hown, hhas, hat, hsize⟩ := hB
  rw [hown.len Trym.underlying25 ty, hsize]

theorem nub_le : ∀ l : List Int, (nub l).length ≤ l.length
  | [] => Nat.le_refl _
  | x :: l => by
    have := nub_le l
    simp only [nub]
    split <;> simp <;> omega

theorem card_le (l : List Int) : card (qs l) ≤ l.length := by
  have := nub_le (qs l)
  simpa [card, qs] using this

theorem cnt_zero (U : List Int) (h : ∀ x ∈ U, 1 ≤ x) : cnt U (64 * 0) = 0 := by
  unfold cnt
  rw [List.length_eq_zero_iff, List.filter_eq_nil_iff]
  intro y hy
  have := h y hy
  simp
  omega

theorem test_bit (c b : Nat) (hc : c < 2 ^ 64) : (bits .and .u64 ((c : Int) / 2 ^ b) 1 == 1) = c.testBit b := by
  have e : ((c : Int) / 2 ^ b) = ((c / 2 ^ b : Nat) : Int) := by simp
  have hle : c / 2 ^ b ≤ c := Nat.div_le_self _ _
  rw [e]
  generalize hd : c / 2 ^ b = d at hle
  rw [and_one_u64 (d : Int) (by omega) (by omega), Nat.testBit_eq_decide_div_mod_eq, hd, Bool.eq_iff_iff]
  simp only [beq_iff_eq, decide_eq_true_eq]
  omega

theorem start_cnt {U : List Int} (h : U.Pairwise (· < ·)) {j : Nat} {y q : Int} (hj : j = cnt U (64 * y)) (hlt : j < U.length) (hq : U[j] / 64 = q) : j = cnt U (64 * q + ((0 : Nat) : Int)) ∧ j = cnt U (64 * q) := by
  subst hj
  have := cnt_group U h y hlt
  rw [hq] at this
  exact ⟨by rw [show (64 * q + ((0 : Nat) : Int)) = 64 * q from by omega, this], this.symm⟩

theorem in_facts {U : List Int} (h : U.Pairwise (· < ·)) {j : Nat} {q : Int} {b : Nat} (hj : j = cnt U (64 * q + b)) (hin : (64 * q + (b : Int)) ∈ U) : ∃ hl : j < U.length, U[j] = 64 * q + b ∧ j + 1 = cnt U (64 * q + ((b + 1 : Nat) : Int)) := by
  subst hj
  obtain ⟨hl, h1, h2⟩ := cnt_in U h _ hin
  exact ⟨hl, h1, by rw [← h2]; congr 1; omega⟩

theorem out_facts {U : List Int} (h : U.Pairwise (· < ·)) {j : Nat} {q : Int} {b : Nat} (hj : j = cnt U (64 * q + b)) (hin : (64 * q + (b : Int)) ∉ U) : j = cnt U (64 * q + ((b + 1 : Nat) : Int)) := by
  subst hj
  rw [← cnt_out U h _ hin]
  congr 1
  omega

theorem end_facts {U : List Int} (h : U.Pairwise (· < ·)) {j j2 : Nat} {q : Int} {b : Nat} (hb : b = 64) (hj2 : j2 = cnt U (64 * q + b)) (hj : j = cnt U (64 * q)) (hlt : j < U.length) (hq : U[j] / 64 = q) :
    j2 = cnt U (64 * (q + 1)) ∧ j < j2 ∧ card (qs (U.take j2)) = card (qs (U.take j)) + 1 ∧ (∀ hl : j2 < U.length, (U[j2] / 64 == q) = false) := by
  have e : j2 = cnt U (64 * (q + 1)) := by rw [hj2, hb]; congr 1; omega
  subst hj
  have h1 := cnt_up U h q hlt hq
  have h2 := card_group U h q hlt hq
  refine ⟨e, by omega, by rw [e]; exact h2, fun hl => ?_⟩
  have : ¬ U[j2] < 64 * (q + 1) := fun h' => by
    have := (cnt_iff U h _ _ hl).1 h'
    omega
  simp only [beq_eq_false_iff_ne, ne_eq]
  omega

/-- what stands at the head of each group -/
def R7 (U : List Int) (gv jv : Value) : Prop :=
  ∃ (j gr : Nat) (y : Int), gv = .int .i64 (gr : Int) ∧ jv = .int .i64 (j : Int) ∧ Hid (j = cnt U (64 * y)) ∧ Hid (gr = card (qs (U.take j))) ∧ j ≤ U.length ∧ gr ≤ 65536

set_option maxHeartbeats 4000000 in
set_option maxRecDepth 8000 in
theorem law_main (ao : Option Addr) (n c : Nat) (N : List Int) (w : World) (hN : N.length = n) (hn : n ≤ 65536) (hn0 : 0 < n) (harg : Arg w ao N) (hpl : Plain w ao N) (hnil : ao = none → c = 0) (hb : ∀ x ∈ N, x ≤ 9223372036854775807) :
    Calls Trym.prog 3 #[.slice ao n c] w fun e w' => e = .returned (.bool true) ∧ Below w.heap.size w w' := by
  have HA : Hid (Arg w ao N) := harg
  have HP : Hid (Plain w ao N) := hpl
  have HN : Hid (ao = none → c = 0) := hnil
  have HBd : Hid (∀ x ∈ N, x ≤ 9223372036854775807) := hb
  clear harg hpl hnil hb
  go_enter Trym.func3, Trym.ntmps3
  go_wp2_with (go_at_call 4; refine (bytes_yes ao n c _ (by omega)).mono ?_; rintro e w' ⟨rfl, rfl⟩)
  go_loop [24] (fun i => ∃ k : Nat, k ≤ n ∧ i = .int .i64 (k : Int) ∧ Hid (∀ x ∈ N.take k, 1 ≤ x)) (fun i => n - (intOf i).toNat)
  case atStart => exact ⟨0, Nat.zero_le _, rfl, fun x hx => by simp at hx⟩
  case round =>
    obtain ⟨k, hk, rfl, hpos⟩ := hrel
    by_cases hlt : k < n
    · obtain ⟨b, o, hao, hcell⟩ := HP.out k (by omega)
      rw [hao]
      by_cases hx : N[k] < 1
      · go_wp2
        go_ret
        exact ⟨rfl, Below.refl _ _⟩
      · go_wp2
        go_round
        case rel =>
          refine ⟨k + 1, by omega, by go_num, fun x hx' => ?_⟩
          rw [List.take_succ_eq_append_getElem (by omega), List.mem_append] at hx'
          rcases hx' with hx' | hx'
          · exact hpos.out x hx'
          · simp at hx'; omega
        case measure => simp [intOf]; omega
    · have hall : Hid (∀ x ∈ N, 1 ≤ x ∧ x ≤ 9223372036854775807) := fun x hx => ⟨hpos.out x (by rw [List.take_of_length_le (by omega)]; exact hx), HBd.out x hx⟩
      clear hpos
      go_wp2_with (go_at_call 5; refine (clone_any ao n c N _ hN (by omega) HA.out HN.out).mono ?_; rintro e w1 ⟨ao1, c1, rfl, harg1, hpl1, hbel1, hkeep1⟩)
      have HK : Hid (∀ B, Below w1.heap.size w1 B → Plain B ao1 N ∧ Arg B ao1 N) := hkeep1
      clear hkeep1 harg1 hpl1
      go_loopw [5, 6, 35] (fun mv hv iv wr => R6 w1 n N mv hv iv wr) (fun _ _ i _ => n - (intOf i).toNat)
      case atStart => exact ⟨0, 0, _, rfl, Nat.zero_le _, rfl, rfl, rfl, .inl ⟨rfl, rfl⟩, Below.refl _ _⟩
      case round =>
        obtain ⟨k2, h, mv, rfl, hk2, rfl, rfl, hmx, hMS, hbw⟩ := hrel
        have hbd : 0 ≤ h ∧ h ≤ 9223372036854775807 := by rw [hmx.out]; exact mx_bd N k2 (by omega) hall.out
        obtain ⟨hb0, hb1⟩ := hbd
        by_cases hlt2 : k2 < n
        · obtain ⟨b, o, hao, hcell⟩ := (HK.out wr hbw).1 k2 (by omega)
          obtain ⟨n1, n2⟩ := hall.out N[k2] (List.getElem_mem (by omega))
          rw [hao]
          go_wp2_with (go_at_call 6; refine (zz_any mv h N[k2] (N.take k2) _ w1.heap.size hbw.size hMS n1 n2 hb0 hb1 (by simp; omega)).mono ?_; rintro e w2 ⟨bm, rfl, hbm, hB2, hbel2⟩)
          go_roundw
          case rel => exact r6_next hN hlt2 hmx.out hbm hB2 (hbw.trans hbel2)
          case measure => simp [intOf]; omega
        · have ek : N.take k2 = N := List.take_of_length_le (by omega)
          have hMS' : MS wr mv w1.heap.size N := by rw [← ek]; exact hMS
          have hmx' : Hid (h = mx N) := by rw [← ek]; exact hmx.out
          obtain ⟨bm, hmv, hbm, hB⟩ : ∃ bm, mv = Value.map (some bm) ∧ w1.heap.size ≤ bm ∧ Bits wr bm N := by
            rcases hMS' with ⟨_, e⟩ | h'
            · rw [e] at hN; simp at hN; omega
            · exact h'
          clear hMS hMS' hmx ek
          rw [hmv]
          have hargr := (HK.out wr hbw).2
          have HAr : Hid (Arg wr ao1 N) := hargr
          clear hargr
          go_wp2_with (go_at_call 7; refine (dist_any ao1 n c1 N _ hN hn HAr.out).mono ?_; rintro e w3 ⟨g, U, rfl, hU, hUs, hUm, hUl, hb3⟩; obtain ⟨hm0, h0', hlast⟩ := u_facts hN hn0 hU hUs hUm hmx'.out hall.out)
          have hB3 : Bits w3 bm N := hB.below hb3
          have HB3 : Hid (Bits w3 bm N) := hB3
          have hfin : Hid (Below w.heap.size w w3) := (hbel1.trans (hbw.mono hbel1.size)).trans (hb3.mono (by have := hbel1.size; have := hbw.size; omega))
          have hUb : Hid (∀ x ∈ U, 1 ≤ x ∧ x ≤ 9223372036854775807) := fun x hx => hall.out x ((hUm x).1 hx)
          have HU : Hid (∀ j (hj : j < U.length), w3.cell? ⟨g, j, none⟩ = some (.int .i64 U[j])) := hU
          have HUs : Hid (U.Pairwise (· < ·)) := hUs
          have HUm : Hid (∀ x, x ∈ U ↔ x ∈ N) := hUm
          clear hB hB3 hU hUs hUm hb3 hbw hbel1
          go_loop [10, 11] (fun gv jv => R7 U gv jv) (fun _ j => U.length - (intOf j).toNat)
          case atStart => exact ⟨0, 0, 0, rfl, rfl, (cnt_zero U (fun x hx => (hUb.out x hx).1)).symm, rfl, Nat.zero_le _, by omega⟩
          case round =>
            obtain ⟨j, gr, y, rfl, rfl, hj, hgr, hjl, hgl⟩ := hrel
            by_cases hjlt : j < U.length
            · have cj := HU.out j hjlt
              obtain ⟨u1, u2⟩ := hUb.out U[j] (List.getElem_mem hjlt)
              obtain ⟨q, hq⟩ : ∃ q, U[j] / 64 = q := ⟨_, rfl⟩
              have hq0 : 0 ≤ q := by omega
              have hq2 : q ≤ 144115188075855871 := by omega
              have hlook := look_of HB3.out q ((mem_qs N q).2 ⟨U[j], (HUm.out _).1 (List.getElem_mem hjlt), hq⟩) (by omega) (by omega)
              have hwl := wd_lt N q
              obtain ⟨c2, hc2⟩ : ∃ c2, c2 = wd N q := ⟨_, rfl⟩
              rw [← hc2] at hlook hwl
              have HC : Hid (c2 = wd N q) := hc2
              clear hc2
              go_wp2
              go_loop [11, 15] (fun jv bv => ∃ b j' : Nat, b ≤ 64 ∧ bv = .int .i64 (b : Int) ∧ jv = .int .i64 (j' : Int) ∧ Hid (j' = cnt U (64 * q + b)) ∧ j' ≤ U.length) (fun _ b => 64 - (intOf b).toNat)
              case atStart => exact ⟨0, j, by omega, rfl, rfl, (start_cnt HUs.out hj.out hjlt hq).1, hjl⟩
              case round =>
                obtain ⟨b, j2, hb64, rfl, rfl, hj2, hj2l⟩ := hrel
                by_cases hblt : b < 64
                · have htb : Hid ((bits .and .u64 ((c2 : Int) / 2 ^ b) 1 == 1) = c2.testBit b) := test_bit c2 b hwl
                  have hbit : Hid (c2.testBit b = true ↔ (64 * q + (b : Int)) ∈ U) := by rw [HC.out]; exact (wd_bit N q b hblt).trans (HUm.out _).symm
                  by_cases hin : (64 * q + (b : Int)) ∈ U
                  · have ht : (bits .and .u64 ((c2 : Int) / 2 ^ b) 1 == 1) = true := by rw [htb.out]; exact hbit.out.2 hin
                    obtain ⟨hl, hu, hnx⟩ := in_facts HUs.out hj2.out hin
                    have HNX : Hid (j2 + 1 = cnt U (64 * q + ((b + 1 : Nat) : Int))) := hnx
                    have cj2 : w3.cell? ⟨g, j2, none⟩ = some (.int .i64 (64 * q + b)) := by rw [HU.out j2 hl, hu]
                    clear hin hu hnx
                    go_wp2
                    go_round
                    case rel => exact ⟨b + 1, j2 + 1, by omega, by go_num, by go_num, HNX.out, by omega⟩
                    case measure => simp [intOf]; omega
                  · have ht : (bits .and .u64 ((c2 : Int) / 2 ^ b) 1 == 1) = false := by
                      rw [htb.out]
                      cases hb' : c2.testBit b
                      · rfl
                      · exact absurd (hbit.out.1 hb') hin
                    have HNX : Hid (j2 = cnt U (64 * q + ((b + 1 : Nat) : Int))) := out_facts HUs.out hj2.out hin
                    clear hin
                    go_wp2
                    go_round
                    case rel => exact ⟨b + 1, j2, by omega, by go_num, rfl, HNX.out, hj2l⟩
                    case measure => simp [intOf]; omega
                · obtain ⟨e1, e2, e3, e4⟩ := end_facts HUs.out (by omega : b = 64) hj2.out (start_cnt HUs.out hj.out hjlt hq).2 hjlt hq
                  have E1 : Hid (j2 = cnt U (64 * (q + 1))) := e1
                  have E3 : Hid (gr + 1 = card (qs (U.take j2))) := by rw [e3, ← hgr.out]; rfl
                  have hgl2 : gr + 1 ≤ 65536 := by rw [E3.out]; have := card_le (U.take j2); simp at this; omega
                  clear e1 e3
                  by_cases hj3 : j2 < U.length
                  · have cj3 := HU.out j2 hj3
                    obtain ⟨v1, v2⟩ := hUb.out U[j2] (List.getElem_mem hj3)
                    have e4' := e4 hj3
                    clear e4
                    go_wp2
                    go_round
                    case rel => exact ⟨j2, gr + 1, q + 1, by go_num, rfl, E1.out, E3.out, hj2l, hgl2⟩
                    case measure => simp [intOf]; omega
                  · clear e4
                    go_wp2
                    go_round
                    case rel => exact ⟨j2, gr + 1, q + 1, by go_num, rfl, E1.out, E3.out, hj2l, hgl2⟩
                    case measure => simp [intOf]; omega
            · have hgN : (gr : Int) = (card (qs N) : Int) := by
                have e0 : U.take j = U := List.take_of_length_le (by omega)
                rw [hgr.out, e0, card_congr (qs U) (qs N) (fun a => by rw [mem_qs, mem_qs]; constructor <;> (rintro ⟨x, hx, e⟩; first | exact ⟨x, (HUm.out x).1 hx, e⟩ | exact ⟨x, (HUm.out x).2 hx, e⟩))]
              have hlen := fun ty => len_of HB3.out ty
              rw [← hgN] at hlen
              clear hgN
              go_wp2
              go_ret
              exact ⟨rfl, hfin.out⟩

end Go.Proofs.Qxb6604148aMods.A
