import Derived.Test.Qxb6604148aModsLaw
import Derived.OpenShut
namespace Go.Proofs.Qxb6604148aMods.A
open Go.RowKit
open Go.Proofs.Qxb6604148aMods.P
set_option linter.unusedSimpArgs false
set_option linter.unusedVariables false

set_option maxHeartbeats 1000000 in
set_option maxRecDepth 8000 in
theorem law_zero (ao : Option Addr) (c : Nat) (w : World) (hnil : ao = none → c = 0) :
    Calls Trym.prog 3 #[.slice ao 0 c] w fun e w' => e = .returned (.bool true) ∧ Below w.heap.size w w' := by
  have harg : Arg w ao [] := by
    cases ao with
    | none => exact .inl ⟨rfl, rfl⟩
    | some x => exact .inr ⟨x, rfl, fun j hj => absurd hj (Nat.not_lt_zero _)⟩
  have HA : Hid (Arg w ao []) := harg
  have HN : Hid (ao = none → c = 0) := hnil
  have hlen := fun (W : World) (ty : TypeId) => Maps.len_nil (P := Trym.prog) (w := W) (k := 3) (e := 28) (t := 25) Trym.underlying25 ty
  clear harg hnil
  go_enter Trym.func3, Trym.ntmps3
  go_wp2_with (go_at_call 4; refine (bytes_yes ao 0 c _ (by omega)).mono ?_; rintro e w' ⟨rfl, rfl⟩)
  go_loop [24] (fun i => i = .int .i64 0) (fun _ => 0)
  case atStart => exact rfl
  case round =>
    obtain rfl := hrel
    go_wp2_with (go_at_call 5; refine (clone_any ao 0 c [] _ rfl (by omega) HA.out HN.out).mono ?_; rintro e w1 ⟨ao1, c1, rfl, harg1, hpl1, hbel1, hkeep1⟩)
    clear hkeep1 hpl1
    have HA1 : Hid (Arg w1 ao1 []) := harg1
    clear harg1
    go_loop [5, 6, 35] (fun mv hv i => mv = .map none ∧ hv = .int .i64 0 ∧ i = .int .i64 0) (fun _ _ _ => 0)
    case atStart => exact ⟨rfl, rfl, rfl⟩
    case round =>
      obtain ⟨rfl, rfl, rfl⟩ := hrel
      go_wp2_with (go_at_call 7; refine (dist_any ao1 0 c1 [] _ rfl (by omega) HA1.out).mono ?_; rintro e w3 ⟨g, U, rfl, hU, hUs, hUm, hUl, hb3⟩; have hl0 : ((U.length : Int) == 0) = true := by (simp only [beq_iff_eq]; omega))
      go_ret
      exact ⟨rfl, hbel1.trans (hb3.mono hbel1.size)⟩

/-- WHAT THE WALK IS TOLD OF A SLICE OF INTEGERS THAT CAME IN: it is nil; or it leads to a row of 'cap' cells, the numbers 'zs' (the first 'len' are its elements, the rest its spare room), each fitting its kind. -/
def IsRow (k : IntKind) (w : World) (a : Option Addr) (len cap : Nat) (zs : List Int) : Prop :=
  (a = none ∧ len = 0 ∧ cap = 0 ∧ zs = []) ∨
  ∃ x, a = some x ∧ len ≤ cap ∧ cap ≤ maxLen ∧ zs.length = cap ∧ (∀ i, i < zs.length → w.cell? (x.add i) = some (.int k (zs.getD i 0))) ∧ ∀ n ∈ zs, (Lit.int k n).wf = true

theorem walk (a0 : Option Addr) (len0 cap0 : Nat) (z0 : List Int) (w : World) (w0 : IsRow .i64 w a0 len0 cap0 z0) :
    Calls Trym.prog 3 #[.slice a0 len0 cap0] w fun e w' => e = .returned (.bool true) ∧ Below w.heap.size w w' := by
  by_cases h1 : (1048576 : Int) < (len0 : Int)
  · exact law_big a0 len0 cap0 w h1
  · by_cases h2 : (65536 : Int) < (len0 : Int)
    · exact law_long a0 len0 cap0 w (by omega) h2
    · by_cases h0 : len0 = 0
      · subst h0
        refine law_zero a0 cap0 w (fun e => ?_)
        rcases w0 with ⟨_, _, hc, _⟩ | ⟨x, hx, _⟩
        · exact hc
        · rw [e] at hx; cases hx
      · rcases w0 with ⟨_, hl, _⟩ | ⟨x, rfl, hlc, hcm, hzl, hcell, hwf⟩
        · exact absurd hl h0
        · have hN : (z0.take len0).length = len0 := by simp; omega
          obtain ⟨b, o, hx, hc⟩ := ints_at hcell (by omega)
          have hget : ∀ k (hk : k < (z0.take len0).length), (z0.take len0)[k] = z0.getD k 0 := fun k hk => by
            rw [List.getElem_take]
            simp [List.getD, List.getElem?_eq_getElem (show k < z0.length by simp at hk; omega)]
          refine law_main (some x) len0 cap0 (z0.take len0) w hN (by omega) (by omega) (.inr ⟨x, rfl, fun j hj => ?_⟩) (fun k hk => ⟨b, o, by rw [hx], ?_⟩) (fun e => by cases e) (fun y hy => ?_)
          · rw [hget j hj]; exact hcell j (by simp at hj; omega)
          · rw [hget k hk]; exact hc k (by simp at hk; omega)
          · exact (bounds_i64 (hwf y (List.mem_of_mem_take hy))).2

end Go.Proofs.Qxb6604148aMods.A
