import Derived.Test.Qxb6604148aModsAdd
namespace Go.Proofs.Qxb6604148aMods.A
open Go.RowKit
open Go.Proofs.Qxb6604148aMods.P
set_option linter.unusedSimpArgs false
set_option linter.unusedVariables false

/-- the map value 'mv' is the bitmap of 'l': nil as long as nothing has been added -/
def MS (w : World) (mv : Value) (B : Nat) (l : List Int) : Prop := (mv = .map none ∧ l = []) ∨ ∃ bm, mv = .map (some bm) ∧ B ≤ bm ∧ Bits w bm l

set_option maxHeartbeats 1000000 in
theorem zz_some (bm : Nat) (h n : Int) (l : List Int) (w : World) (hn : 1 ≤ n) (hn2 : n ≤ 9223372036854775807) (hh0 : 0 ≤ h) (hh : h ≤ 9223372036854775807) (hB : Bits w bm l) (hl : l.length ≤ 65536) :
    Calls Trym.prog 6 #[.map (some bm), .int .i64 h, .int .i64 n] w fun e w' => e = .returned (.tuple #[.map (some bm), .int .i64 (if h < n then n else h)]) ∧ Bits w' bm (l ++ [n]) ∧ (∀ B, B ≤ bm → Below B w w') := by
  obtain ⟨m, hm⟩ : ∃ m, m = if h < n then n else h := ⟨_, rfl⟩
  rw [← hm]
  have HM : Hid (m = if h < n then n else h) := hm
  clear hm
  have hz := hB.lt
  have hB1 : Hid (Bits (w.alloc (.cells #[.map (some bm), .int .i64 h] 32)) bm l) := hB.alloc _
  go_enter Trym.func6, Trym.ntmps6
  go_wp2_with (go_at_call 8; refine (add_some w.heap.size bm n h l _ hn hn2 hh0 hh (by simp [World.cell?_alloc_at]) (by simp [World.cell?_alloc_at]) (by simp) hB1.out hl).mono ?_; rintro e w1 ⟨rfl, ⟨a0, a1, aB⟩, hbel⟩)
  rw [← HM.out] at a1
  go_quiet (fail)
  go_wp2
  go_ret2
  exact ⟨rfl, aB, fun B h1 => bel_drewN (((Below.refl B w).alloc (by omega) _).trans (hbel B (by omega) h1)) _⟩

set_option maxHeartbeats 1000000 in
theorem zz_nil (h n : Int) (w : World) (hn : 1 ≤ n) (hn2 : n ≤ 9223372036854775807) (hh0 : 0 ≤ h) (hh : h ≤ 9223372036854775807) :
    Calls Trym.prog 6 #[.map none, .int .i64 h, .int .i64 n] w fun e w' => ∃ bm, e = .returned (.tuple #[.map (some bm), .int .i64 (if h < n then n else h)]) ∧ w.heap.size ≤ bm ∧ Bits w' bm [n] ∧ Below w.heap.size w w' := by
  obtain ⟨m, hm⟩ : ∃ m, m = if h < n then n else h := ⟨_, rfl⟩
  rw [← hm]
  have HM : Hid (m = if h < n then n else h) := hm
  clear hm
  go_enter Trym.func6, Trym.ntmps6
  go_wp2_with (go_at_call 8; refine (add_nil w.heap.size n h _ hn hn2 hh0 hh (by simp [World.cell?_alloc_at]) (by simp [World.cell?_alloc_at]) (by simp) (by simp)).mono ?_; rintro e w1 ⟨rfl, ⟨a0, a1, aB⟩, hbel⟩)
  rw [← HM.out] at a1
  have e : (w.alloc (.cells #[.map none, .int .i64 h] 32)).heap.size = w.heap.size + 1 := by simp
  rw [e] at aB
  clear e
  go_quiet (fail)
  go_wp2
  go_ret2
  exact ⟨_, rfl, by omega, aB, bel_drewN (((Below.refl _ w).alloc (Nat.le_refl _) _).trans (hbel w.heap.size (Nat.le_refl _))) _⟩

theorem zz_any (mv : Value) (h n : Int) (l : List Int) (w : World) (B : Nat) (hBw : B ≤ w.heap.size) (hMS : MS w mv B l) (hn : 1 ≤ n) (hn2 : n ≤ 9223372036854775807) (hh0 : 0 ≤ h) (hh : h ≤ 9223372036854775807) (hl : l.length ≤ 65536) :
    Calls Trym.prog 6 #[mv, .int .i64 h, .int .i64 n] w fun e w' => ∃ bm, e = .returned (.tuple #[.map (some bm), .int .i64 (if h < n then n else h)]) ∧ B ≤ bm ∧ Bits w' bm (l ++ [n]) ∧ Below B w w' := by
  rcases hMS with ⟨rfl, rfl⟩ | ⟨bm, rfl, hb, hB⟩
  · exact (zz_nil h n w hn hn2 hh0 hh).mono fun e w' ⟨bm, he, h1, h2, h3⟩ => ⟨bm, he, by omega, h2, h3.mono hBw⟩
  · exact (zz_some bm h n l w hn hn2 hh0 hh hB hl).mono fun e w' ⟨he, h1, h2⟩ => ⟨bm, he, hb, h1, h2 B hb⟩

end Go.Proofs.Qxb6604148aMods.A
