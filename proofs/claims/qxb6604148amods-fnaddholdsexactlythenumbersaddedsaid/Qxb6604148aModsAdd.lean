import Derived.Test.Qxb6604148aModsDist
import Derived.Maps.Own
import Derived.Maps.OwnOps
import Derived.Maps.OwnSet
import Derived.Maps.Views
namespace Go.Proofs.Qxb6604148aMods.A
open Go.RowKit
open Go.Proofs.Qxb6604148aMods.P
open Go.Maps (Keyed int_keyed)
set_option linter.unusedSimpArgs false
set_option linter.unusedVariables false

theorem law : Keyed Trym.prog 3 := int_keyed Trym.underlying3
theorem zeroE (w : World) : (zeroValue 28).run Trym.prog w = .ok (.int .u64 0) w := by kernel_rfl

/-- block 'bm' is the bitmap of the numbers 'l' -/
def Bits (w : World) (bm : Nat) (l : List Int) : Prop :=
  ∃ D : DataW Unit, w.ownsMap Trym.prog 3 (plainElem Trym.prog 28) bm l.length D ∧ (∀ q, Maps.has D (.int .i64 q) = true ↔ q ∈ qs l) ∧
    (∀ q, D.atKey (.int .i64 q) (.lit (.int .u64 0)) = .lit (.int .u64 (wd l q : Int))) ∧ Maps.size D = card (qs l)

theorem or_val (a k : Nat) (ha : a < 2 ^ 64) (hk : k < 64) : bits .or .u64 (a : Int) (IntKind.u64.wrap ((2 : Int) ^ k)) = ((a ||| 2 ^ k : Nat) : Int) := by
  have h2 : (2 : Nat) ^ k < 2 ^ 64 := Nat.pow_lt_pow_right (by omega) hk
  have e : IntKind.u64.wrap ((2 : Int) ^ k) = ((2 ^ k : Nat) : Int) := by
    rw [IntKind.wrap_u64, show ((2 : Int) ^ k) = ((2 ^ k : Nat) : Int) from by simp]
    generalize (2 : Nat) ^ k = m at h2 ⊢
    exact Int.emod_eq_of_lt (by omega) (by omega)
  rw [e]
  exact bits_or_u64_nat a (2 ^ k) (by omega) (by omega)

theorem bits_step (w : World) (bm : Nat) (l : List Int) (n : Int) (hB : Bits w bm l) (hn : 1 ≤ n) (hn2 : n ≤ 9223372036854775807) (hl : l.length ≤ 65536) :
    ∃ (c : Int) (w2 : World), (Instr.lookup 25 (.map (some bm)) (.int .i64 (n / 64)) false).run Trym.prog w = .ok (.int .u64 c) w ∧
      (Instr.mapUpdate 25 (.map (some bm)) (.int .i64 (n / 64)) (.int .u64 (bits .or .u64 c (IntKind.u64.wrap (2 ^ (n % 64).toNat))))).run Trym.prog w = .ok () w2 ∧ Bits w2 bm (l ++ [n]) ∧ w.grownBy w2 (some bm) := by
  obtain ⟨D, hown, hhas, hat, hsize⟩ := hB
  have hkey := Maps.keyOf_int_mk (P := Trym.prog) Trym.underlying3 (a := n / 64) (WalkArith.wf_i64 (by omega))
  obtain ⟨c, hlook, hatc, hwc⟩ := hown.lookup_int law Trym.underlying25 Trym.underlying28 (zeroE _) hkey
  have hc : c = (wd l (n / 64) : Int) := by
    have := hatc.symm.trans (hat (n / 64))
    simpa using this
  have hv : bits .or .u64 c (IntKind.u64.wrap (2 ^ (n % 64).toNat)) = (wd (l ++ [n]) (n / 64) : Int) := by
    rw [hc, or_val _ _ (wd_lt l _) (by omega), wd_same]
  have hlt := wd_lt (l ++ [n]) (n / 64)
  have hwf : (Lit.int .u64 (bits .or .u64 c (IntKind.u64.wrap (2 ^ (n % 64).toNat)))).wf = true := by
    rw [hv]; exact WalkArith.wf_u64 (by omega)
  obtain ⟨w2, hupd, hown2, hg⟩ := hown.update law Trym.underlying25 (by unfold maxLen; omega) hkey (plainElem_int (H := Unit) Trym.underlying28 hwf)
  refine ⟨c, w2, hlook, hupd, ⟨_, by rw [List.length_append]; exact hown2, fun q => ?_, fun q => ?_, ?_⟩, hg⟩
  · by_cases e : q = n / 64
    · subst e
      rw [Maps.has_put_same hown.isMap (show WideAt.IsKeyLit (.int .i64 (n / 64)) from trivial)]
      simp [qs]
    · rw [Maps.has_put_other (by simpa using e), hhas q]
      have e' : ¬ n / 64 = q := fun h => e h.symm
      simp [qs, e, e']
  · by_cases e : q = n / 64
    · subst e
      rw [Maps.atKey_put_same hown.isMap (show WideAt.IsKeyLit (.int .i64 (n / 64)) from trivial), hv]
    · rw [Maps.atKey_put_other (by simpa using e), hat q, wd_other l n q (fun h => e h.symm)]
  · rw [Maps.size_put (hown.tidy law), hsize]
    by_cases e : n / 64 ∈ qs l
    · rw [if_pos ((hhas _).2 e), card_snoc_old l n e]
    · have : Maps.has D (.int .i64 (n / 64)) = false := by
        cases h : Maps.has D (.int .i64 (n / 64))
        · rfl
        · exact absurd ((hhas _).1 h) e
      rw [this, card_snoc_new l n e]
      rfl

theorem not_map {w : World} {sb o bm : Nat} {v : Value} {l : List Int} (c : w.cell? ⟨sb, o, none⟩ = some v) (hB : Bits w bm l) : sb ≠ bm := by
  obtain ⟨D, ⟨es, clock, hb, _⟩, _⟩ := hB
  intro e
  subst e
  simp [World.cell?, hb] at c

theorem grown_cell {w w2 : World} {bm sb o : Nat} {v : Value} (hg : w.grownBy w2 (some bm)) (hne : sb ≠ bm) (c : w.cell? ⟨sb, o, none⟩ = some v) : w2.cell? ⟨sb, o, none⟩ = some v := by
  rw [World.cell?_of_block (w := w) (hg.block sb (World.block_lt_of_cell? w _ c) (by simpa using hne))]
  exact c

theorem grown_frozen {w w2 : World} {bm sb o : Nat} {v : Value} (hg : w.grownBy w2 (some bm)) (hne : sb ≠ bm) (c : w.cell? ⟨sb, o, none⟩ = some v) : w2.frozen? ⟨sb, o, none⟩ = w.frozen? ⟨sb, o, none⟩ :=
  World.frozen?_of_block (w := w) (hg.block sb (World.block_lt_of_cell? w _ c) (by simpa using hne))

theorem grown_below {w w2 : World} {bm B : Nat} (hg : w.grownBy w2 (some bm)) (hB : B ≤ bm) (hs : B ≤ w.heap.size) : Below B w w2 :=
  (Below.refl B w).grown hg hs (fun k hk => by cases hk; exact hB)

theorem Bits.setCell {w : World} {bm : Nat} {l : List Int} (h : Bits w bm l) {a : Addr} (ha : bm ≠ a.block) (v : Value) : Bits (w.setCell a v) bm l := by
  obtain ⟨D, hown, r⟩ := h
  exact ⟨D, hown.setCell ha v, r⟩
theorem Bits.alloc {w : World} {bm : Nat} {l : List Int} (h : Bits w bm l) (o : Obj) : Bits (w.alloc o) bm l := by
  obtain ⟨D, hown, r⟩ := h
  exact ⟨D, hown.alloc o, r⟩
theorem Bits.drewN {w : World} {bm : Nat} {l : List Int} (h : Bits w bm l) (n : Nat) : Bits (w.drewN n) bm l := h
theorem Bits.lt {w : World} {bm : Nat} {l : List Int} (h : Bits w bm l) : bm < w.heap.size := by
  obtain ⟨D, hown, r⟩ := h
  exact hown.lt

theorem Bits.made (w : World) : Bits (w.alloc (.map #[] 0)) w.heap.size [] :=
  ⟨.map [], World.ownsMap_made w _ _ _, fun q => by simp [Maps.has, qs], fun q => by simp [wd_nil]; rfl, rfl⟩

/-- what one call of 'add' does to the struct at block 'sb' -/
def Added (w w' : World) (sb bm : Nat) (l : List Int) (n h : Int) : Prop :=
  w'.cell? ⟨sb, 0, none⟩ = some (.map (some bm)) ∧ w'.cell? ⟨sb, 1, none⟩ = some (.int .i64 (if h < n then n else h)) ∧ Bits w' bm (l ++ [n])

theorem added_mk {w w2 : World} {sb bm : Nat} {l : List Int} {n h : Int} (hne : sb ≠ bm) (d0 : w2.cell? ⟨sb, 0, none⟩ = some (.map (some bm))) (d1 : w2.cell? ⟨sb, 1, none⟩ = some (.int .i64 h)) (hB2 : Bits w2 bm (l ++ [n])) (v : Int) (hv : v = if h < n then n else h) :
    Added w (w2.setCell ⟨sb, 1, none⟩ (.int .i64 v)) sb bm l n h :=
  ⟨by rw [World.cell?_setCell_other _ _ _ _ (by simp)]; exact d0, by rw [World.cell?_setCell_same _ _ _ d1, hv], hB2.setCell hne.symm _⟩

set_option maxHeartbeats 1000000 in
theorem add_some (sb bm : Nat) (n h : Int) (l : List Int) (w : World) (hn : 1 ≤ n) (hn2 : n ≤ 9223372036854775807) (hh0 : 0 ≤ h) (hh : h ≤ 9223372036854775807)
    (c0 : w.cell? ⟨sb, 0, none⟩ = some (.map (some bm))) (c1 : w.cell? ⟨sb, 1, none⟩ = some (.int .i64 h)) (f1 : w.frozen? ⟨sb, 1, none⟩ = false) (hB : Bits w bm l) (hl : l.length ≤ 65536) :
    Calls Trym.prog 8 #[.pointer (some ⟨sb, 0, none⟩), .int .i64 n] w fun e w' => e = .returned (.tuple #[]) ∧ Added w w' sb bm l n h ∧ (∀ B, B ≤ sb → B ≤ bm → Below B w w') := by
  have hq := fun W : World => run_eql_map_nil (P := Trym.prog) W 25 3 28 (some bm) Trym.underlying25
  obtain ⟨c, w2, hlook, hupd, hB2, hg⟩ := bits_step w.drew bm l n hB hn hn2 hl
  have hne := not_map c0 hB
  have d0 := grown_cell hg hne c0
  have d1 := grown_cell hg hne c1
  have df := (grown_frozen hg hne c1).trans f1
  have hz := World.block_lt_of_cell? w _ c0
  have hz2 := hB.lt
  have HB : Hid (∀ B, B ≤ sb → B ≤ bm → Below B w w2) := fun B h1 h2 => (Below.refl B w).drew.trans (grown_below (w := w.drew) hg h2 (by show B ≤ w.heap.size; omega))
  clear hg
  by_cases hmx : h < n
  · go_enter Trym.func8, Trym.ntmps8
    go_wp2
    go_region
    go_wp2
    go_end0
    exact ⟨rfl, added_mk hne d0 d1 hB2 _ (by rw [if_pos hmx]), fun B h1 h2 => (HB.out B h1 h2).setCell h1 _⟩
  · go_enter Trym.func8, Trym.ntmps8
    go_wp2
    go_region
    go_wp2
    go_end0
    exact ⟨rfl, added_mk hne d0 d1 hB2 _ (by rw [if_neg (by omega)]), fun B h1 h2 => (HB.out B h1 h2).setCell h1 _⟩

set_option maxHeartbeats 1000000 in
theorem add_nil (sb : Nat) (n h : Int) (w : World) (hn : 1 ≤ n) (hn2 : n ≤ 9223372036854775807) (hh0 : 0 ≤ h) (hh : h ≤ 9223372036854775807)
    (c0 : w.cell? ⟨sb, 0, none⟩ = some (.map none)) (c1 : w.cell? ⟨sb, 1, none⟩ = some (.int .i64 h)) (f0 : w.frozen? ⟨sb, 0, none⟩ = false) (f1 : w.frozen? ⟨sb, 1, none⟩ = false) :
    Calls Trym.prog 8 #[.pointer (some ⟨sb, 0, none⟩), .int .i64 n] w fun e w' => e = .returned (.tuple #[]) ∧ Added w w' sb w.heap.size [] n h ∧ (∀ B, B ≤ sb → Below B w w') := by
  have hq := fun W : World => run_eql_map_nil (P := Trym.prog) W 25 3 28 none Trym.underlying25
  have hmm := @run_makeMap Trym.prog
  have hz : sb < w.heap.size := World.block_lt_of_cell? w _ c0
  have hne : sb ≠ w.heap.size := by omega
  obtain ⟨W, hW⟩ : ∃ W, W = (w.setCell ⟨sb, 0, none⟩ (.map (some w.heap.size))).alloc (.map #[] 0) := ⟨_, rfl⟩
  have hzs : (w.setCell ⟨sb, 0, none⟩ (.map (some w.heap.size))).heap.size = w.heap.size := by simp
  have hBw : Bits W w.heap.size [] := by
    rw [hW]
    have := Bits.made (w.setCell ⟨sb, 0, none⟩ (.map (some w.heap.size)))
    rw [hzs] at this
    exact this
  have e0 : W.cell? ⟨sb, 0, none⟩ = some (.map (some w.heap.size)) := by
    rw [hW, World.cell?_alloc_past _ _ _ (by rw [hzs]; exact hz)]; exact World.cell?_setCell_same _ _ _ c0
  have e1 : W.cell? ⟨sb, 1, none⟩ = some (.int .i64 h) := by
    rw [hW, World.cell?_alloc_past _ _ _ (by rw [hzs]; exact hz), World.cell?_setCell_other _ _ _ _ (by simp)]; exact c1
  have ef : W.frozen? ⟨sb, 1, none⟩ = false := by
    rw [hW, World.frozen?_alloc_past _ _ _ (by rw [hzs]; exact hz), World.frozen?_setCell]; exact f1
  have hbW : Hid (∀ B, B ≤ sb → Below B w W) := fun B h1 => by rw [hW]; exact ((Below.refl B w).setCell h1 _).alloc (by rw [hzs]; omega) _
  have hzW : W.heap.size = w.heap.size + 1 := by rw [hW]; simp
  obtain ⟨c, w2, hlook, hupd, hB2, hg⟩ := bits_step W.drew w.heap.size [] n hBw hn hn2 (by simp)
  have d0 := grown_cell hg hne e0
  have d1 := grown_cell hg hne e1
  have df := (grown_frozen hg hne e1).trans ef
  have HB : Hid (∀ B, B ≤ sb → Below B w w2) := fun B h1 => (hbW.out B h1).trans ((Below.refl B W).drew.trans (grown_below (w := W.drew) hg (by omega) (by show B ≤ W.heap.size; omega)))
  have HW : Hid (W = (w.setCell ⟨sb, 0, none⟩ (.map (some w.heap.size))).alloc (.map #[] 0)) := hW
  clear hg hW hzW hzs
  by_cases hmx : h < n
  · go_enter Trym.func8, Trym.ntmps8
    go_wp2
    rw [← HW.out]
    go_region
    go_wp2
    go_end0
    exact ⟨rfl, added_mk hne d0 d1 hB2 _ (by rw [if_pos hmx]), fun B h1 => (HB.out B h1).setCell h1 _⟩
  · go_enter Trym.func8, Trym.ntmps8
    go_wp2
    rw [← HW.out]
    go_region
    go_wp2
    go_end0
    exact ⟨rfl, added_mk hne d0 d1 hB2 _ (by rw [if_neg (by omega)]), fun B h1 => (HB.out B h1).setCell h1 _⟩

end Go.Proofs.Qxb6604148aMods.A
