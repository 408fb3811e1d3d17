import Derived.Test.Qxb6603746aModsId
import Derived.Deep.RegionHeld
namespace Go.Proofs.Qxb6603746aMods.K
open Go.RowKit
set_option linter.unusedSimpArgs false
set_option linter.unusedVariables false
set_option linter.unnecessarySimpa false

theorem range_there {w0 w : World} {g cap : Nat} {L : List UInt8} (h : Own w0 w g cap L) : w.rangeAt g 0 (sc L) ∧ w.there g 0 cap := by
  refine ⟨fun j v hv => ?_, fun j hj => by simpa using h.2.2.2.1 j hj⟩
  have hj := (List.getElem?_eq_some_iff.1 hv).1
  rw [sc_length] at hj
  rw [sc_get L j hj] at hv
  cases hv
  rw [Nat.zero_add]
  exact h.2.2.2.2.1 j hj

/-- the array that the call has made: zeros -/
theorem own_zero (w : World) (t : TypeId) : Own w (w.alloc (.cells #[.int .u8 0, .int .u8 0, .int .u8 0, .int .u8 0, .int .u8 0, .int .u8 0, .int .u8 0, .int .u8 0, .int .u8 0, .int .u8 0, .int .u8 0, .int .u8 0, .int .u8 0, .int .u8 0, .int .u8 0, .int .u8 0, .int .u8 0, .int .u8 0, .int .u8 0, .int .u8 0, .int .u8 0, .int .u8 0, .int .u8 0, .int .u8 0, .int .u8 0, .int .u8 0, .int .u8 0, .int .u8 0, .int .u8 0, .int .u8 0, .int .u8 0, .int .u8 0] t)) w.heap.size 32 zeros := by
  refine ⟨Nat.le_refl _, by simp, Nat.le_refl _, fun j hj => ?_, fun j hj => ?_, (Below.refl _ _).alloc (Nat.le_refl _) _⟩
  · rw [World.cell?_alloc_at _ _ _ _ rfl, World.frozen?_alloc_at _ _ _ _ rfl]
    refine ⟨?_, rfl⟩
    rw [Array.getElem?_eq_getElem (by exact hj)]
    rfl
  · rw [World.cell?_alloc_at _ _ _ _ rfl]
    have : (#[.int .u8 0, .int .u8 0, .int .u8 0, .int .u8 0, .int .u8 0, .int .u8 0, .int .u8 0, .int .u8 0, .int .u8 0, .int .u8 0, .int .u8 0, .int .u8 0, .int .u8 0, .int .u8 0, .int .u8 0, .int .u8 0, .int .u8 0, .int .u8 0, .int .u8 0, .int .u8 0, .int .u8 0, .int .u8 0, .int .u8 0, .int .u8 0, .int .u8 0, .int .u8 0, .int .u8 0, .int .u8 0, .int .u8 0, .int .u8 0, .int .u8 0, .int .u8 0] : Array Value)[j]? = (sc zeros)[j]? := by
      rw [show (#[.int .u8 0, .int .u8 0, .int .u8 0, .int .u8 0, .int .u8 0, .int .u8 0, .int .u8 0, .int .u8 0, .int .u8 0, .int .u8 0, .int .u8 0, .int .u8 0, .int .u8 0, .int .u8 0, .int .u8 0, .int .u8 0, .int .u8 0, .int .u8 0, .int .u8 0, .int .u8 0, .int .u8 0, .int .u8 0, .int .u8 0, .int .u8 0, .int .u8 0, .int .u8 0, .int .u8 0, .int .u8 0, .int .u8 0, .int .u8 0, .int .u8 0, .int .u8 0] : Array Value) = (sc zeros).toArray from rfl, List.getElem?_toArray]
    rw [this, sc_get zeros j hj]

theorem conv_str (g o n c : Nat) (N : List UInt8) (hn : n = N.length) (w : World) (hr : w.rangeAt g o (sc N)) :
    (convert 24 9 (.slice (some ⟨g, o, none⟩) n c)).run Trym.prog w = .ok (.string ⟨N.toArray⟩) w := by
  subst hn
  refine run_convert_bytes_back w 24 9 5 ⟨g, o, none⟩ c N Trym.underlying24 Trym.underlying5 Trym.underlying9 fun j hj => ?_
  rw [Addr.add_mid]
  exact hr j _ (sc_get N j hj)

/-- the second way of 'keyIDDecode': the id is the bare name -/
theorem results_cell_tmp {fn : Func} {p q : Tmp} {ty : TypeId} (h : fn.results = #[.cell p ty, .tmp q]) (tmps : Array Value) (w : World) (g : Nat) (cs : List Value) (d : TypeDesc)
    (hp : tmps.getD p undef = .pointer (some ⟨g, 0, none⟩)) (hc : w.rangeAt g 0 cs)
    (hu : Trym.prog.underlying ty = some d) (hd : d.isRow = true) (hi : (Trym.prog.info? ty).map (·.size) = some cs.length) :
    (results fn tmps).run Trym.prog w = .ok (.tuple #[.agg cs.toArray, tmps.getD q undef]) w := by
  have hp' : tmps[p]?.getD undef = .pointer (some ⟨g, 0, none⟩) := by simpa using hp
  simp [results, h, hp', asAddr, run_loadVar_mid w g 0 ty cs d hc hu hd hi]

set_option maxHeartbeats 1000000 in
theorem decode_bare (g cap : Nat) (L : List UInt8) (w : World) (hg : g < w.heap.size) (hcells : ∀ j (hj : j < L.length), w.cell? ⟨g, j, none⟩ = some (.int .u8 (L[j].toNat : Int))) (hl : L.length ≤ 1048576)
    (hno : ¬ (33 : Int) ≤ (L.length : Int) ∨ (∃ h : 0 < L.length, (33 : Int) ≤ (L.length : Int) ∧ ((L[0].toNat : Int) == 0) = false)) :
    Calls Trym.prog 8 #[.slice (some ⟨g, 0, none⟩) L.length cap] w fun e w' => e = .returned (.tuple #[.agg (scA zeros), .string ⟨L.toArray⟩]) ∧ Below w.heap.size w w' ∧ w.heap.size < w'.heap.size := by
  have hr : w.rangeAt g 0 (sc L) := fun j v hv => by
    have hj := (List.getElem?_eq_some_iff.1 hv).1
    rw [sc_length] at hj
    rw [sc_get L j hj] at hv
    cases hv
    rw [Nat.zero_add]
    exact hcells j hj
  have own0 := own_zero w 22
  have hr1 : (w.alloc (.cells #[.int .u8 0, .int .u8 0, .int .u8 0, .int .u8 0, .int .u8 0, .int .u8 0, .int .u8 0, .int .u8 0, .int .u8 0, .int .u8 0, .int .u8 0, .int .u8 0, .int .u8 0, .int .u8 0, .int .u8 0, .int .u8 0, .int .u8 0, .int .u8 0, .int .u8 0, .int .u8 0, .int .u8 0, .int .u8 0, .int .u8 0, .int .u8 0, .int .u8 0, .int .u8 0, .int .u8 0, .int .u8 0, .int .u8 0, .int .u8 0, .int .u8 0, .int .u8 0] 22)).rangeAt g 0 (sc L) := World.rangeAt_alloc hr _
  have hz0 : w.heap.size < (w.alloc (.cells #[.int .u8 0, .int .u8 0, .int .u8 0, .int .u8 0, .int .u8 0, .int .u8 0, .int .u8 0, .int .u8 0, .int .u8 0, .int .u8 0, .int .u8 0, .int .u8 0, .int .u8 0, .int .u8 0, .int .u8 0, .int .u8 0, .int .u8 0, .int .u8 0, .int .u8 0, .int .u8 0, .int .u8 0, .int .u8 0, .int .u8 0, .int .u8 0, .int .u8 0, .int .u8 0, .int .u8 0, .int .u8 0, .int .u8 0, .int .u8 0, .int .u8 0, .int .u8 0] 22)).heap.size := by simp
  have hgz : g ≠ w.heap.size := by omega
  obtain ⟨Z, hZ0⟩ : ∃ Z, Z = zeros := ⟨_, rfl⟩
  have hZ : Hid (Z = zeros) := hZ0
  rw [← hZ0] at own0
  have hZl : Z.length = 32 := by rw [hZ0]; rfl
  clear hZ0
  rcases hno with hno | ⟨h0, h33, hne⟩
  · go_enter Trym.func8, Trym.ntmps8
    go_wp2
    generalize w.alloc (.cells #[.int .u8 0, .int .u8 0, .int .u8 0, .int .u8 0, .int .u8 0, .int .u8 0, .int .u8 0, .int .u8 0, .int .u8 0, .int .u8 0, .int .u8 0, .int .u8 0, .int .u8 0, .int .u8 0, .int .u8 0, .int .u8 0, .int .u8 0, .int .u8 0, .int .u8 0, .int .u8 0, .int .u8 0, .int .u8 0, .int .u8 0, .int .u8 0, .int .u8 0, .int .u8 0, .int .u8 0, .int .u8 0, .int .u8 0, .int .u8 0, .int .u8 0, .int .u8 0] 22) = W at own0 hr1 hz0 ⊢
    obtain ⟨ra, rt⟩ := range_there own0
    have hcv : ∀ w', w'.rangeAt g 0 (sc L) → (convert 24 9 (.slice (some ⟨g, 0, none⟩) L.length cap)).run Trym.prog w' = .ok (.string ⟨L.toArray⟩) w' := fun w' => conv_str g 0 L.length cap L rfl w'
    have hu := Trym.underlying22
    have hs : (sc Z).length = 32 := by rw [sc_length, hZl]
    have hi : (Trym.prog.info? 22).map (·.size) = some (sc Z).length := by rw [hs]; exact size22
    have h1 := sc_one Z
    have hb : Hid (Below w.heap.size w W) := own0.2.2.2.2.2
    clear own0 hr hcells
    go_region_held (fun w' => w'.rangeAt w.heap.size 0 (sc Z) ∧ w'.there w.heap.size 0 32 ∧ w'.rangeAt g 0 (sc L)) (go_keep_ranges) (fail)
    go_wp2
    refine bodyPost_ret (results_cell_tmp (g := w.heap.size) rfl _ _ (sc Z) _ rfl (World.rangeAt_setCells_same _ _ _ _ (by rw [hs]; simpa using rt)) Trym.underlying22 rfl hi) rfl ⟨?_, ?_, ?_⟩
    · rw [hZ.out]; rfl
    · exact below_setCells _ (Nat.le_refl _) _ _ _ hb.out.drew
    · rw [size_setCells]; exact hz0
  · have c0 := hcells 0 h0
    go_enter Trym.func8, Trym.ntmps8
    go_wp2
    generalize w.alloc (.cells #[.int .u8 0, .int .u8 0, .int .u8 0, .int .u8 0, .int .u8 0, .int .u8 0, .int .u8 0, .int .u8 0, .int .u8 0, .int .u8 0, .int .u8 0, .int .u8 0, .int .u8 0, .int .u8 0, .int .u8 0, .int .u8 0, .int .u8 0, .int .u8 0, .int .u8 0, .int .u8 0, .int .u8 0, .int .u8 0, .int .u8 0, .int .u8 0, .int .u8 0, .int .u8 0, .int .u8 0, .int .u8 0, .int .u8 0, .int .u8 0, .int .u8 0, .int .u8 0] 22) = W at own0 hr1 hz0 ⊢
    obtain ⟨ra, rt⟩ := range_there own0
    have hcv : ∀ w', w'.rangeAt g 0 (sc L) → (convert 24 9 (.slice (some ⟨g, 0, none⟩) L.length cap)).run Trym.prog w' = .ok (.string ⟨L.toArray⟩) w' := fun w' => conv_str g 0 L.length cap L rfl w'
    have hu := Trym.underlying22
    have hs : (sc Z).length = 32 := by rw [sc_length, hZl]
    have hi : (Trym.prog.info? 22).map (·.size) = some (sc Z).length := by rw [hs]; exact size22
    have h1 := sc_one Z
    have hb : Hid (Below w.heap.size w W) := own0.2.2.2.2.2
    clear own0 hr hcells
    go_region_held (fun w' => w'.rangeAt w.heap.size 0 (sc Z) ∧ w'.there w.heap.size 0 32 ∧ w'.rangeAt g 0 (sc L)) (go_keep_ranges) (fail)
    go_wp2
    refine bodyPost_ret (results_cell_tmp (g := w.heap.size) rfl _ _ (sc Z) _ rfl (World.rangeAt_setCells_same _ _ _ _ (by rw [hs]; simpa using rt)) Trym.underlying22 rfl hi) rfl ⟨?_, ?_, ?_⟩
    · rw [hZ.out]; rfl
    · exact below_setCells _ (Nat.le_refl _) _ _ _ hb.out.drew
    · rw [size_setCells]; exact hz0

theorem Own.set {w0 w : World} {g cap : Nat} {L : List UInt8} (h : Own w0 w g cap L) (k : Nat) (hk : k < L.length) (x : UInt8) :
    Own w0 (w.setCell ⟨g, k, none⟩ (.int .u8 (x.toNat : Int))) g cap (L.set k x) := by
  obtain ⟨h1, h2, h3, h4, h5, h6⟩ := h
  refine ⟨h1, by simpa using h2, by simpa using h3, fun j hj => ?_, fun j hj => ?_, h6.setCell h1 _⟩
  · refine ⟨?_, by simpa using (h4 j hj).2⟩
    by_cases e : j = k
    · subst e; rw [World.cell?_setCell_same _ _ _ (h5 j hk)]; rfl
    · rw [World.cell?_setCell_other _ _ _ _ (by simp only [ne_eq, Addr.mk.injEq]; omega)]; exact (h4 j hj).1
  · by_cases e : j = k
    · subst e; rw [World.cell?_setCell_same _ _ _ (h5 j hk)]; simp
    · have hj' : j < L.length := by simpa using hj
      rw [World.cell?_setCell_other _ _ _ _ (by simp only [ne_eq, Addr.mk.injEq]; omega), h5 j hj', List.getElem_set_ne (by omega)]

/-- the scope behind 'k' rounds -/
def part32 (L : List UInt8) (k : Nat) : List UInt8 := (L.drop 1).take k ++ List.replicate (32 - k) 0

theorem part32_length (L : List UInt8) (k : Nat) (hk : k ≤ 32) (h : 33 ≤ L.length) : (part32 L k).length = 32 := by
  simp [part32]; omega

theorem part32_succ (L : List UInt8) (k : Nat) (hk : k < 32) (h : 33 ≤ L.length) : part32 L (k + 1) = (part32 L k).set k (L[1 + k]'(by omega)) := by
  unfold part32
  have hd : k < (L.drop 1).length := by simp; omega
  have hl : ((L.drop 1).take k).length = k := by simp; omega
  rw [List.take_succ_eq_append_getElem hd, show 32 - k = (32 - (k + 1)) + 1 from by omega, List.replicate_succ, List.set_append_right _ _ (by omega), hl]
  simp [Nat.add_comm 1 k]

theorem part32_zero (L : List UInt8) : part32 L 0 = zeros := by simp [part32, zeros]
theorem part32_full (L : List UInt8) : part32 L 32 = (L.drop 1).take 32 := by simp [part32]

theorem take_len (L : List UInt8) (h : 33 ≤ L.length) : ((L.drop 1).take 32).length = 32 := by simp; omega

theorem range_drop {w wr : World} {g : Nat} {L : List UInt8} (hcells : ∀ j (hj : j < L.length), w.cell? ⟨g, j, none⟩ = some (.int .u8 (L[j].toNat : Int))) (hb : Below w.heap.size w wr) (hg : g < w.heap.size) (o : Nat) : wr.rangeAt g o (sc (L.drop o)) := by
  intro j v hv
  have hj := (List.getElem?_eq_some_iff.1 hv).1
  rw [sc_length] at hj
  rw [sc_get _ j hj] at hv
  cases hv
  have hj' : o + j < L.length := by simp at hj; omega
  rw [hb.cell (p := ⟨g, o + j, none⟩) hg, hcells (o + j) hj', List.getElem_drop]

set_option maxHeartbeats 1000000 in
theorem decode_scoped (g cap : Nat) (L : List UInt8) (w : World) (hg : g < w.heap.size) (hcells : ∀ j (hj : j < L.length), w.cell? ⟨g, j, none⟩ = some (.int .u8 (L[j].toNat : Int))) (hl : L.length ≤ 1048576) (hcap : L.length ≤ cap) (hcb : cap ≤ 9223372036854775807)
    (h33 : (33 : Int) ≤ (L.length : Int)) (h0 : 0 < L.length) (hne : ((L[0].toNat : Int) == 0) = true)
    (Z N : List UInt8) (hZ : Hid (Z = (L.drop 1).take 32)) (hN : Hid (N = L.drop 33)) :
    Calls Trym.prog 8 #[.slice (some ⟨g, 0, none⟩) L.length cap] w fun e w' => e = .returned (.tuple #[.agg (scA Z), .string ⟨N.toArray⟩]) ∧ Below w.heap.size w w' ∧ w.heap.size < w'.heap.size := by
  have own0 := own_zero w 22
  have hz0 : w.heap.size < (w.alloc (.cells #[.int .u8 0, .int .u8 0, .int .u8 0, .int .u8 0, .int .u8 0, .int .u8 0, .int .u8 0, .int .u8 0, .int .u8 0, .int .u8 0, .int .u8 0, .int .u8 0, .int .u8 0, .int .u8 0, .int .u8 0, .int .u8 0, .int .u8 0, .int .u8 0, .int .u8 0, .int .u8 0, .int .u8 0, .int .u8 0, .int .u8 0, .int .u8 0, .int .u8 0, .int .u8 0, .int .u8 0, .int .u8 0, .int .u8 0, .int .u8 0, .int .u8 0, .int .u8 0] 22)).heap.size := by simp
  have hgz : g ≠ w.heap.size := by omega
  have c0 := hcells 0 h0
  rw [← part32_zero L] at own0
  go_enter Trym.func8, Trym.ntmps8
  go_wp2
  generalize w.alloc (.cells #[.int .u8 0, .int .u8 0, .int .u8 0, .int .u8 0, .int .u8 0, .int .u8 0, .int .u8 0, .int .u8 0, .int .u8 0, .int .u8 0, .int .u8 0, .int .u8 0, .int .u8 0, .int .u8 0, .int .u8 0, .int .u8 0, .int .u8 0, .int .u8 0, .int .u8 0, .int .u8 0, .int .u8 0, .int .u8 0, .int .u8 0, .int .u8 0, .int .u8 0, .int .u8 0, .int .u8 0, .int .u8 0, .int .u8 0, .int .u8 0, .int .u8 0, .int .u8 0] 22) = W at own0 hz0 ⊢
  go_loopw [4] (fun i wr => ∃ k : Nat, k ≤ 32 ∧ i = .int .i64 k ∧ Own w wr w.heap.size 32 (part32 L k)) (fun i _ => 32 - (intOf i).toNat)
  case atStart => exact ⟨0, Nat.zero_le _, rfl, own0⟩
  case round =>
    obtain ⟨k, hk, rfl, own⟩ := hrel
    have hpl := part32_length L k hk (by omega)
    have hb : Hid (Below w.heap.size w wr) := own.2.2.2.2.2
    by_cases hlt : k < 32
    · have hc := (hb.out.cell (p := ⟨g, 1 + k, none⟩) hg).trans (hcells (1 + k) (by omega))
      have hd := own.2.2.2.2.1 k (by omega)
      have hf := (own.2.2.2.1 k (by omega)).2
      go_wp2
      go_roundw
      case rel => exact ⟨k + 1, by omega, by go_num, by rw [part32_succ L k hlt (by omega)]; exact own.set k (by omega) _⟩
      case measure => simp [intOf]; omega
    · have hk' : k = 32 := by omega
      subst hk'
      rw [part32_full] at own hpl
      have hr1 : wr.rangeAt g 33 (sc N) := by rw [hN.out]; exact range_drop hcells hb.out hg 33
      have hNl : 33 + N.length = L.length := by rw [hN.out, List.length_drop]; omega
      rw [← hZ.out] at own hpl
      obtain ⟨ra, rt⟩ := range_there own
      have hz1 : w.heap.size < wr.heap.size := own.2.1
      have hu := Trym.underlying22
      have hs : (sc Z).length = 32 := by rw [sc_length, hpl]
      have hi : (Trym.prog.info? 22).map (·.size) = some (sc Z).length := by rw [hs]; exact size22
      have h1 := sc_one Z
      clear own hcells c0 hpl own0
      by_cases hc33 : cap = 33
      · have hcv : ∀ w', w'.rangeAt g 33 (sc N) → (convert 24 9 (.slice (some ⟨g, 0, none⟩) (L.length - 33) 0)).run Trym.prog w' = .ok (.string ⟨N.toArray⟩) w' := fun w' h' => by
          have e : N = [] := List.eq_nil_of_length_eq_zero (by omega)
          subst e
          exact conv_str g 0 _ 0 [] (by simp at hNl; simp; omega) w' (fun j v hv => by simp [sc] at hv)
        go_wp2
        go_region_held (fun w' => w'.rangeAt w.heap.size 0 (sc Z) ∧ w'.there w.heap.size 0 32 ∧ w'.rangeAt g 33 (sc N)) (go_keep_ranges) (fail)
        go_wp2
        refine bodyPost_ret (results_cell_tmp (g := w.heap.size) rfl _ _ (sc Z) _ rfl (World.rangeAt_setCells_same _ _ _ _ (by rw [hs]; simpa using rt)) Trym.underlying22 rfl hi) rfl ⟨?_, ?_, ?_⟩
        · rfl
        · exact below_setCells _ (Nat.le_refl _) _ _ _ hb.out.drew
        · rw [size_setCells]; exact hz1
      · have hcv : ∀ w', w'.rangeAt g 33 (sc N) → (convert 24 9 (.slice (some ⟨g, 33, none⟩) (L.length - 33) (cap - 33))).run Trym.prog w' = .ok (.string ⟨N.toArray⟩) w' := fun w' => conv_str g 33 _ _ N (by omega) w'
        go_wp2
        go_region_held (fun w' => w'.rangeAt w.heap.size 0 (sc Z) ∧ w'.there w.heap.size 0 32 ∧ w'.rangeAt g 33 (sc N)) (go_keep_ranges) (fail)
        go_wp2
        refine bodyPost_ret (results_cell_tmp (g := w.heap.size) rfl _ _ (sc Z) _ rfl (World.rangeAt_setCells_same _ _ _ _ (by rw [hs]; simpa using rt)) Trym.underlying22 rfl hi) rfl ⟨?_, ?_, ?_⟩
        · rfl
        · exact below_setCells _ (Nat.le_refl _) _ _ _ hb.out.drew
        · rw [size_setCells]; exact hz1

theorem str_back (nm : ByteArray) : (⟨nm.data.toList.toArray⟩ : ByteArray) = nm := by cases nm; simp

theorem size_list (nm : ByteArray) : nm.data.toList.length = nm.size := by rw [Array.length_toList]; rfl

theorem decode_zero (g cap : Nat) (nm : ByteArray) (w w0 : World) (hrow : Row w0 w g nm.data.toList) (hn : nm.size ≤ 65536) (h0 : 0 < nm.size → ∃ h : 0 < nm.size, ((nm[0].toNat : Int) == 0) = false) :
    Calls Trym.prog 8 #[.slice (some ⟨g, 0, none⟩) nm.size cap] w fun e w' => e = .returned (.tuple #[.agg (scA zeros), .string nm]) ∧ Below w.heap.size w w' ∧ w.heap.size < w'.heap.size := by
  have hl := size_list nm
  have := decode_bare g cap nm.data.toList w hrow.2.1 hrow.2.2.1 (by omega) (by
    by_cases h : (33 : Int) ≤ (nm.data.toList.length : Int)
    · right
      obtain ⟨h', h2⟩ := h0 (by omega)
      exact ⟨by omega, h, h2⟩
    · exact .inl h)
  rw [hl, str_back] at this
  exact this

theorem decode_key (g : Nat) (S : List UInt8) (hS : S.length = 32) (nm : ByteArray) (w w0 : World) (hrow : Row w0 w g (0 :: (S ++ nm.data.toList))) (hn : nm.size ≤ 65536) :
    Calls Trym.prog 8 #[.slice (some ⟨g, 0, none⟩) (33 + nm.size) (33 + nm.size)] w fun e w' => e = .returned (.tuple #[.agg (scA S), .string nm]) ∧ Below w.heap.size w w' ∧ w.heap.size < w'.heap.size := by
  have hl : (0 :: (S ++ nm.data.toList)).length = 33 + nm.size := by rw [List.length_cons, List.length_append, hS, size_list]; omega
  have := decode_scoped g (33 + nm.size) (0 :: (S ++ nm.data.toList)) w hrow.2.1 hrow.2.2.1 (by omega) (by omega) (by omega) (by omega) (by omega) rfl S nm.data.toList
    (by show S = _; simp only [List.drop_succ_cons, List.drop_zero]; rw [List.take_left' hS])
    (by show nm.data.toList = _; simp only [List.drop_succ_cons]; rw [List.drop_left' hS])
  rw [hl, str_back] at this
  exact this

end Go.Proofs.Qxb6603746aMods.K
