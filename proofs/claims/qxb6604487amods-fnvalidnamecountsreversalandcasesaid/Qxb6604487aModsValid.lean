import Derived.Test.Qxb6604487aModsRows
import Derived.Test.Qxb6604487aModsPlain
import Derived.WalkKit
import Derived.WalkLawsBesides
import Derived.WalkSpells
import Derived.LoopTactic
import Derived.RegionTactic
import Derived.Deep.QuietTactic
import Derived.BigQuiet
import Derived.Outline
import Derived.Deep.DeepCutAuto
namespace Go.Proofs.Qxb6604487aMods.V
open Go.RowKit
set_option linter.unusedSimpArgs false
set_option linter.unusedVariables false

theorem ret_bool {a b : Bool} (h : a = b) : Ending.returned (.bool a) = .returned (.bool b) := by rw [h]

theorem conv_bytes (nm : ByteArray) (w : World) :
    (convert 9 24 (.string nm)).run Trym.prog w = .ok (.slice (some ⟨w.heap.size, 0, none⟩) nm.size (grownCap w nm.size 0 5))
      (w.drew.alloc (.cells (bytesRow nm (grownCap w nm.size 0 5)) 5 ((bytesRow nm (grownCap w nm.size 0 5)).size, (bytesRow nm (grownCap w nm.size 0 5)).size + 1))) :=
  run_bytes_of_string w 9 24 5 nm Trym.underlying9 Trym.underlying24 Trym.underlying5

theorem conv_cells (nm : ByteArray) (w : World) (cap : Nat) (t : TypeId) (fr : Nat × Nat) (j : Nat) (hj : j < nm.size) :
    (w.drew.alloc (.cells (bytesRow nm cap) t fr)).cell? ⟨w.heap.size, j, none⟩ = some (.int .u8 (nm[j].toNat : Int)) := by
  have : (w.drew.alloc (.cells (bytesRow nm cap) t fr)).cell? ⟨w.heap.size, j, none⟩ = (bytesRow nm cap)[j]? := World.cell?_alloc_mark w.drew _ _ _ j
  rw [this, bytesRow_at nm cap j hj]
  rfl

/-- the answer at the first test -/
def bare (s : ByteArray) : Bool := decide ((s.size : Int) < 1) || decide (249 < (s.size : Int)) || (s.toList == [46]) || (s.toList == [46, 46])

theorem valid_bare (s : ByteArray) (h : bare s = true) : valid s.data.toList = false := by
  unfold bare at h
  rw [ByteArray.toList_eq] at h
  unfold valid
  simp only [Bool.or_eq_true, decide_eq_true_eq] at h
  have hl : s.data.toList.length = s.size := by simp
  rw [hl]
  rcases h with ((h | h) | h) | h
  · rw [decide_eq_false (by omega)]; rfl
  · rw [decide_eq_false (by omega : ¬ s.size ≤ 249)]; simp
  · simp [h]
  · simp [h]

theorem valid_rest (s : ByteArray) (h : bare s = false) : valid s.data.toList = s.data.toList.all okb := by
  unfold bare at h
  rw [ByteArray.toList_eq] at h
  unfold valid
  simp only [Bool.or_eq_false_iff, decide_eq_false_iff_not] at h
  have hl : s.data.toList.length = s.size := by simp
  rw [hl, h.1.2, h.2, decide_eq_true (by omega : 1 ≤ s.size), decide_eq_true (by omega : s.size ≤ 249)]
  rfl

theorem byte_cases (c : UInt8) : (0 ≤ c.toNat ∧ c.toNat ≤ 44) ∨ (45 ≤ c.toNat ∧ c.toNat ≤ 45) ∨ (46 ≤ c.toNat ∧ c.toNat ≤ 46) ∨ (47 ≤ c.toNat ∧ c.toNat ≤ 47) ∨ (48 ≤ c.toNat ∧ c.toNat ≤ 57) ∨ (58 ≤ c.toNat ∧ c.toNat ≤ 64) ∨ (65 ≤ c.toNat ∧ c.toNat ≤ 90) ∨ (91 ≤ c.toNat ∧ c.toNat ≤ 94) ∨ (95 ≤ c.toNat ∧ c.toNat ≤ 95) ∨ (96 ≤ c.toNat ∧ c.toNat ≤ 96) ∨ (97 ≤ c.toNat ∧ c.toNat ≤ 122) ∨ (123 ≤ c.toNat ∧ c.toNat ≤ 255) := by
  have := c.toNat_lt
  omega

def okz (n : Int) : Bool := (decide (97 ≤ n) && decide (n ≤ 122)) || (decide (65 ≤ n) && decide (n ≤ 90)) || (decide (48 ≤ n) && decide (n ≤ 57)) || n == 46 || n == 95 || n == 45
theorem okb_okz (c : UInt8) : okb c = okz (c.toNat : Int) := by
  unfold okb okn okz
  rw [Bool.eq_iff_iff]
  simp
  omega
theorem byte_casesz (c : UInt8) : (0 ≤ (c.toNat : Int) ∧ (c.toNat : Int) ≤ 44) ∨ (c.toNat : Int) = 45 ∨ (c.toNat : Int) = 46 ∨ (c.toNat : Int) = 47 ∨ (48 ≤ (c.toNat : Int) ∧ (c.toNat : Int) ≤ 57) ∨ (58 ≤ (c.toNat : Int) ∧ (c.toNat : Int) ≤ 64) ∨ (65 ≤ (c.toNat : Int) ∧ (c.toNat : Int) ≤ 90) ∨ (91 ≤ (c.toNat : Int) ∧ (c.toNat : Int) ≤ 94) ∨ (c.toNat : Int) = 95 ∨ (c.toNat : Int) = 96 ∨ (97 ≤ (c.toNat : Int) ∧ (c.toNat : Int) ≤ 122) ∨ (123 ≤ (c.toNat : Int) ∧ (c.toNat : Int) ≤ 255) := by
  have := c.toNat_lt
  omega

theorem okb_of (c : UInt8) (b : Bool) (h : okn c.toNat = b) : okb c = b := h

set_option maxHeartbeats 4000000 in
theorem valid_any (s : ByteArray) (w : World) (hs : s.size ≤ 65536) :
    Calls Trym.prog 7 #[.string s] w fun e w' => e = .returned (.bool (valid s.data.toList)) ∧ Below w.heap.size w w' := by
  obtain ⟨v, hv0⟩ : ∃ v, v = valid s.data.toList := ⟨_, rfl⟩
  have HV : Hid (v = valid s.data.toList) := hv0
  rw [← hv0]
  clear hv0
  have hcv := conv_bytes s
  go_enter Trym.func7, Trym.ntmps7
  go_upto_region 1 with fail
  go_cut [21] (fun t wc => t = .bool (bare s) ∧ w = wc)
  case first =>
    by_cases h1 : (s.size : Int) < 1
    · have hk : Hid (bare s = true) := by unfold bare; rw [decide_eq_true h1]; rfl
      go_wp2
      go_meet
      case rel => exact ⟨by rw [hk.out], rfl⟩
    · by_cases h2 : 249 < (s.size : Int)
      · have hk : Hid (bare s = true) := by unfold bare; rw [decide_eq_true h2]; simp [Hid]
        go_wp2
        go_meet
        case rel => exact ⟨by rw [hk.out], rfl⟩
      · cases h3 : (s.toList == [46])
        · cases h4 : (s.toList == [46, 46])
          · have hk : Hid (bare s = false) := by unfold bare; rw [decide_eq_false h1, decide_eq_false h2, h3, h4]; rfl
            go_wp2
            go_meet
            case rel => exact ⟨by rw [hk.out], rfl⟩
          · have hk : Hid (bare s = true) := by unfold bare; rw [h4]; simp [Hid]
            go_wp2
            go_meet
            case rel => exact ⟨by rw [hk.out], rfl⟩
        · have hk : Hid (bare s = true) := by unfold bare; rw [h3]; simp [Hid]
          go_wp2
          go_meet
          case rel => exact ⟨by rw [hk.out], rfl⟩
  case rest =>
    obtain ⟨ht, hw⟩ := hcut
    subst ht
    subst hw
    cases hb : bare s
    · go_wp2
      have HV2 : Hid (v = s.data.toList.all okb) := HV.out.trans (valid_rest s hb)
      have hcc := fun j (hj : j < s.size) => conv_cells s w (grownCap w s.size 0 5) 5 ((bytesRow s (grownCap w s.size 0 5)).size, (bytesRow s (grownCap w s.size 0 5)).size + 1) j hj
      have hbw : Below w.heap.size w (w.drew.alloc (.cells (bytesRow s (grownCap w s.size 0 5)) 5 ((bytesRow s (grownCap w s.size 0 5)).size, (bytesRow s (grownCap w s.size 0 5)).size + 1))) := (Below.refl _ _).drew.alloc (Nat.le_refl _) _
      rw [World.alloc_drew] at hcc hbw
      generalize (w.alloc (.cells (bytesRow s (grownCap w s.size 0 5)) 5 ((bytesRow s (grownCap w s.size 0 5)).size, (bytesRow s (grownCap w s.size 0 5)).size + 1))).drew = W at hcc hbw ⊢
      have HC : Hid (∀ j (hj : j < s.size), W.cell? ⟨w.heap.size, j, none⟩ = some (.int .u8 (s[j].toNat : Int))) := hcc
      clear hcc hcv
      generalize grownCap w s.size 0 5 = cap
      go_loop [25] (fun i => ∃ k : Nat, k ≤ s.size ∧ i = .int .i64 (k : Int) ∧ Hid (v = (s.data.toList.drop k).all okb)) (fun i => s.size - (intOf i).toNat)
      case atStart => exact ⟨0, Nat.zero_le _, rfl, HV2⟩
      case round =>
        obtain ⟨k, hk, rfl, hm⟩ := hrel
        by_cases hlt : k < s.size
        · have ck := HC.out k hlt
          have hst : Hid ((s.data.toList.drop k).all okb = (okb s[k] && (s.data.toList.drop (k + 1)).all okb)) := by
            have e : s.data.toList.drop k = s[k] :: s.data.toList.drop (k + 1) := List.drop_eq_getElem_cons (by simpa using hlt)
            rw [e]; simp [Hid]
          generalize hc0 : s[k] = c0 at ck hst
          clear hc0
          obtain ⟨n, hn⟩ : ∃ n : Int, n = (c0.toNat : Int) := ⟨_, rfl⟩
          rw [← hn] at ck
          have hob : Hid (okb c0 = okz n) := by rw [hn]; exact okb_okz c0
          have hr := byte_casesz c0
          rw [← hn] at hr
          clear hn
          rw [hob.out] at hst
          go_upto_region 6 with fail
          go_cut [5] (fun t wc => t = .bool (okz n) ∧ W = wc)
          case first =>
            rcases hr with ⟨b1, b2⟩ | b1 | b1 | b1 | ⟨b1, b2⟩ | ⟨b1, b2⟩ | ⟨b1, b2⟩ | ⟨b1, b2⟩ | b1 | b1 | ⟨b1, b2⟩ | ⟨b1, b2⟩
            · have hk : Hid (okz n = false) := by unfold okz; show _ = _; simp <;> omega
              try subst b1
              go_wp2
              go_meet
              case rel => exact ⟨by first | (rw [hk.out]; done) | (rw [hk.out]; congr 1; simp <;> omega), rfl⟩
            · have hk : Hid (okz n = true) := by unfold okz; show _ = _; simp <;> omega
              try subst b1
              go_wp2
              go_meet
              case rel => exact ⟨by first | (rw [hk.out]; done) | (rw [hk.out]; congr 1; simp <;> omega), rfl⟩
            · have hk : Hid (okz n = true) := by unfold okz; show _ = _; simp <;> omega
              try subst b1
              go_wp2
              go_meet
              case rel => exact ⟨by first | (rw [hk.out]; done) | (rw [hk.out]; congr 1; simp <;> omega), rfl⟩
            · have hk : Hid (okz n = false) := by unfold okz; show _ = _; simp <;> omega
              try subst b1
              go_wp2
              go_meet
              case rel => exact ⟨by first | (rw [hk.out]; done) | (rw [hk.out]; congr 1; simp <;> omega), rfl⟩
            · have hk : Hid (okz n = true) := by unfold okz; show _ = _; simp <;> omega
              try subst b1
              go_wp2
              go_meet
              case rel => exact ⟨by first | (rw [hk.out]; done) | (rw [hk.out]; congr 1; simp <;> omega), rfl⟩
            · have hk : Hid (okz n = false) := by unfold okz; show _ = _; simp <;> omega
              try subst b1
              go_wp2
              go_meet
              case rel => exact ⟨by first | (rw [hk.out]; done) | (rw [hk.out]; congr 1; simp <;> omega), rfl⟩
            · have hk : Hid (okz n = true) := by unfold okz; show _ = _; simp <;> omega
              try subst b1
              go_wp2
              go_meet
              case rel => exact ⟨by first | (rw [hk.out]; done) | (rw [hk.out]; congr 1; simp <;> omega), rfl⟩
            · have hk : Hid (okz n = false) := by unfold okz; show _ = _; simp <;> omega
              try subst b1
              go_wp2
              go_meet
              case rel => exact ⟨by first | (rw [hk.out]; done) | (rw [hk.out]; congr 1; simp <;> omega), rfl⟩
            · have hk : Hid (okz n = true) := by unfold okz; show _ = _; simp <;> omega
              try subst b1
              go_wp2
              go_meet
              case rel => exact ⟨by first | (rw [hk.out]; done) | (rw [hk.out]; congr 1; simp <;> omega), rfl⟩
            · have hk : Hid (okz n = false) := by unfold okz; show _ = _; simp <;> omega
              try subst b1
              go_wp2
              go_meet
              case rel => exact ⟨by first | (rw [hk.out]; done) | (rw [hk.out]; congr 1; simp <;> omega), rfl⟩
            · have hk : Hid (okz n = true) := by unfold okz; show _ = _; simp <;> omega
              try subst b1
              go_wp2
              go_meet
              case rel => exact ⟨by first | (rw [hk.out]; done) | (rw [hk.out]; congr 1; simp <;> omega), rfl⟩
            · have hk : Hid (okz n = false) := by unfold okz; show _ = _; simp <;> omega
              try subst b1
              go_wp2
              go_meet
              case rel => exact ⟨by first | (rw [hk.out]; done) | (rw [hk.out]; congr 1; simp <;> omega), rfl⟩
          case rest =>
            obtain ⟨ht, hw⟩ := hcut
            subst ht
            subst hw
            cases ho : okz n
            · go_wp2
              go_ret
              exact ⟨ret_bool (by rw [hm.out, hst.out, ho]; rfl), hbw⟩
            · go_wp2
              go_round
              case rel => exact ⟨k + 1, by omega, by go_num, hm.out.trans (hst.out.trans (by rw [ho]; rfl))⟩
              case measure => simp [intOf]; omega
        · go_wp2
          go_ret
          exact ⟨ret_bool (by rw [hm.out, List.drop_of_length_le (by simp; omega)]; rfl), hbw⟩
    · go_wp2
      go_ret
      exact ⟨ret_bool (by rw [HV.out, valid_bare s hb]), Below.refl _ _⟩

end Go.Proofs.Qxb6604487aMods.V
