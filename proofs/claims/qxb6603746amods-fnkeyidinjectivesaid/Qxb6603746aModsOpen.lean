/- How a [32]byte argument is opened: it is a list of 32 bytes. -/
import Derived.Test.Qxb6603746aModsBase
import Derived.ProofKit
import Derived.OpenShut
import Derived.ShutString
import Derived.ChangeOld
import Derived.Below
namespace Go.Proofs.Qxb6603746aMods.K
open Go.ChangeShapes Go.WideShapes Go.ChangeAt Go.RowKit
set_option linter.unusedSimpArgs false
set_option linter.unusedVariables false

theorem cells22 : Trym.prog.cellsOf 22 = 32 := by kernel_rfl
theorem cells5 : Trym.prog.cellsOf 5 = 1 := by kernel_rfl

theorem sc_of : ∀ (l : List Value), (∀ c ∈ l, ∃ b : UInt8, c = Value.int .u8 (b.toNat : Int)) → ∃ S, sc S = l
  | [], _ => ⟨[], rfl⟩
  | c :: l, h => by
    obtain ⟨b, hb⟩ := h c (by simp)
    obtain ⟨S, hS⟩ := sc_of l (fun c hc => h c (by simp [hc]))
    exact ⟨b :: S, by rw [hb, ← hS]; rfl⟩

theorem byte_of (n : Int) (hw : (Lit.int .u8 n).wf = true) : ∃ b : UInt8, n = (b.toNat : Int) := by
  have := bounds_u8 hw
  refine ⟨UInt8.ofNat n.toNat, ?_⟩
  rw [UInt8.toNat_ofNat']
  rw [Nat.mod_eq_of_lt (by omega)]
  omega

theorem open_scope {H : Type} {enc : TypeId × Value → H} {W : World} {r : Reach} {base b0 : Nat} {sp : Nat → Bool} {held : Bool} {v : Value} {d : DataW H} {p : List MemPlace}
    (hv : Value.okWide Trym.prog W r base 22 v) (h : DataW.Trod enc Trym.prog W b0 sp held 22 v d p) : ∃ S : List UInt8, S.length = 32 ∧ v = .agg (scA S) := by
  simp only [Value.okWide, Trym.underlying22] at hv
  obtain ⟨cs, rfl, hsz, _⟩ := hv
  obtain ⟨fuel, hf⟩ := h
  obtain ⟨xs, m, _, _, hl, hx, hi⟩ := DataW.trod_array Trym.underlying22 hf
  rw [cells22] at hsz
  have hall : ∀ c ∈ cs.toList, ∃ b : UInt8, c = Value.int .u8 (b.toNat : Int) := by
    intro c hc
    obtain ⟨i, hil, rfl⟩ := List.mem_iff_getElem.1 hc
    have hi32 : i < 32 := by simp at hil; omega
    have hh := hi i hi32
    rw [cells5] at hh
    have hxs : xs[i]? = some (xs[i]'(by omega)) := List.getElem?_eq_getElem (by omega)
    rw [hxs] at hh
    obtain ⟨n, hc1, _, hw⟩ := DataW.trod_int Trym.underlying5 hh
    obtain ⟨b, hb⟩ := byte_of n hw
    refine ⟨b, ?_⟩
    rw [← hb]
    have : (Value.agg cs).cells.toList = cs.toList := rfl
    rw [this, Nat.mul_one, List.drop_eq_getElem_cons hil] at hc1
    simp only [List.take_succ_cons, List.take_zero, List.cons.injEq, and_true] at hc1
    exact hc1
  obtain ⟨S, hS⟩ := sc_of cs.toList hall
  refine ⟨S, ?_, ?_⟩
  · have := congrArg List.length hS
    have e : cs.toList.length = cs.size := Array.length_toList
    rw [sc_length] at this
    omega
  · rw [scA, hS]

end Go.Proofs.Qxb6603746aMods.K
