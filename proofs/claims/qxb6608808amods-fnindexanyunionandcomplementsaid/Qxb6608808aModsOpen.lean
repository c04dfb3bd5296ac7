/- An array of 256 bools that came in, opened. -/
import Derived.Test.Qxb6608808aModsIdx
import Derived.ProofKit
import Derived.OpenShut
import Derived.ShutString
import Derived.ChangeOld
import Derived.Below
namespace Go.Proofs.Qxb6608808aMods
open Go.ChangeShapes Go.WideShapes Go.ChangeAt Go.RowKit

theorem cells22 : Trym.prog.cellsOf 22 = 256 := by kernel_rfl
theorem cells4 : Trym.prog.cellsOf 4 = 1 := by kernel_rfl

theorem open_set {H : Type} {enc : TypeId × Value → H} {W : World} {base b0 : Nat} {sp : Nat → Bool} {held : Bool} {v : Value} {d : DataW H} {p : List MemPlace}
    (hv : Value.okWide Trym.prog W .any b0 22 v) (h : DataW.Trod enc Trym.prog W base sp held 22 v d p) : ∃ (cs : Array Value) (f : UInt8 → Bool), v = .agg cs ∧ IsSet cs f := by
  obtain ⟨cs, rfl, hsz⟩ : ∃ cs, v = .agg cs ∧ cs.size = 256 := by
    simp only [Value.okWide, Trym.underlying22] at hv
    obtain ⟨cs, h1, h2, _⟩ := hv
    exact ⟨cs, h1, by rw [h2, cells22]⟩
  obtain ⟨fuel, hf⟩ := h
  obtain ⟨xs, m, _, _, _, hxl, hx⟩ := DataW.trod_array Trym.underlying22 hf
  have hb : ∀ i, i < 256 → ∃ b, cs[i]? = some (.bool b) := fun i hi => by
    have h1 := hx i hi
    rw [List.getElem?_eq_getElem (by omega), cells4] at h1
    obtain ⟨b, hb, _⟩ := DataW.trod_bool Trym.underlying4 h1
    refine ⟨b, ?_⟩
    simp only [Value.cells, Nat.mul_one] at hb
    have h2 : (cs.toList.drop i).take 1 = [cs[i]] := by
      rw [List.drop_eq_getElem_cons (by simp; omega)]; simp
    rw [h2] at hb
    rw [Array.getElem?_eq_getElem (by omega)]
    simpa using hb
  refine ⟨cs, fun x => match cs[x.toNat]? with | some (.bool b) => b | _ => false, rfl, hsz, fun x => ?_⟩
  obtain ⟨b, hb⟩ := hb x.toNat x.toNat_lt
  simp only [hb]

end Go.Proofs.Qxb6608808aMods
