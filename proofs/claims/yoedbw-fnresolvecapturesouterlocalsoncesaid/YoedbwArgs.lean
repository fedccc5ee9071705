import Derived.Test.YoedbwW5
import Derived.ProofKit
import Derived.OpenShut
import Derived.ShutString
import Derived.ChangeOld
import Derived.SliceStrings
namespace Go.Proofs.Yoedbw
open Go.ChangeShapes Go.WideShapes Go.ChangeAt Go.RowKit

theorem own : ownKnob Edbg.prog.godebug = none := by kernel_rfl
theorem laidOut : laidOutB Edbg.prog = true := by kernel_rfl
theorem cells9 : Edbg.prog.cellsOf 9 = 1 := by kernel_rfl
theorem cells3 : Edbg.prog.cellsOf 3 = 1 := by kernel_rfl

/-- A slice of strings among the arguments, as the walk is told of it. -/
theorem strArg {H : Type} {enc : TypeId × Value → H} {W : World} {a : Option Addr} {len cap : Nat} {d : DataW H} {p : List MemPlace}
    (h : DataW.Trod enc Edbg.prog W 0 (fun _ => true) true 22 (.slice a len cap) d p) : ∃ b off S, StrRow W a len b off S ∧ len ≤ maxLen ∧ (a = none → len = 0) := by
  obtain ⟨fuel, hf⟩ := h
  rcases open_strings Edbg.underlying22 Edbg.underlying9 cells9 hf with ⟨hcs, _⟩ | ⟨x, l, c, ss, hcs, _, hl, hm, hz, _, hcell, hws⟩
  · simp [Value.cells] at hcs
    obtain ⟨rfl, rfl, rfl⟩ := hcs
    exact ⟨0, 0, fun _ => ByteArray.empty, fun i hi => absurd hi (Nat.not_lt_zero i), Nat.zero_le _, fun _ => rfl⟩
  · simp [Value.cells] at hcs
    obtain ⟨rfl, rfl, rfl⟩ := hcs
    simp only [if_true] at hz
    obtain ⟨b, off, spot⟩ := x
    refine ⟨b, off, fun i => ss.getD i ByteArray.empty, fun i hi => ?_, Nat.le_trans hl hm, fun h => by cases h⟩
    have hspot : spot = none := by
      have hc := hcell 0 (by omega)
      simpa [Addr.add] using World.cell?_spot hc
    subst hspot
    refine ⟨rfl, ?_, ?_⟩
    · have hc := hcell i (by omega)
      have hadd : (⟨b, off, none⟩ : Addr).add i = ⟨b, off + i, none⟩ := by unfold Addr.add; split <;> simp_all
      rw [hadd] at hc
      exact hc
    · have hi2 : i < ss.length := by omega
      refine hws _ ?_
      show ss.getD i ByteArray.empty ∈ ss
      rw [List.getD_eq_getElem?_getD, List.getElem?_eq_getElem hi2]
      exact List.getElem_mem hi2

/-- A slice of ints among the arguments. -/
theorem intArg {H : Type} {enc : TypeId × Value → H} {W : World} {a : Option Addr} {len cap : Nat} {d : DataW H} {p : List MemPlace}
    (h : DataW.Trod enc Edbg.prog W 0 (fun _ => true) true 23 (.slice a len cap) d p) : ∃ b off Z, IntRow W a len b off Z ∧ len ≤ maxLen ∧ (a = none → len = 0) := by
  obtain ⟨fuel, hf⟩ := h
  rcases open_ints Edbg.underlying23 Edbg.underlying3 cells3 hf with ⟨hcs, _⟩ | ⟨x, l, c, ss, hcs, _, hl, hm, hz, _, hcell, hws⟩
  · simp [Value.cells] at hcs
    obtain ⟨rfl, rfl, rfl⟩ := hcs
    exact ⟨0, 0, fun _ => 0, fun i hi => absurd hi (Nat.not_lt_zero i), Nat.zero_le _, fun _ => rfl⟩
  · simp [Value.cells] at hcs
    obtain ⟨rfl, rfl, rfl⟩ := hcs
    simp only [if_true] at hz
    obtain ⟨b, off, spot⟩ := x
    refine ⟨b, off, fun i => ss.getD i 0, fun i hi => ?_, Nat.le_trans hl hm, fun h => by cases h⟩
    have hspot : spot = none := by
      have hc := hcell 0 (by omega)
      simpa [Addr.add] using World.cell?_spot hc
    subst hspot
    refine ⟨rfl, ?_, ?_⟩
    · have hc := hcell i (by omega)
      have hadd : (⟨b, off, none⟩ : Addr).add i = ⟨b, off + i, none⟩ := by unfold Addr.add; split <;> simp_all
      rw [hadd] at hc
      exact hc
    · have hi2 : i < ss.length := by omega
      refine hws _ ?_
      show ss.getD i 0 ∈ ss
      rw [List.getD_eq_getElem?_getD, List.getElem?_eq_getElem hi2]
      exact List.getElem_mem hi2

end Go.Proofs.Yoedbw
