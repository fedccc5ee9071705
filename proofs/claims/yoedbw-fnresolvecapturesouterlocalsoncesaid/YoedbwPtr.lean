import Derived.Test.YoedbwBase
import Derived.LaidEql
namespace Go.Proofs.Yoedbw
open Go.RowKit

theorem size33 : (Edbg.prog.info? 33).map (·.size) = some 4 := by kernel_rfl

/-- 'p == q', two symbols that are not one. -/
theorem eql_other {w : World} {r o : Nat} {n1 c1 n2 c2 : ByteArray} {x y : Int} (hr : SymAt w r n1 c1 x) (ho : SymAt w o n2 c2 y) (hne : r ≠ o) :
    (binOp .eql 30 (.pointer (some ⟨r, 0, none⟩)) (.pointer (some ⟨o, 0, none⟩))).run Edbg.prog w = .ok (.bool false) w := by
  obtain ⟨j, hj, hs⟩ := Option.map_eq_some_iff.1 size33
  have hne' : (⟨r, 0, none⟩ : Addr) ≠ ⟨o, 0, none⟩ := fun e => hne (by cases e; rfl)
  have hx := run_sameAddr_other (P := Edbg.prog) w (a := ⟨r, 0, none⟩) (b := ⟨o, 0, none⟩) hne' hr ho
  have h : ∀ d : Nat, (Op.equalIn (d + 1) 30 (.pointer (some ⟨r, 0, none⟩)) (.pointer (some ⟨o, 0, none⟩))).run Edbg.prog w = .ok false w := fun d => by
    simp [Op.equalIn, run_underlying Edbg.underlying30, sizeOf, typeInfo, hj, hs, hx]
  simp only [binOp]
  simp [Op.equal, Op.maxDepth, h 9999]

/-- 'p != p'. -/
theorem neq_same (w : World) (r : Nat) : (binOp .neq 30 (.pointer (some ⟨r, 0, none⟩)) (.pointer (some ⟨r, 0, none⟩))).run Edbg.prog w = .ok (.bool false) w := by
  obtain ⟨j, hj, _⟩ := Option.map_eq_some_iff.1 size33
  have h : ∀ d : Nat, (Op.equalIn (d + 1) 30 (.pointer (some ⟨r, 0, none⟩)) (.pointer (some ⟨r, 0, none⟩))).run Edbg.prog w = .ok true w := fun d => by
    simp [Op.equalIn, run_underlying Edbg.underlying30, sizeOf, typeInfo, hj, run_sameAddr_same]
  simp only [binOp]
  simp [Op.equal, Op.maxDepth, h 9999]

end Go.Proofs.Yoedbw
