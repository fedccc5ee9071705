import Derived.Test.YoedbwBase
namespace Go.Proofs.Yoedbw
open Go.RowKit

set_option maxHeartbeats 400000 in
theorem new_any (w : World) :
    Calls Edbg.prog 8 #[] w fun e w' => e = .returned (.pointer (some ⟨w.heap.size + 1, 0, none⟩)) ∧
      w' = (w.alloc (.map #[] 0)).alloc (.cells #[.pointer none, .bool false, .map (some w.heap.size), .int .i64 0, .int .i64 0, .slice none 0 0, .slice none 0 0] 46) := by
  have hmm := @run_makeMap Edbg.prog
  go_enter Edbg.func8, Edbg.ntmps8
  go_wp2
  go_ret
  exact ⟨rfl, rfl⟩

set_option maxHeartbeats 400000 in
theorem free_any (w : World) (T : Nat) (par : Value) (m : Nat) (nd md : Int) (fv : Value) (h : TabAt w T par m nd md fv) :
    Calls Edbg.prog 10 #[.pointer (some ⟨T, 0, none⟩)] w fun e w' => e = .returned fv ∧ w' = w := by
  have c5 : w.cell? ⟨T, 5, none⟩ = some fv := by rw [cellAt h]; rfl
  clear h
  go_enter Edbg.func10, Edbg.ntmps10
  go_wp2
  go_ret
  exact ⟨rfl, rfl⟩

set_option maxHeartbeats 400000 in
theorem max_any (w : World) (T : Nat) (par : Value) (m : Nat) (nd md : Int) (fv : Value) (h : TabAt w T par m nd md fv) :
    Calls Edbg.prog 12 #[.pointer (some ⟨T, 0, none⟩)] w fun e w' => e = .returned (.int .i64 md) ∧ w' = w := by
  have c5 : w.cell? ⟨T, 4, none⟩ = some (.int .i64 md) := by rw [cellAt h]; rfl
  clear h
  go_enter Edbg.func12, Edbg.ntmps12
  go_wp2
  go_ret
  exact ⟨rfl, rfl⟩

set_option maxHeartbeats 400000 in
theorem fork_any (w : World) (T : Nat) :
    Calls Edbg.prog 14 #[.pointer (some ⟨T, 0, none⟩), .bool false] w fun e w' => e = .returned (.pointer (some ⟨w.heap.size + 1, 0, none⟩)) ∧
      w' = (w.alloc (.map #[] 0)).alloc (.cells #[.pointer (some ⟨T, 0, none⟩), .bool false, .map (some w.heap.size), .int .i64 0, .int .i64 0, .slice none 0 0, .slice none 0 0] 46) := by
  have hmm := @run_makeMap Edbg.prog
  go_enter Edbg.func14, Edbg.ntmps14
  go_wp2
  go_ret
  exact ⟨rfl, rfl⟩

set_option maxHeartbeats 400000 in
theorem next_any (w : World) (T : Nat) (par : Value) (m : Nat) (nd md : Int) (fv : Value) (h : TabAt w T par m nd md fv) :
    Calls Edbg.prog 17 #[.pointer (some ⟨T, 0, none⟩)] w fun e w' => e = .returned (.int .i64 nd) ∧ w' = w := by
  have c1 : w.cell? ⟨T, 1, none⟩ = some (.bool false) := by rw [cellAt h]; rfl
  have c5 : w.cell? ⟨T, 3, none⟩ = some (.int .i64 nd) := by rw [cellAt h]; rfl
  clear h
  go_enter Edbg.func17, Edbg.ntmps17
  go_wp2
  go_ret
  exact ⟨rfl, rfl⟩

set_option maxHeartbeats 400000 in
theorem parent_any (w : World) (T : Nat) (par : Value) (m : Nat) (nd md : Int) (fv : Value) (h : TabAt w T par m nd md fv) :
    Calls Edbg.prog 18 #[.pointer (some ⟨T, 0, none⟩), .bool true] w fun e w' => e = .returned par ∧ w' = w := by
  have c1 : w.cell? ⟨T, 1, none⟩ = some (.bool false) := by rw [cellAt h]; rfl
  have c5 : w.cell? ⟨T, 0, none⟩ = some par := by rw [cellAt h]; rfl
  clear h
  go_enter Edbg.func18, Edbg.ntmps18
  go_wp2
  go_ret
  exact ⟨rfl, rfl⟩

set_option maxHeartbeats 400000 in
theorem upd_any (w : World) (T : Nat) (par : Value) (m : Nat) (nd md : Int) (fv : Value) (k : Int) (h : TabAt w T par m nd md fv) (hk : md < k) :
    Calls Edbg.prog 19 #[.pointer (some ⟨T, 0, none⟩), .int .i64 k] w fun e w' => e = .returned (.tuple #[]) ∧ w' = w.setCell ⟨T, 4, none⟩ (.int .i64 k) := by
  have c1 : w.cell? ⟨T, 1, none⟩ = some (.bool false) := by rw [cellAt h]; rfl
  have c4 : w.cell? ⟨T, 4, none⟩ = some (.int .i64 md) := by rw [cellAt h]; rfl
  have f4 : w.frozen? ⟨T, 4, none⟩ = false := frozenAt h 4
  clear h
  go_enter Edbg.func19, Edbg.ntmps19
  go_wp2
  go_end0
  exact ⟨rfl, rfl⟩

end Go.Proofs.Yoedbw
