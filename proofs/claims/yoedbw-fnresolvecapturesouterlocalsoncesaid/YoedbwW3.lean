import Derived.Test.YoedbwW2
namespace Go.Proofs.Yoedbw
open Go.RowKit

set_option maxHeartbeats 400000 in
/-- Resolve at a table that holds the name, the symbol FREE. -/
theorem res_free (w : World) (T : Nat) (par : Value) (m : Nat) (nd md : Int) (fv : Value) (N : Nat) (f : List UInt8 → Option Value) (s : Nat) (nm snm : ByteArray) (ix : Int)
    (hT : TabAt w T par m nd md fv) (hM : MapAt w m N f) (hf : f nm.data.toList = some (.pointer (some ⟨s, 0, none⟩))) (hS : SymAt w s snm FREE ix) (hnm : nm.size ≤ maxLen) :
    Calls Edbg.prog 11 #[.pointer (some ⟨T, 0, none⟩), .string nm, .bool false] w fun e w' => e = .returned (.tuple #[.pointer (some ⟨s, 0, none⟩), .int .i64 0, .bool true]) ∧ w' = w := by
  have c2 : w.cell? ⟨T, 2, none⟩ = some (.map (some m)) := by rw [cellAt hT]; rfl
  have s1 : w.cell? ⟨s, 1, none⟩ = some (.string ⟨#[70, 82, 69, 69]⟩) := by rw [cellAt hS]; rfl
  have hl := hM.lookOk Edbg.underlying42 (zero30 w) hnm
  rw [hf] at hl
  simp only [Option.getD_some, Option.isSome_some] at hl
  clear hT hM hf hS
  go_enter Edbg.func11, Edbg.ntmps11
  go_wp2
  go_ret3
  exact ⟨rfl, rfl⟩

set_option maxHeartbeats 400000 in
/-- Resolve, asked from within, at a table that holds the name, the symbol LOCAL. -/
theorem res_local (w : World) (T : Nat) (par : Value) (m : Nat) (nd md : Int) (fv : Value) (N : Nat) (f : List UInt8 → Option Value) (s : Nat) (nm snm : ByteArray) (ix : Int)
    (hT : TabAt w T par m nd md fv) (hM : MapAt w m N f) (hf : f nm.data.toList = some (.pointer (some ⟨s, 0, none⟩))) (hS : SymAt w s snm LOCAL ix) (hnm : nm.size ≤ maxLen) :
    Calls Edbg.prog 11 #[.pointer (some ⟨T, 0, none⟩), .string nm, .bool true] w fun e w' => e = .returned (.tuple #[.pointer (some ⟨s, 0, none⟩), .int .i64 0, .bool true]) ∧ w' = w := by
  have c2 : w.cell? ⟨T, 2, none⟩ = some (.map (some m)) := by rw [cellAt hT]; rfl
  have s1 : w.cell? ⟨s, 1, none⟩ = some (.string ⟨#[76, 79, 67, 65, 76]⟩) := by rw [cellAt hS]; rfl
  have s3 : w.cell? ⟨s, 3, none⟩ = some (.bool false) := by rw [cellAt hS]; rfl
  have hl := hM.lookOk Edbg.underlying42 (zero30 w) hnm
  rw [hf] at hl
  simp only [Option.getD_some, Option.isSome_some] at hl
  clear hT hM hf hS
  go_enter Edbg.func11, Edbg.ntmps11
  go_wp2
  go_ret3
  exact ⟨rfl, rfl⟩

set_option maxHeartbeats 400000 in
/-- Resolve at a table that does not hold the name; its parent holds it, LOCAL: a free symbol is laid. -/
theorem res_outer (w : World) (T : Nat) (m : Nat) (nd md : Int) (fv : Value) (N : Nat) (f : List UInt8 → Option Value) (F : Nat) (par : Value) (m' : Nat) (nd' md' : Int) (fv' : Value) (N' : Nat) (f' : List UInt8 → Option Value)
    (s : Nat) (nm : ByteArray) (ix : Int) (base n : Nat) (xs : List Value)
    (hT : TabAt w T (.pointer (some ⟨F, 0, none⟩)) m nd md fv) (hM : MapAt w m N f) (hf : f nm.data.toList = none)
    (hT' : TabAt w F par m' nd' md' fv') (hM' : MapAt w m' N' f') (hf' : f' nm.data.toList = some (.pointer (some ⟨s, 0, none⟩))) (hS : SymAt w s nm LOCAL ix)
    (hrow : w.ownsRow base 30 1 fv n xs) (hb : base ≤ w.heap.size) (hn : n ≤ 5000) (hN : N ≤ 5000) (hnm : nm.size ≤ maxLen) :
    Calls Edbg.prog 11 #[.pointer (some ⟨T, 0, none⟩), .string nm, .bool false] w fun e w' => ∃ r fv2, e = .returned (.tuple #[.pointer (some ⟨r, 0, none⟩), .int .i64 1, .bool true]) ∧ w.heap.size ≤ r ∧ SymAt w' r nm FREE n ∧ TabAt w' T (.pointer (some ⟨F, 0, none⟩)) m nd md fv2 ∧
      w'.ownsRow base 30 1 fv2 (n + 1) (xs ++ [.pointer (some ⟨s, 0, none⟩)]) ∧ MapAt w' m (N + 1) (upd f nm.data.toList (.pointer (some ⟨r, 0, none⟩))) ∧ Fr (fun k => k = T ∨ k = m ∨ fv.ownBlock = some k) w w' := by
  have c0 : w.cell? ⟨T, 0, none⟩ = some (.pointer (some ⟨F, 0, none⟩)) := by rw [cellAt hT]; rfl
  have c1 : w.cell? ⟨T, 1, none⟩ = some (.bool false) := by rw [cellAt hT]; rfl
  have c2 : w.cell? ⟨T, 2, none⟩ = some (.map (some m)) := by rw [cellAt hT]; rfl
  have s1 : w.cell? ⟨s, 1, none⟩ = some (.string ⟨#[76, 79, 67, 65, 76]⟩) := by rw [cellAt hS]; rfl
  have hl := hM.lookOk Edbg.underlying42 (zero30 w) hnm
  rw [hf] at hl
  simp only [Option.getD_none, Option.isSome_none] at hl
  have H1 := hid (res_local w F par m' nd' md' fv' N' f' s nm nm ix hT' hM' hf' hS hnm)
  have H2 := hid (free1 w T (.pointer (some ⟨F, 0, none⟩)) m nd md fv s nm LOCAL ix base n N xs f hT hS hrow hM hb hn hN hnm)
  clear hT hM hf hT' hM' hf' hS hrow hb hn hN hnm
  go_enter Edbg.func11, Edbg.ntmps11
  go_wp2_with fail
  refine H1.out.mono ?_
  rintro e w' ⟨rfl, rfl⟩
  go_wp2_with fail
  refine H2.out.mono ?_
  rintro e w2 ⟨r, fv2, rfl, H3⟩
  have HA := hid H3
  clear H3
  go_wp2
  go_ret3
  exact ⟨r, _, rfl, HA.out⟩

end Go.Proofs.Yoedbw
