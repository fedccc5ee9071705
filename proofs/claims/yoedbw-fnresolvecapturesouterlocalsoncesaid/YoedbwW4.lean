import Derived.Test.YoedbwW3
namespace Go.Proofs.Yoedbw
open Go.RowKit

/-- The world behind 'symbol := &Symbol{..}', 't.numDefinition++'. -/
theorem def_two {w : World} {T R m k : Nat} {fv : Value} {N : Nat} {f : List UInt8 → Option Value} (nm sc : ByteArray) (hT : TabAt w T (.pointer (some ⟨R, 0, none⟩)) m k k fv) (hM : MapAt w m N f) :
    TabAt ((w.setCell ⟨T, 3, none⟩ (.int .i64 (k + 1))).alloc (.cells #[.string nm, .string sc, .int .i64 k, .bool false] 33)) T (.pointer (some ⟨R, 0, none⟩)) m (k + 1) k fv ∧
    MapAt ((w.setCell ⟨T, 3, none⟩ (.int .i64 (k + 1))).alloc (.cells #[.string nm, .string sc, .int .i64 k, .bool false] 33)) m N f ∧
    SymAt ((w.setCell ⟨T, 3, none⟩ (.int .i64 (k + 1))).alloc (.cells #[.string nm, .string sc, .int .i64 k, .bool false] 33)) w.heap.size nm sc k ∧
    Fr (fun i => i = T ∨ i = m) w ((w.setCell ⟨T, 3, none⟩ (.int .i64 (k + 1))).alloc (.cells #[.string nm, .string sc, .int .i64 k, .bool false] 33)) := by
  have fr1 : Fr (fun i => i = T) w (w.setCell ⟨T, 3, none⟩ (.int .i64 (k + 1))) := (Fr.refl (fun i => i = T) w).setCell (p := ⟨T, 3, none⟩) (fun _ => rfl) _
  have fr2 : ∀ (x : World) (o : Obj), Fr (fun _ => False) x (x.alloc o) := fun x o => (Fr.refl _ x).alloc o
  have hT1 : TabAt (w.setCell ⟨T, 3, none⟩ (.int .i64 (k + 1))) T (.pointer (some ⟨R, 0, none⟩)) m (k + 1) k fv := setCellAt hT 3 _
  have hz : (w.setCell ⟨T, 3, none⟩ (.int .i64 (k + 1))).heap.size = w.heap.size := by simp [World.setCell]
  refine ⟨hT1.fr (fr2 _ _) id, (hM.fr fr1 (tab_ne_map hT hM).symm).fr (fr2 _ _) id, ?_, (fr1.alloc _).mono (fun i _ h => .inl h)⟩
  have := heap_alloc_new (w.setCell ⟨T, 3, none⟩ (.int .i64 (k + 1))) (.cells #[.string nm, .string sc, .int .i64 k, .bool false] 33)
  rw [hz] at this
  exact this

/-- .. behind 't.updateMaxDefs(..)'. -/
theorem def_last {w : World} {T R m k s : Nat} {fv : Value} {N : Nat} {f : List UInt8 → Option Value} {nm sc : ByteArray} (hT : TabAt w T (.pointer (some ⟨R, 0, none⟩)) m (k + 1) k fv) (hM : MapAt w m N f) (hS : SymAt w s nm sc k) :
    SymAt (w.setCell ⟨T, 4, none⟩ (.int .i64 (k + 1))) s nm sc k ∧ TabAt (w.setCell ⟨T, 4, none⟩ (.int .i64 (k + 1))) T (.pointer (some ⟨R, 0, none⟩)) m (k + 1) (k + 1) fv ∧ MapAt (w.setCell ⟨T, 4, none⟩ (.int .i64 (k + 1))) m N f ∧
    Fr (fun i => i = T ∨ i = m) w (w.setCell ⟨T, 4, none⟩ (.int .i64 (k + 1))) := by
  have fr1 : Fr (fun i => i = T) w (w.setCell ⟨T, 4, none⟩ (.int .i64 (k + 1))) := (Fr.refl (fun i => i = T) w).setCell (p := ⟨T, 4, none⟩) (fun _ => rfl) _
  exact ⟨hS.fr fr1 (sym_ne_tab hS hT), setCellAt hT 4 _, hM.fr fr1 (tab_ne_map hT hM).symm, fr1.mono (fun i _ h => .inl h)⟩

set_option maxHeartbeats 400000 in
/-- Define, in a table that has a parent and is no block. -/
theorem define_any (w : World) (T : Nat) (R : Nat) (m : Nat) (k : Nat) (fv : Value) (N : Nat) (f : List UInt8 → Option Value) (nm : ByteArray)
    (hT : TabAt w T (.pointer (some ⟨R, 0, none⟩)) m k k fv) (hM : MapAt w m N f) (hk : k ≤ 5000) (hN : N ≤ 5000) (hnm : nm.size ≤ maxLen) :
    Calls Edbg.prog 15 #[.pointer (some ⟨T, 0, none⟩), .string nm] w fun e w' => ∃ s, e = .returned (.pointer (some ⟨s, 0, none⟩)) ∧ w.heap.size ≤ s ∧ SymAt w' s nm LOCAL k ∧
      TabAt w' T (.pointer (some ⟨R, 0, none⟩)) m (k + 1) (k + 1) fv ∧ MapAt w' m (N + 1) (upd f nm.data.toList (.pointer (some ⟨s, 0, none⟩))) ∧ Fr (fun i => i = T ∨ i = m) w w' := by
  have hlt : T < w.heap.size := blockLt hT
  have c3 : w.cell? ⟨T, 3, none⟩ = some (.int .i64 k) := by rw [cellAt hT]; rfl
  have f3 : w.frozen? ⟨T, 3, none⟩ = false := frozenAt hT 3
  have hne := World.new_ne w ⟨T, 3, none⟩ c3
  have H1 := hid (next_any w T _ m k k fv hT)
  have HT := hid hT
  have HM := hid hM
  clear hT hM
  go_enter Edbg.func15, Edbg.ntmps15
  go_wp2_with fail
  refine H1.out.mono ?_
  rintro e w' ⟨rfl, hw'⟩
  subst hw'
  clear H1
  go_wp2_with fail
  obtain ⟨hT2, -, -, -⟩ := def_two nm ⟨#[]⟩ HT.out HM.out
  refine (parent_any _ T _ m _ _ fv hT2).mono ?_
  clear hT2
  rintro e w2 ⟨rfl, rfl⟩
  go_upto_region 12 with fail
  obtain ⟨hT3, hM3, hS3, fr3⟩ := def_two nm ⟨#[76, 79, 67, 65, 76]⟩ HT.out HM.out
  generalize ((w'.setCell ⟨T, 3, none⟩ (.int .i64 (k + 1))).alloc (.cells #[.string nm, .string ⟨#[76, 79, 67, 65, 76]⟩, .int .i64 k, .bool false] 33)) = w3 at *
  obtain ⟨s, hs⟩ : ∃ s, s = w'.heap.size := ⟨_, rfl⟩
  have hle : w'.heap.size ≤ s := by omega
  rw [← hs] at hS3 ⊢
  clear hs hlt c3 f3 hne HT HM
  obtain ⟨w4, hrun, hM4, hturn⟩ := hM3.store Edbg.underlying42 (by unfold maxLen; omega) hnm (.pointer (some ⟨s, 0, none⟩))
  have fr4 := mapTurned_fr hturn
  have hT4 := hT3.fr fr4 (tab_ne_map hT3 hM3)
  have hS4 := hS3.fr fr4 (sym_ne_map hS3 hM3)
  have d2 : w3.cell? ⟨T, 2, none⟩ = some (.map (some m)) := by rw [cellAt hT3]; rfl
  have e2 : w4.cell? ⟨s, 2, none⟩ = some (.int .i64 k) := by rw [cellAt hS4]; rfl
  have H4 := hid (And.intro hT4 (And.intro hM4 (And.intro hS4 (fr3.trans' fr4 (fun _ _ e => .inr e)))))
  clear hT3 hM3 hS3 fr3 hM4 hturn fr4 hT4 hS4
  go_wp2_with fail
  obtain ⟨hT4, hM4, hS4, fr4⟩ := H4.out
  refine (upd_any w4 T _ m _ _ fv _ hT4 (by omega)).mono ?_
  rintro e w5 ⟨rfl, rfl⟩
  obtain ⟨hS5, hT5, hM5, fr5⟩ := def_last hT4 hM4 hS4
  have H5 := hid (And.intro hS5 (And.intro hT5 (And.intro hM5 (fr4.trans fr5))))
  clear hT4 hM4 hS4 fr4 hS5 hT5 hM5 fr5 H4 hrun d2 e2
  generalize w4.setCell ⟨T, 4, none⟩ (.int .i64 (k + 1)) = w5 at *
  go_wp2
  go_ret
  exact ⟨s, rfl, hle, H5.out⟩

end Go.Proofs.Yoedbw
