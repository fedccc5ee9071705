import Derived.Test.YoedbwW1
import Derived.Deep.RegionHeld3
import Derived.Deep.DrawnRows
import Derived.Deep.DeepCutAuto
import Derived.Deep.AppendLies
namespace Go.Proofs.Yoedbw
open Go.RowKit

def FREE : ByteArray := ⟨#[70, 82, 69, 69]⟩
def LOCAL : ByteArray := ⟨#[76, 79, 67, 65, 76]⟩

/-- The table's own block is no row of pointers. -/
theorem tab_ne_row {w : World} {T : Nat} {par : Value} {m : Nat} {nd md : Int} {fv : Value} {base n : Nat} {v : Value} {xs : List Value} (hT : TabAt w T par m nd md fv) (hrow : w.ownsRow base 30 1 v n xs) : v.ownBlock ≠ some T := fun h => by
  obtain ⟨cur, hc, _⟩ := ownsRow_tag hrow h
  unfold TabAt at hT
  rw [hT] at hc
  simp at hc
theorem sym_ne_row {w : World} {s : Nat} {nm sc : ByteArray} {ix : Int} {base n : Nat} {v : Value} {xs : List Value} (hS : SymAt w s nm sc ix) (hrow : w.ownsRow base 30 1 v n xs) : v.ownBlock ≠ some s := fun h => by
  obtain ⟨cur, hc, _⟩ := ownsRow_tag hrow h
  unfold SymAt at hS
  rw [hS] at hc
  simp at hc
theorem map_ne_row {w : World} {m N : Nat} {f : List UInt8 → Option Value} {base n : Nat} {v : Value} {xs : List Value} (hm : MapAt w m N f) (hrow : w.ownsRow base 30 1 v n xs) : v.ownBlock ≠ some m := fun h => by
  obtain ⟨cur, hc, _⟩ := ownsRow_tag hrow h
  obtain ⟨es, c, hb⟩ := hm.isMap
  rw [hb] at hc
  simp at hc
theorem sym_ne_tab {w : World} {s : Nat} {nm sc : ByteArray} {ix : Int} {T : Nat} {par : Value} {m : Nat} {nd md : Int} {fv : Value} (hS : SymAt w s nm sc ix) (hT : TabAt w T par m nd md fv) : s ≠ T := fun h => by
  subst h
  unfold SymAt at hS
  unfold TabAt at hT
  rw [hS] at hT
  simp at hT
theorem sym_ne_map {w : World} {s : Nat} {nm sc : ByteArray} {ix : Int} {m N : Nat} {f : List UInt8 → Option Value} (hS : SymAt w s nm sc ix) (hm : MapAt w m N f) : s ≠ m := fun h => by
  subst h
  obtain ⟨es, c, hb⟩ := hm.isMap
  unfold SymAt at hS
  rw [hS] at hb
  simp at hb
theorem tab_ne_map {w : World} {T : Nat} {par : Value} {m' : Nat} {nd md : Int} {fv : Value} {m N : Nat} {f : List UInt8 → Option Value} (hT : TabAt w T par m' nd md fv) (hm : MapAt w m N f) : T ≠ m := fun h => by
  subst h
  obtain ⟨es, c, hb⟩ := hm.isMap
  unfold TabAt at hT
  rw [hT] at hb
  simp at hb

/-- What stands behind 't.freeSymbols = append(t.freeSymbols, original)'. -/
theorem rel_app {w w1 : World} {T : Nat} {par : Value} {m : Nat} {nd md : Int} {fv : Value} {o : Nat} {nm sc : ByteArray} {ix : Int} {base n N : Nat} {xs : List Value} {f : List UInt8 → Option Value} {g cap : Nat} {ob : Obj}
    (hT : TabAt w T par m nd md fv) (hS : SymAt w o nm sc ix) (hrow : w.ownsRow base 30 1 fv n xs) (hmap : MapAt w m N f)
    (hown : w1.ownsRow base 30 1 (.slice (some ⟨g, 0, none⟩) (n + 1) cap) (n + 1) (xs ++ [.pointer (some ⟨o, 0, none⟩)])) (hgrow : (w.alloc ob).grownBy w1 fv.ownBlock) :
    TabAt (w1.setCell ⟨T, 5, none⟩ (.slice (some ⟨g, 0, none⟩) (n + 1) cap)) T par m nd md (.slice (some ⟨g, 0, none⟩) (n + 1) cap) ∧ SymAt (w1.setCell ⟨T, 5, none⟩ (.slice (some ⟨g, 0, none⟩) (n + 1) cap)) o nm sc ix ∧
    MapAt (w1.setCell ⟨T, 5, none⟩ (.slice (some ⟨g, 0, none⟩) (n + 1) cap)) m N f ∧ (w1.setCell ⟨T, 5, none⟩ (.slice (some ⟨g, 0, none⟩) (n + 1) cap)).ownsRow base 30 1 (.slice (some ⟨g, 0, none⟩) (n + 1) cap) (n + 1) (xs ++ [.pointer (some ⟨o, 0, none⟩)]) ∧
    Fr (fun k => k = T ∨ k = m ∨ fv.ownBlock = some k) w (w1.setCell ⟨T, 5, none⟩ (.slice (some ⟨g, 0, none⟩) (n + 1) cap)) := by
  have fr1 : Fr (fun k => fv.ownBlock = some k) w w1 := ((Fr.refl _ w).alloc ob).grown hgrow (fun k hk _ => hk)
  have hT1 : TabAt w1 T par m nd md fv := hT.fr fr1 (tab_ne_row hT hrow)
  have hS1 : SymAt w1 o nm sc ix := hS.fr fr1 (sym_ne_row hS hrow)
  have hM1 : MapAt w1 m N f := hmap.fr fr1 (map_ne_row hmap hrow)
  have fr2 : ∀ v, Fr (fun k => k = T) w1 (w1.setCell ⟨T, 5, none⟩ v) := fun v => (Fr.refl (fun k => k = T) w1).setCell (p := ⟨T, 5, none⟩) (fun _ => rfl) v
  refine ⟨?_, hS1.fr (fr2 _) (sym_ne_tab hS1 hT1), hM1.fr (fr2 _) (tab_ne_map hT1 hM1).symm, ownsRow_fr hown (fr2 _) (fun k hk e => ?_), ?_⟩
  · exact setCellAt hT1 5 _
  · subst e
    exact tab_ne_row hT1 hown hk
  · exact (fr1.mono (fun i _ h => .inr (.inr h))).trans' (fr2 _) (fun i _ h => .inl h)

theorem cells_app {w w1 : World} {T : Nat} {par : Value} {m : Nat} {nd md : Int} {fv : Value} {base n : Nat} {xs : List Value} {ob : Obj} (hT : TabAt w T par m nd md fv) (hrow : w.ownsRow base 30 1 fv n xs) (hgrow : (w.alloc ob).grownBy w1 fv.ownBlock) :
    w1.cell? ⟨T, 5, none⟩ = some fv ∧ w1.frozen? ⟨T, 5, none⟩ = false := by
  have hT1 : TabAt w1 T par m nd md fv := hT.fr (((Fr.refl _ w).alloc ob).grown hgrow (fun k hk _ => hk)) (tab_ne_row hT hrow)
  exact ⟨by rw [cellAt hT1]; rfl, frozenAt hT1 5⟩

theorem rel_box {w w2 : World} {T : Nat} {par : Value} {m : Nat} {nd md : Int} {o : Nat} {nm sc : ByteArray} {ix : Int} {base n n' N : Nat} {xs : List Value} {f : List UInt8 → Option Value} {v : Value} {S : Nat → Prop}
    (hT : TabAt w2 T par m nd md v) (hS : SymAt w2 o nm sc ix) (hmap : MapAt w2 m N f) (hrow : w2.ownsRow base 30 1 v n' xs) (fr : Fr S w w2) :
    SymAt (w2.alloc (.cells #[.string nm, .string FREE, .int .i64 n, .bool false] 33)).drew w2.heap.size nm FREE n ∧ TabAt (w2.alloc (.cells #[.string nm, .string FREE, .int .i64 n, .bool false] 33)).drew T par m nd md v ∧
    SymAt (w2.alloc (.cells #[.string nm, .string FREE, .int .i64 n, .bool false] 33)).drew o nm sc ix ∧ MapAt (w2.alloc (.cells #[.string nm, .string FREE, .int .i64 n, .bool false] 33)).drew m N f ∧
    (w2.alloc (.cells #[.string nm, .string FREE, .int .i64 n, .bool false] 33)).drew.ownsRow base 30 1 v n' xs ∧ Fr S w (w2.alloc (.cells #[.string nm, .string FREE, .int .i64 n, .bool false] 33)).drew := by
  have fr2 : Fr (fun _ => False) w2 (w2.alloc (.cells #[.string nm, .string FREE, .int .i64 n, .bool false] 33)).drew := ((Fr.refl _ w2).alloc _).drew
  exact ⟨heap_alloc_new w2 _, hT.fr fr2 id, hS.fr fr2 id, hmap.fr fr2 id, ownsRow_fr hrow fr2 (fun _ _ => id), fr.trans' fr2 (fun _ _ h => h.elim)⟩

set_option maxHeartbeats 400000 in
theorem free1 (w : World) (T : Nat) (par : Value) (m : Nat) (nd md : Int) (fv : Value) (o : Nat) (nm sc : ByteArray) (ix : Int) (base n N : Nat) (xs : List Value) (f : List UInt8 → Option Value)
    (hT : TabAt w T par m nd md fv) (hS : SymAt w o nm sc ix) (hrow : w.ownsRow base 30 1 fv n xs) (hmap : MapAt w m N f) (hb : base ≤ w.heap.size) (hn : n ≤ 5000) (hN : N ≤ 5000) (hnm : nm.size ≤ maxLen) :
    Calls Edbg.prog 16 #[.pointer (some ⟨T, 0, none⟩), .pointer (some ⟨o, 0, none⟩)] w fun e w' => ∃ r fv', e = .returned (.pointer (some ⟨r, 0, none⟩)) ∧ w.heap.size ≤ r ∧ SymAt w' r nm FREE n ∧ TabAt w' T par m nd md fv' ∧
      w'.ownsRow base 30 1 fv' (n + 1) (xs ++ [.pointer (some ⟨o, 0, none⟩)]) ∧ MapAt w' m (N + 1) (upd f nm.data.toList (.pointer (some ⟨r, 0, none⟩))) ∧ Fr (fun k => k = T ∨ k = m ∨ fv.ownBlock = some k) w w' := by
  have c5 : w.cell? ⟨T, 5, none⟩ = some fv := by rw [cellAt hT]; rfl
  have f5 : w.frozen? ⟨T, 5, none⟩ = false := frozenAt hT 5
  obtain ⟨i0, hi, hz0, hz1, hz2⟩ := info_parts info30
  go_enter Edbg.func16, Edbg.ntmps16
  go_upto_region 1 with fail
  go_cut [] (fun w2 => ∃ g cap, TabAt w2 T par m nd md (.slice (some ⟨g, 0, none⟩) (n + 1) cap) ∧ SymAt w2 o nm sc ix ∧ MapAt w2 m N f ∧ w2.ownsRow base 30 1 (.slice (some ⟨g, 0, none⟩) (n + 1) cap) (n + 1) (xs ++ [.pointer (some ⟨o, 0, none⟩)]) ∧ Fr (fun k => k = T ∨ k = m ∨ fv.ownBlock = some k) w w2)
  case first =>
    have Hr : Hid (w.ownsRow base 30 1 fv n xs ∧ TabAt w T par m nd md fv ∧ SymAt w o nm sc ix ∧ MapAt w m N f) := ⟨hrow, hT, hS, hmap⟩
    clear hrow hT hS hmap
    go_wp2_with (first
      | (at_builtin; refine wpList_append_lies _ rfl _ _ 29 rfl base 30 i0 (.pointer none) 1 8 Edbg.underlying29 hi hz0 hz1 hz2 rfl (by decide) fv n xs rfl (Hr.out.1.alloc _) ⟨w.heap.size, 0, none⟩ 1 1 [.pointer (some ⟨o, 0, none⟩)] rfl rfl (cell_one_new _ _ _) (by simp [Value.oneCell']) (by decide) (by unfold maxLen; omega) (by omega) (by simp; omega) _ rfl ?_; intro g cap w1 hown hgrow hat hlt; have HR := hid (rel_app Hr.out.2.1 Hr.out.2.2.1 Hr.out.1 Hr.out.2.2.2 hown hgrow); obtain ⟨d5, g5⟩ := cells_app Hr.out.2.1 Hr.out.1 hgrow; clear hown hgrow hat hlt Hr))
    go_meet
    case rel => exact ⟨g, cap, HR.out⟩
  case rest =>
    obtain ⟨g, cap, hT2, hS2, hM2, hrow2, fr2⟩ := hcut
    obtain ⟨w2, hw2⟩ : ∃ w2, w2 = wc := ⟨_, rfl⟩
    subst hw2
    clear c5 f5 hT hS hmap hi hz0 hz1 hz2
    have d5 : w2.cell? ⟨T, 5, none⟩ = some (.slice (some ⟨g, 0, none⟩) (n + 1) cap) := by rw [cellAt hT2]; rfl
    have e0 : w2.cell? ⟨o, 0, none⟩ = some (.string nm) := by rw [cellAt hS2]; rfl
    have Hf := hid hT2
    have Hs := hid hS2
    have Hm := hid hM2
    have Hr := hid hrow2
    have HF := hid fr2
    clear hT2 hS2 hM2 hrow2 fr2 hrow
    have hwn := wrapNat n (by omega)
    go_upto_region 2 with fail
    go_cut [5] (fun s5 w3 => ∃ r, s5 = .pointer (some ⟨r, 0, none⟩) ∧ w2.heap.size = r ∧ (w2.alloc (.cells #[.string nm, .string FREE, .int .i64 n, .bool false] 33)).drew = w3)
    case first =>
      go_region_held3 (fun w' => w'.cell? ⟨T, 5, none⟩ = some (.slice (some ⟨g, 0, none⟩) (n + 1) cap) ∧ w'.cell? ⟨o, 0, none⟩ = some (.string nm)) (go_keep) (fail)
      go_wp2
      go_meet
      case rel => exact ⟨_, rfl, rfl, rfl⟩
    case rest =>
      obtain ⟨r, rfl, rfl, rfl⟩ := hcut
      obtain ⟨hS3, hT3, hS3', hM3, hrow3, fr3⟩ := rel_box Hf.out Hs.out Hm.out Hr.out HF.out
      generalize (w2.alloc (.cells #[.string nm, .string FREE, .int .i64 n, .bool false] 33)).drew = w3 at *
      have hr : w.heap.size ≤ w2.heap.size := HF.out.size
      generalize w2.heap.size = r at *
      clear d5 e0 Hf Hs Hm Hr HF hwn
      have d2 : w3.cell? ⟨T, 2, none⟩ = some (.map (some m)) := by rw [cellAt hT3]; rfl
      have e0 : w3.cell? ⟨o, 0, none⟩ = some (.string nm) := by rw [cellAt hS3']; rfl
      obtain ⟨w4, hrun, hM4, hturn⟩ := MapAt.store (w := w3.drew) (hM3.of_block rfl) Edbg.underlying42 (by unfold maxLen; omega) hnm (.pointer (some ⟨r, 0, none⟩))
      have fr4 : Fr (fun k => k = m) w3 w4 := ((Fr.refl _ w3).drew).trans (mapTurned_fr hturn)
      have hT4 := hT3.fr fr4 (tab_ne_map hT3 hM3)
      have hS4' := hS3'.fr fr4 (sym_ne_map hS3' hM3)
      have hS4 := hS3.fr fr4 (sym_ne_map hS3 hM3)
      have hR4 := ownsRow_fr hrow3 fr4 (fun k hk e => by subst e; exact map_ne_row hM3 hrow3 hk)
      have d2' : w4.cell? ⟨T, 2, none⟩ = some (.map (some m)) := by rw [cellAt hT4]; rfl
      have e0' : w4.cell? ⟨o, 0, none⟩ = some (.string nm) := by rw [cellAt hS4']; rfl
      have HA := hid (And.intro hS4 (And.intro hT4 (And.intro hR4 (And.intro hM4 (fr3.trans' fr4 (fun _ _ e => .inr (.inl e)))))))
      clear hS3 hT3 hM4 hrow3 fr3 hturn hM3 hS3' fr4 hT4 hS4 hS4' hR4
      go_upto_region 3 with fail
      go_region_held3 (fun w' => w'.cell? ⟨T, 2, none⟩ = some (.map (some m)) ∧ w'.cell? ⟨o, 0, none⟩ = some (.string nm)) (go_keep) (fail)
      go_wp2
      go_ret
      exact ⟨r, _, rfl, hr, HA.out⟩

/-- ZZdefineFree is defineFree. -/
theorem zzfree (w : World) (T : Nat) (par : Value) (m : Nat) (nd md : Int) (fv : Value) (o : Nat) (nm sc : ByteArray) (ix : Int) (base n N : Nat) (xs : List Value) (f : List UInt8 → Option Value)
    (hT : TabAt w T par m nd md fv) (hS : SymAt w o nm sc ix) (hrow : w.ownsRow base 30 1 fv n xs) (hmap : MapAt w m N f) (hb : base ≤ w.heap.size) (hn : n ≤ 5000) (hN : N ≤ 5000) (hnm : nm.size ≤ maxLen) :
    Calls Edbg.prog 9 #[.pointer (some ⟨T, 0, none⟩), .pointer (some ⟨o, 0, none⟩)] w fun e w' => ∃ r fv', e = .returned (.pointer (some ⟨r, 0, none⟩)) ∧ w.heap.size ≤ r ∧ SymAt w' r nm FREE n ∧ TabAt w' T par m nd md fv' ∧
      w'.ownsRow base 30 1 fv' (n + 1) (xs ++ [.pointer (some ⟨o, 0, none⟩)]) ∧ MapAt w' m (N + 1) (upd f nm.data.toList (.pointer (some ⟨r, 0, none⟩))) ∧ Fr (fun k => k = T ∨ k = m ∨ fv.ownBlock = some k) w w' := by
  have H := hid (free1 w T par m nd md fv o nm sc ix base n N xs f hT hS hrow hmap hb hn hN hnm)
  clear hT hS hrow hmap hb hn hN hnm
  go_enter Edbg.func9, Edbg.ntmps9
  go_wp2_with fail
  refine H.out.mono ?_
  rintro e w' ⟨r, fv', rfl, H2⟩
  have HA := hid H2
  clear H2
  go_wp2
  go_ret
  exact ⟨r, _, rfl, HA.out⟩

end Go.Proofs.Yoedbw
