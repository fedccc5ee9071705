import Derived.Test.YoedbwRows
import Derived.WalkKit
import Derived.WalkSpells
import Derived.WalkLawsBesides
import Derived.Maps.OwnSet
import Derived.Maps.AppendAt
import Derived.StringKeys
import Derived.Deep.OwnRows
namespace Go.Proofs.Yoedbw
open Go.RowKit

theorem hid {p : Prop} (h : p) : Hid p := h
theorem wrapNat (n : Nat) (h : n ≤ 9223372036854775807) : IntKind.i64.wrap (n : Int) = n := by rw [IntKind.wrap_i64]; omega

/-! ### closed facts of the program -/
theorem info30 : (Edbg.prog.info? 30).map (fun i => (i.zero, i.size, i.bytes)) = some (some (.pointer none), 1, 8) := by kernel_rfl
theorem info9 : (Edbg.prog.info? 9).map (fun i => (i.zero, i.size, i.bytes)) = some (some (.string ByteArray.empty), 1, 16) := by kernel_rfl
theorem info3 : (Edbg.prog.info? 3).map (fun i => (i.zero, i.size, i.bytes)) = some (some (.int .i64 0), 1, 8) := by kernel_rfl
theorem zero30 (w : World) : (zeroValue 30).run Edbg.prog w = .ok (.pointer none) w := by kernel_rfl
theorem zero4 (w : World) : (zeroValue 4).run Edbg.prog w = .ok (.bool false) w := by kernel_rfl
theorem keyed9 : Maps.Keyed Edbg.prog 9 := Maps.string_keyed Edbg.underlying9

/-! ### tables, symbols, in memory -/
/-- Block T of w is a symbol table: parent 'par', block false, its map in block m, counts nd, md, free list fv. -/
def TabAt (w : World) (T : Nat) (par : Value) (m : Nat) (nd md : Int) (fv : Value) : Prop :=
  w.heap[T]? = some (.cells #[par, .bool false, .map (some m), .int .i64 nd, .int .i64 md, fv, .slice none 0 0] 46 (0, 0))

/-- Block s of w is a symbol. -/
def SymAt (w : World) (s : Nat) (nm sc : ByteArray) (ix : Int) : Prop :=
  w.heap[s]? = some (.cells #[.string nm, .string sc, .int .i64 ix, .bool false] 33 (0, 0))

theorem cellAt {w : World} {b : Nat} {cs : Array Value} {t : TypeId} {fr : Nat × Nat} (h : w.heap[b]? = some (.cells cs t fr)) (i : Nat) : w.cell? ⟨b, i, none⟩ = cs[i]? := by
  simp [World.cell?, h]

theorem frozenAt {w : World} {b : Nat} {cs : Array Value} {t : TypeId} (h : w.heap[b]? = some (.cells cs t (0, 0))) (i : Nat) : w.frozen? ⟨b, i, none⟩ = false := by
  simp [World.frozen?, h]

theorem blockLt {w : World} {b : Nat} {o : Obj} (h : w.heap[b]? = some o) : b < w.heap.size := (Array.getElem?_eq_some_iff.1 h).1

theorem setCellAt {w : World} {b : Nat} {cs : Array Value} {t : TypeId} {fr : Nat × Nat} (h : w.heap[b]? = some (.cells cs t fr)) (i : Nat) (v : Value) :
    (w.setCell ⟨b, i, none⟩ v).heap[b]? = some (.cells (cs.setIfInBounds i v) t fr) := by
  simp [World.setCell, Array.getElem?_modify, h]

/-! ### what has turned: all old blocks but those of S are as they were -/
structure Fr (S : Nat → Prop) (w w' : World) : Prop where
  os : w'.os = w.os
  tape : w'.tape = w.tape
  output : w'.output = w.output
  size : w.heap.size ≤ w'.heap.size
  block : ∀ k, k < w.heap.size → ¬ S k → w'.heap[k]? = w.heap[k]?

theorem Fr.refl (S : Nat → Prop) (w : World) : Fr S w w := ⟨rfl, rfl, rfl, Nat.le_refl _, fun _ _ _ => rfl⟩
theorem Fr.trans {S : Nat → Prop} {a b c : World} (h : Fr S a b) (k : Fr S b c) : Fr S a c :=
  ⟨k.os.trans h.os, k.tape.trans h.tape, k.output.trans h.output, Nat.le_trans h.size k.size, fun i hi hn => (k.block i (Nat.lt_of_lt_of_le hi h.size) hn).trans (h.block i hi hn)⟩
/-- .. the second step may turn what is new, too. -/
theorem Fr.trans' {S S' : Nat → Prop} {a b c : World} (h : Fr S a b) (k : Fr S' b c) (hs : ∀ i, i < a.heap.size → S' i → S i) : Fr S a c :=
  ⟨k.os.trans h.os, k.tape.trans h.tape, k.output.trans h.output, Nat.le_trans h.size k.size, fun i hi hn => (k.block i (Nat.lt_of_lt_of_le hi h.size) (fun hx => hn (hs i hi hx))).trans (h.block i hi hn)⟩
theorem Fr.drewN {S : Nat → Prop} {a b : World} (h : Fr S a b) (n : Nat) : Fr S a (b.drewN n) := ⟨h.os, h.tape, h.output, h.size, h.block⟩
theorem Fr.drew {S : Nat → Prop} {a b : World} (h : Fr S a b) : Fr S a b.drew := ⟨h.os, h.tape, h.output, h.size, h.block⟩
theorem Fr.alloc {S : Nat → Prop} {a b : World} (h : Fr S a b) (o : Obj) : Fr S a (b.alloc o) :=
  h.trans ⟨rfl, rfl, rfl, by simp, fun k hk _ => Below.heap_alloc _ _ _ hk⟩
theorem Fr.setCell {S : Nat → Prop} {a b : World} (h : Fr S a b) {p : Addr} (hp : p.block < a.heap.size → S p.block) (u : Value) : Fr S a (b.setCell p u) :=
  ⟨h.os, h.tape, h.output, by simpa [World.setCell] using h.size, fun k hk hn => (Below.heap_setCell _ _ _ _ (fun e => hn (by subst e; exact hp hk))).trans (h.block k hk hn)⟩
theorem Fr.grown {S : Nat → Prop} {a b c : World} {row : Option Nat} (h : Fr S a b) (hg : b.grownBy c row) (hr : ∀ k, row = some k → k < a.heap.size → S k) : Fr S a c :=
  h.trans' (S' := fun k => row = some k) ⟨hg.os, hg.tape, hg.output, hg.size, fun k hk hn => hg.block k hk (fun e => hn e.symm)⟩ (fun i hi hx => hr i hx hi)
theorem Fr.mono {S S' : Nat → Prop} {a b : World} (h : Fr S a b) (hs : ∀ i, i < a.heap.size → S i → S' i) : Fr S' a b := ⟨h.os, h.tape, h.output, h.size, fun k hk hn => h.block k hk (fun hx => hn (hs k hk hx))⟩
theorem Fr.below {S : Nat → Prop} {a b c : World} {B : Nat} (h : Below B a b) (hk : Fr S b c) (hB : B ≤ b.heap.size) (hs : ∀ i, S i → B ≤ i) : Below B a c :=
  h.trans ⟨hk.os, hk.tape, hk.output, hk.size, fun k hk' => hk.block k (by omega) (fun hx => by have := hs k hx; omega)⟩

section
variable {S : Nat → Prop} {w w' : World}
theorem TabAt.fr {T : Nat} {par : Value} {m : Nat} {nd md : Int} {fv : Value} (h : TabAt w T par m nd md fv) (hf : Fr S w w') (hn : ¬ S T) : TabAt w' T par m nd md fv :=
  (hf.block T (blockLt h) hn).trans h
theorem SymAt.fr {s : Nat} {nm sc : ByteArray} {ix : Int} (h : SymAt w s nm sc ix) (hf : Fr S w w') (hn : ¬ S s) : SymAt w' s nm sc ix :=
  (hf.block s (blockLt h) hn).trans h
theorem rowIs_fr {b : Nat} {t : TypeId} {n : Nat} {f : Nat → Value} (h : w.rowIs b t n f) (hf : Fr S w w') (hn : ¬ S b) : w'.rowIs b t n f :=
  h.of_block (hf.block b h.lt hn)
end

/-! ### a map keyed by strings, told by a function on the keys -/
/-- An element's value as it stands. -/
def readAny (v : Value) : Option (DataW Value × List MemPlace) := some (.held v, [])

def MapAt (w : World) (m N : Nat) (f : List UInt8 → Option Value) : Prop :=
  ∃ D : DataW Value, w.ownsMap Edbg.prog 9 readAny m N D ∧ ∀ k, (∀ v, f k = some v → Maps.has D (.string k) = true ∧ ∀ z, D.atKey (.string k) z = .held v) ∧ (f k = none → Maps.has D (.string k) = false)

def upd (f : List UInt8 → Option Value) (k : List UInt8) (v : Value) : List UInt8 → Option Value := fun j => if j = k then some v else f j
theorem upd_same (f : List UInt8 → Option Value) (k : List UInt8) (v : Value) : upd f k v k = some v := by simp [upd]
theorem upd_other (f : List UInt8 → Option Value) {k j : List UInt8} (v : Value) (h : j ≠ k) : upd f k v j = f j := by simp [upd, h]

section
variable {w w' : World} {m N : Nat} {f : List UInt8 → Option Value}
theorem MapAt.lt (h : MapAt w m N f) : m < w.heap.size := by obtain ⟨D, h, _⟩ := h; exact h.lt
theorem MapAt.isMap (h : MapAt w m N f) : ∃ es clock, w.heap[m]? = some (.map es clock) := by obtain ⟨D, ⟨es, c, hb, _⟩, _⟩ := h; exact ⟨es, c, hb⟩
theorem MapAt.of_block (h : MapAt w m N f) (e : w'.heap[m]? = w.heap[m]?) : MapAt w' m N f := by
  obtain ⟨D, ⟨es, c, hb, r⟩, hD⟩ := h
  exact ⟨D, ⟨es, c, e.trans hb, r⟩, hD⟩
theorem MapAt.fr {S : Nat → Prop} (h : MapAt w m N f) (hf : Fr S w w') (hn : ¬ S m) : MapAt w' m N f := h.of_block (hf.block m h.lt hn)
theorem MapAt.mono (h : MapAt w m N f) {N' : Nat} (hn : N ≤ N') : MapAt w m N' f := by
  obtain ⟨D, h, hD⟩ := h
  exact ⟨D, h.mono hn, hD⟩
theorem MapAt.made (w : World) : MapAt (w.alloc (.map #[] 0)) w.heap.size 0 (fun _ => none) :=
  ⟨.map [], World.ownsMap_made w _ _ _, fun k => ⟨fun v hv => by simp at hv, fun _ => rfl⟩⟩

theorem MapAt.lookOk (h : MapAt w m N f) {t e : TypeId} (ht : Edbg.prog.underlying t = some (.map 9 e)) {z : Value} (hz : (zeroValue e).run Edbg.prog w = .ok z w) {s : ByteArray} (hs : s.size ≤ maxLen) :
    (Instr.lookup t (.map (some m)) (.string s) true).run Edbg.prog w = .ok (.tuple #[(f s.data.toList).getD z, .bool (f s.data.toList).isSome]) w := by
  obtain ⟨D, h, hD⟩ := h
  obtain ⟨v, ps, hrun, hv⟩ := h.look_ok keyed9 ht hz (zd := .held z) (zp := []) rfl (WideMaps.keyOf_string_mk Edbg.underlying9 hs)
  rw [hrun]
  have hv' : v = (f s.data.toList).getD z ∧ Maps.has D (.string s.data.toList) = (f s.data.toList).isSome := by
    simp only [readAny, Option.some.injEq, Prod.mk.injEq] at hv
    cases hf : f s.data.toList with
    | none =>
      have h2 := (hD s.data.toList).2 hf
      rw [Maps.atKey_of_not_has h2] at hv
      exact ⟨by simpa using hv.1, by simp [h2]⟩
    | some x =>
      have h2 := (hD s.data.toList).1 x hf
      rw [h2.2] at hv
      exact ⟨by simpa using hv.1, by simp [h2.1]⟩
  rw [hv'.1, hv'.2]

theorem MapAt.look (h : MapAt w m N f) {t e : TypeId} (ht : Edbg.prog.underlying t = some (.map 9 e)) {z : Value} (hz : (zeroValue e).run Edbg.prog w = .ok z w) {s : ByteArray} (hs : s.size ≤ maxLen) :
    (Instr.lookup t (.map (some m)) (.string s) false).run Edbg.prog w = .ok ((f s.data.toList).getD z) w := by
  obtain ⟨D, h, hD⟩ := h
  obtain ⟨v, ps, hrun, hv⟩ := h.lookup keyed9 ht hz (zd := .held z) (zp := []) rfl (WideMaps.keyOf_string_mk Edbg.underlying9 hs)
  rw [hrun]
  have hv' : v = (f s.data.toList).getD z := by
    simp only [readAny, Option.some.injEq, Prod.mk.injEq] at hv
    cases hf : f s.data.toList with
    | none =>
      have h2 := (hD s.data.toList).2 hf
      rw [Maps.atKey_of_not_has h2] at hv
      simpa using hv.1
    | some x =>
      have h2 := (hD s.data.toList).1 x hf
      rw [h2.2] at hv
      simpa using hv.1
  rw [hv']

theorem MapAt.store (h : MapAt w m N f) {t e : TypeId} (ht : Edbg.prog.underlying t = some (.map 9 e)) (hN : N < maxLen) {s : ByteArray} (hs : s.size ≤ maxLen) (v : Value) :
    ∃ w', (Instr.mapUpdate t (.map (some m)) (.string s) v).run Edbg.prog w = .ok () w' ∧ MapAt w' m (N + 1) (upd f s.data.toList v) ∧ w.mapTurned w' m := by
  obtain ⟨D, h, hD⟩ := h
  obtain ⟨w1, hrun, hown, hturn⟩ := h.store keyed9 ht hN (WideMaps.keyOf_string_mk Edbg.underlying9 hs) (val := v) (d := .held v) (ps := []) rfl
  refine ⟨w1, hrun, ⟨_, hown, fun k => ?_⟩, hturn⟩
  by_cases e : k = s.data.toList
  · subst e
    rw [upd_same]
    refine ⟨fun x hx => ?_, fun hx => by cases hx⟩
    cases hx
    have hkl : WideAt.IsKeyLit (.string s.data.toList) := trivial
    exact ⟨Maps.has_put_same h.isMap hkl _, fun z => Maps.atKey_put_same h.isMap hkl _ z⟩
  · rw [upd_other f v e]
    have hne : (Lit.string k) ≠ Lit.string s.data.toList := fun hh => e (by cases hh; rfl)
    refine ⟨fun x hx => ?_, fun hx => ?_⟩
    · obtain ⟨h1, h2⟩ := (hD k).1 x hx
      exact ⟨by rw [Maps.has_put_other hne]; exact h1, fun z => by rw [Maps.atKey_put_other hne]; exact h2 z⟩
    · rw [Maps.has_put_other hne]
      exact (hD k).2 hx
end

theorem mapTurned_fr {w w' : World} {m : Nat} (h : w.mapTurned w' m) : Fr (fun k => k = m) w w' :=
  ⟨h.grown.os, h.grown.tape, h.grown.output, h.grown.size, fun k hk hn => h.grown.block k hk (fun e => hn (by cases e; rfl))⟩

/-- The row of a slice that owns something bears the elements' type. -/
theorem ownsRow_tag {w : World} {base : Nat} {e : TypeId} {size : Nat} {v : Value} {n : Nat} {xs : List Value} (h : w.ownsRow base e size v n xs) {k : Nat} (hk : v.ownBlock = some k) : ∃ cur, w.heap[k]? = some (.cells cur e (0, 0)) ∧ base ≤ k := by
  rcases h.2 with ⟨rfl, _⟩ | ⟨g, cap, cur, rfl, hb, hg, _⟩
  · cases hk
  · have : g = k := by simpa [Value.ownBlock] using hk
    subst this
    exact ⟨cur, hg, hb⟩

theorem ownsRow_fr {S : Nat → Prop} {w w' : World} {base : Nat} {e : TypeId} {size : Nat} {v : Value} {n : Nat} {xs : List Value} (h : w.ownsRow base e size v n xs) (hf : Fr S w w') (hn : ∀ k, v.ownBlock = some k → ¬ S k) : w'.ownsRow base e size v n xs := by
  refine ⟨h.1, ?_⟩
  rcases h.2 with h2 | ⟨g, cap, cur, rfl, hb, hg, r⟩
  · exact .inl h2
  · exact .inr ⟨g, cap, cur, rfl, hb, (hf.block g (blockLt hg) (hn g rfl)).trans hg, r⟩

end Go.Proofs.Yoedbw
