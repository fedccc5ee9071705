import Derived.Test.YoedbwW5
namespace Go.Proofs.Yoedbw
open Go.RowKit

theorem Fr.toBelow {w w' : World} (h : Fr (fun _ => False) w w') : Below w.heap.size w w' := ⟨h.os, h.tape, h.output, h.size, fun k hk => h.block k hk id⟩

def mkp (s : Nat) : Value := .pointer (some ⟨s, 0, none⟩)

theorem getD_snoc {l : List Value} {k : Nat} (h : l.length = k) (v d : Value) (j : Nat) : (l ++ [v]).getD j d = if j = k then v else l.getD j d := by
  subst h
  by_cases e : j = l.length
  · subst e
    simp
  · rw [if_neg e]
    simp only [List.getD_eq_getElem?_getD]
    by_cases hj : j < l.length
    · rw [List.getElem?_append_left hj]
    · rw [List.getElem?_append_right (by omega), List.getElem?_eq_none (l := l) (by omega), List.getElem?_eq_none (by simp; omega)]

theorem NRow.fr {P : Nat → Prop} {w w' : World} {a : Option Addr} {n nb : Nat} {S : Nat → ByteArray} (h : NRow w a n nb S) (hf : Fr P w w') (hn : 0 < n → ¬ P nb) : NRow w' a n nb S := fun i hi =>
  ⟨(h i hi).1, rowIs_fr (h i hi).2.1 hf (hn (by omega)), (h i hi).2.2⟩
theorem ZRow.fr {P : Nat → Prop} {w w' : World} {a : Option Addr} {n nb : Nat} {Z : Nat → Int} (h : ZRow w a n nb Z) (hf : Fr P w w') (hn : 0 < n → ¬ P nb) : ZRow w' a n nb Z := fun i hi =>
  ⟨(h i hi).1, rowIs_fr (h i hi).2.1 hf (hn (by omega)), (h i hi).2.2⟩

/-- Two blocks of different make are two. -/
theorem tag_ne {w : World} {b c : Nat} {x y : Array Value} {s t : TypeId} {p q : Nat × Nat} (hb : w.heap[b]? = some (.cells x s p)) (hc : w.heap[c]? = some (.cells y t q)) (h : s ≠ t) : b ≠ c := fun e => by
  subst e
  rw [hb] at hc
  simp at hc
  exact h hc.2.1
theorem row_tag {w : World} {b : Nat} {t : TypeId} {n : Nat} {f : Nat → Value} (h : w.rowIs b t n f) : ∃ c, w.heap[b]? = some (.cells c t (0, 0)) := by obtain ⟨c, hb, _⟩ := h; exact ⟨c, hb⟩
theorem row_ne_map {w : World} {b : Nat} {t : TypeId} {n : Nat} {f : Nat → Value} {m N : Nat} {g : List UInt8 → Option Value} (h : w.rowIs b t n f) (hm : MapAt w m N g) : b ≠ m := fun e => by
  subst e
  obtain ⟨c, hb⟩ := row_tag h
  obtain ⟨es, cl, hb'⟩ := hm.isMap
  rw [hb] at hb'
  simp at hb'
theorem row_ne_tab {w : World} {b : Nat} {t : TypeId} {n : Nat} {f : Nat → Value} {T : Nat} {par : Value} {m : Nat} {nd md : Int} {fv : Value} (h : w.rowIs b t n f) (hT : TabAt w T par m nd md fv) (ht : t ≠ 46) : b ≠ T := by
  obtain ⟨c, hb⟩ := row_tag h
  exact tag_ne hb hT ht
theorem row_ne_sym {w : World} {b : Nat} {t : TypeId} {n : Nat} {f : Nat → Value} {s : Nat} {nm sc : ByteArray} {ix : Int} (h : w.rowIs b t n f) (hS : SymAt w s nm sc ix) (ht : t ≠ 33) : b ≠ s := by
  obtain ⟨c, hb⟩ := row_tag h
  exact tag_ne hb hS ht
theorem row_ne_own {w : World} {b : Nat} {t : TypeId} {n : Nat} {f : Nat → Value} {base k : Nat} {v : Value} {xs : List Value} (h : w.rowIs b t n f) (hr : w.ownsRow base 30 1 v k xs) (ht : t ≠ 30) : v.ownBlock ≠ some b := fun e => by
  obtain ⟨cur, hc, _⟩ := ownsRow_tag hr e
  obtain ⟨c, hb⟩ := row_tag h
  exact tag_ne hb hc ht rfl

theorem ptrs_snoc {xs : List Value} (h : ∀ (j : Nat) (v : Value), xs[j]? = some v → ∃ o : Nat, v = .pointer (some ⟨o, 0, none⟩)) (o : Nat) : ∀ (j : Nat) (v : Value), (xs ++ [.pointer (some ⟨o, 0, none⟩)])[j]? = some v → ∃ o : Nat, v = .pointer (some ⟨o, 0, none⟩) := by
  intro j v hv
  rcases List.mem_append.1 (List.mem_of_getElem? hv) with h1 | h1
  · obtain ⟨i, hi⟩ := List.getElem?_of_mem h1
    exact h i v hi
  · exact ⟨o, by simpa using h1⟩

/-- The state of FnDefineFreeSequenceSpec's work: k symbols have been laid. -/
structure DS (w wr : World) (na ia : Option Addr) (n nb m ib : Nat) (S : Nat → ByteArray) (Z : Nat → Int) (T mt Bo Br base k : Nat) (fa : Option Addr) (fc : Nat) (f : List UInt8 → Option Value) (xs os qs : List Value) (rs : List Nat) : Prop where
  names : NRow wr na n nb S
  ints : ZRow wr ia m ib Z
  tab : TabAt wr T (.pointer none) mt 0 0 (.slice fa k fc)
  map : MapAt wr mt k f
  row : wr.ownsRow base 30 1 (.slice fa k fc) k xs
  origs : wr.rowIs Bo 30 n (fun j => os.getD j (.pointer none))
  res : wr.rowIs Br 30 n (fun j => qs.getD j (.pointer none))
  ptrs : ∀ (j : Nat) (v : Value), xs[j]? = some v → ∃ o : Nat, v = .pointer (some ⟨o, 0, none⟩)
  rlen : rs.length = k
  syms : ∀ j s, rs[j]? = some s → SymAt wr s (S j) FREE j
  hit : ∀ key v, f key = some v → ∃ j s, rs[j]? = some s ∧ v = mkp s ∧ (S j).data.toList = key ∧ ∀ j', j < j' → j' < k → (S j').data.toList ≠ key
  all : ∀ j, j < k → f (S j).data.toList ≠ none
  fr : Fr (fun _ => False) w wr
  lo : Bo < base ∧ Br < base ∧ base ≤ wr.heap.size ∧ Bo ≠ Br
  old : w.heap.size ≤ T ∧ w.heap.size ≤ mt ∧ w.heap.size ≤ Bo ∧ w.heap.size ≤ Br

section
variable {w wr w2 w3 : World} {na ia : Option Addr} {n nb m ib : Nat} {S : Nat → ByteArray} {Z : Nat → Int} {T mt Bo Br base k : Nat} {fa : Option Addr} {fc : Nat} {f : List UInt8 → Option Value} {xs os qs : List Value} {rs : List Nat} {r : Nat}

/-- A step that turns no block but new ones. -/
theorem DS.grow (h : DS w wr na ia n nb m ib S Z T mt Bo Br base k fa fc f xs os qs rs) (hf : Fr (fun _ => False) wr w2) : DS w w2 na ia n nb m ib S Z T mt Bo Br base k fa fc f xs os qs rs :=
  { names := h.names.fr hf (fun _ => id), ints := h.ints.fr hf (fun _ => id), tab := h.tab.fr hf id, map := h.map.fr hf id, row := ownsRow_fr h.row hf (fun _ _ => id), origs := rowIs_fr h.origs hf id, res := rowIs_fr h.res hf id,
    ptrs := h.ptrs, rlen := h.rlen, syms := fun j s hs => (h.syms j s hs).fr hf id, hit := h.hit, all := h.all, fr := h.fr.trans hf, lo := ⟨h.lo.1, h.lo.2.1, Nat.le_trans h.lo.2.2.1 hf.size, h.lo.2.2.2⟩, old := h.old }

/-- 'origs[i] = o' | 'res[i] = r': the store. -/
theorem DS.setO (h : DS w wr na ia n nb m ib S Z T mt Bo Br base k fa fc f xs os qs rs) (i : Nat) (hi : os.length = i) (v : Value) : DS w (wr.setCell ⟨Bo, i, none⟩ v) na ia n nb m ib S Z T mt Bo Br base k fa fc f xs (os ++ [v]) qs rs := by
  have hf : Fr (fun x => x = Bo) wr (wr.setCell ⟨Bo, i, none⟩ v) := (Fr.refl (fun x => x = Bo) wr).setCell (p := ⟨Bo, i, none⟩) (fun _ => rfl) v
  obtain ⟨co, ho⟩ := row_tag h.origs
  exact { names := h.names.fr hf (fun hn => by obtain ⟨c, hb⟩ := row_tag (h.names 0 hn).2.1; exact tag_ne hb ho (by decide)),
          ints := h.ints.fr hf (fun hn => by obtain ⟨c, hb⟩ := row_tag (h.ints 0 hn).2.1; exact tag_ne hb ho (by decide)),
          tab := h.tab.fr hf (tag_ne h.tab ho (by decide)), map := h.map.fr hf (row_ne_map h.origs h.map).symm, row := ownsRow_fr h.row hf (fun x hx e => by subst e; have := (ownsRow_tag h.row hx).choose_spec.2; have := h.lo.1; omega),
          origs := (h.origs.set i v).congr (fun j _ => (getD_snoc hi v _ j).symm), res := rowIs_fr h.res hf h.lo.2.2.2.symm,
          ptrs := h.ptrs, rlen := h.rlen, syms := fun j s hs => (h.syms j s hs).fr hf (tag_ne (h.syms j s hs) ho (by decide)), hit := h.hit, all := h.all,
          fr := h.fr.trans' hf (fun i hi e => by subst e; have := h.old.2.2.1; omega), lo := ⟨h.lo.1, h.lo.2.1, Nat.le_trans h.lo.2.2.1 hf.size, h.lo.2.2.2⟩, old := h.old }

theorem DS.setR (h : DS w wr na ia n nb m ib S Z T mt Bo Br base k fa fc f xs os qs rs) (i : Nat) (hi : qs.length = i) (v : Value) : DS w (wr.setCell ⟨Br, i, none⟩ v) na ia n nb m ib S Z T mt Bo Br base k fa fc f xs os (qs ++ [v]) rs := by
  have hf : Fr (fun x => x = Br) wr (wr.setCell ⟨Br, i, none⟩ v) := (Fr.refl (fun x => x = Br) wr).setCell (p := ⟨Br, i, none⟩) (fun _ => rfl) v
  obtain ⟨co, ho⟩ := row_tag h.res
  exact { names := h.names.fr hf (fun hn => by obtain ⟨c, hb⟩ := row_tag (h.names 0 hn).2.1; exact tag_ne hb ho (by decide)),
          ints := h.ints.fr hf (fun hn => by obtain ⟨c, hb⟩ := row_tag (h.ints 0 hn).2.1; exact tag_ne hb ho (by decide)),
          tab := h.tab.fr hf (tag_ne h.tab ho (by decide)), map := h.map.fr hf (row_ne_map h.res h.map).symm, row := ownsRow_fr h.row hf (fun x hx e => by subst e; have := (ownsRow_tag h.row hx).choose_spec.2; have := h.lo.2.1; omega),
          res := (h.res.set i v).congr (fun j _ => (getD_snoc hi v _ j).symm), origs := rowIs_fr h.origs hf h.lo.2.2.2,
          ptrs := h.ptrs, rlen := h.rlen, syms := fun j s hs => (h.syms j s hs).fr hf (tag_ne (h.syms j s hs) ho (by decide)), hit := h.hit, all := h.all,
          fr := h.fr.trans' hf (fun i hi e => by subst e; have := h.old.2.2.2; omega), lo := ⟨h.lo.1, h.lo.2.1, Nat.le_trans h.lo.2.2.1 hf.size, h.lo.2.2.2⟩, old := h.old }

/-- What a slice that owns a row looks like. -/
theorem ownsRow_shape {w : World} {base : Nat} {e : TypeId} {size : Nat} {v : Value} {n : Nat} {xs : List Value} (h : w.ownsRow base e size v n xs) : ∃ fa fc, v = .slice fa n fc := by
  rcases h.2 with ⟨rfl, rfl⟩ | ⟨g, cap, cur, rfl, _⟩
  · exact ⟨_, _, rfl⟩
  · exact ⟨_, _, rfl⟩

/-- 'defineFree(o)': k + 1 symbols have been laid; 'res' lacks the last. -/
theorem DS.step (h : DS w w2 na ia n nb m ib S Z T mt Bo Br base k fa fc f xs os qs rs) {o : Nat} {fv : Value} (hS : SymAt w3 r (S k) FREE k) (hT : TabAt w3 T (.pointer none) mt 0 0 fv)
    (hrow : w3.ownsRow base 30 1 fv (k + 1) (xs ++ [.pointer (some ⟨o, 0, none⟩)])) (hM : MapAt w3 mt (k + 1) (upd f (S k).data.toList (.pointer (some ⟨r, 0, none⟩)))) (hf : Fr (fun i => i = T ∨ i = mt ∨ (Value.slice fa k fc).ownBlock = some i) w2 w3) :
    ∃ fa' fc', DS w w3 na ia n nb m ib S Z T mt Bo Br base (k + 1) fa' fc' (upd f (S k).data.toList (.pointer (some ⟨r, 0, none⟩))) (xs ++ [.pointer (some ⟨o, 0, none⟩)]) os qs (rs ++ [r]) := by
  obtain ⟨fa', fc', rfl⟩ := ownsRow_shape hrow
  obtain ⟨co, ho⟩ := row_tag h.origs
  obtain ⟨cr, hre⟩ := row_tag h.res
  have rowB : ∀ x, (Value.slice fa k fc).ownBlock = some x → base ≤ x := fun x hx => (ownsRow_tag h.row hx).choose_spec.2
  have notRow : ∀ {b t c}, w2.heap[b]? = some (.cells c t (0, 0)) → t ≠ 46 → t ≠ 30 → ¬ (b = T ∨ b = mt ∨ (Value.slice fa k fc).ownBlock = some b) := by
    intro b t c hb h1 h2 e
    rcases e with e | e | e
    · exact tag_ne hb h.tab h1 e
    · subst e
      obtain ⟨es, cl, hb'⟩ := h.map.isMap
      rw [hb] at hb'
      simp at hb'
    · obtain ⟨cur, hc, _⟩ := ownsRow_tag h.row e
      exact tag_ne hb hc h2 rfl
  refine ⟨fa', fc', { names := h.names.fr hf (fun hn => ?_), ints := h.ints.fr hf (fun hn => ?_), tab := hT, map := hM, row := hrow, origs := rowIs_fr h.origs hf ?_, res := rowIs_fr h.res hf ?_, ptrs := ptrs_snoc h.ptrs o, rlen := by simp [h.rlen], syms := ?_, hit := ?_, all := ?_, fr := h.fr.trans' hf (fun i hi e => ?_), lo := ⟨h.lo.1, h.lo.2.1, Nat.le_trans h.lo.2.2.1 hf.size, h.lo.2.2.2⟩, old := h.old }⟩
  · obtain ⟨c, hb⟩ := row_tag (h.names 0 hn).2.1
    exact notRow hb (by decide) (by decide)
  · obtain ⟨c, hb⟩ := row_tag (h.ints 0 hn).2.1
    exact notRow hb (by decide) (by decide)
  · intro e
    rcases e with e | e | e
    · exact tag_ne ho h.tab (by decide) e
    · exact row_ne_map h.origs h.map e
    · have := rowB _ e; have := h.lo.1; omega
  · intro e
    rcases e with e | e | e
    · exact tag_ne hre h.tab (by decide) e
    · exact row_ne_map h.res h.map e
    · have := rowB _ e; have := h.lo.2.1; omega
  · intro j s hs
    by_cases hj : j < rs.length
    · rw [List.getElem?_append_left hj] at hs
      exact (h.syms j s hs).fr hf (notRow (h.syms j s hs) (by decide) (by decide))
    · rw [List.getElem?_append_right (by omega)] at hs
      have hj2 : j - rs.length = 0 := by
        have := (List.getElem?_eq_some_iff.1 hs).1
        simp at this
        omega
      rw [hj2] at hs
      have : j = k := by have := h.rlen; omega
      subst this
      simp at hs
      subst hs
      exact hS
  · intro key v hv
    by_cases e : key = (S k).data.toList
    · subst e
      rw [upd_same] at hv
      refine ⟨k, r, by rw [List.getElem?_append_right (by rw [h.rlen]; exact Nat.le_refl _)]; simp [h.rlen], by cases hv; rfl, rfl, fun j' h1 h2 => by omega⟩
    · rw [upd_other f _ e] at hv
      obtain ⟨j, s, h1, h2, h3, h4⟩ := h.hit key v hv
      have hj := (List.getElem?_eq_some_iff.1 h1).1
      refine ⟨j, s, by rw [List.getElem?_append_left hj]; exact h1, h2, h3, fun j' g1 g2 => ?_⟩
      by_cases e2 : j' = k
      · subst e2
        exact fun e3 => e e3.symm
      · exact h4 j' g1 (by omega)
  · intro j hj
    by_cases e : (S j).data.toList = (S k).data.toList
    · rw [e, upd_same]
      simp
    · rw [upd_other f _ e]
      exact h.all j (by have : j ≠ k := fun e2 => e (by rw [e2]); omega)
  · rcases e with e | e | e
    · have := h.old.1; omega
    · have := h.old.2.1; omega
    · have := rowB _ e; have := h.lo.1; have := h.old.2.2.1; omega

/-- 'o := &Symbol{..}', 'origs[i] = o'. -/
theorem DS.mid (h : DS w wr na ia n nb m ib S Z T mt Bo Br base k fa fc f xs xs qs rs) (nm sc : ByteArray) (x : Int) :
    DS w ((wr.setCell ⟨Bo, k, none⟩ (.pointer (some ⟨wr.heap.size, 0, none⟩))).alloc (.cells #[.string nm, .string sc, .int .i64 x, .bool false] 33)) na ia n nb m ib S Z T mt Bo Br base k fa fc f xs (xs ++ [.pointer (some ⟨wr.heap.size, 0, none⟩)]) qs rs ∧
    SymAt ((wr.setCell ⟨Bo, k, none⟩ (.pointer (some ⟨wr.heap.size, 0, none⟩))).alloc (.cells #[.string nm, .string sc, .int .i64 x, .bool false] 33)) wr.heap.size nm sc x := by
  refine ⟨(h.setO k (by have := h.row.1; omega) _).grow ((Fr.refl _ _).alloc _), ?_⟩
  have := heap_alloc_new (wr.setCell ⟨Bo, k, none⟩ (.pointer (some ⟨wr.heap.size, 0, none⟩))) (.cells #[.string nm, .string sc, .int .i64 x, .bool false] 33)
  have hz : (wr.setCell ⟨Bo, k, none⟩ (.pointer (some ⟨wr.heap.size, 0, none⟩))).heap.size = wr.heap.size := by simp [World.setCell]
  rw [hz] at this
  exact this

/-- A symbol outside stays. -/
theorem DS.symStay (h : DS w w2 na ia n nb m ib S Z T mt Bo Br base k fa fc f xs os qs rs) {o : Nat} {nm sc : ByteArray} {x : Int} (hS : SymAt w2 o nm sc x) (hf : Fr (fun i => i = T ∨ i = mt ∨ (Value.slice fa k fc).ownBlock = some i) w2 w3) : SymAt w3 o nm sc x :=
  hS.fr hf (fun e => by
    rcases e with e | e | e
    · exact sym_ne_tab hS h.tab e
    · exact sym_ne_map hS h.map e
    · exact sym_ne_row hS h.row e)

/-- 'res[i] = r', behind q draws: the round's end. -/
theorem DS.endRound (h : DS w w3 na ia n nb m ib S Z T mt Bo Br base (k + 1) fa fc f xs xs (rs.map mkp) (rs ++ [r])) (q : Nat) :
    DS w ((w3.setCell ⟨Br, k, none⟩ (.pointer (some ⟨r, 0, none⟩))).drewN q) na ia n nb m ib S Z T mt Bo Br base (k + 1) fa fc f xs xs ((rs ++ [r]).map mkp) (rs ++ [r]) := by
  have := (h.setR k (by have := h.rlen; simp at this ⊢; omega) (.pointer (some ⟨r, 0, none⟩))).grow ((Fr.refl (fun _ => False) _).drewN q)
  simpa [mkp] using this

/-- What the free list and 'origs' hold at place j. -/
theorem DS.look (h : DS w wr na ia n nb m ib S Z T mt Bo Br base n fa fc f xs xs qs rs) {j : Nat} (hj : j < n) :
    ∃ g o, fa = some ⟨g, 0, none⟩ ∧ wr.cell? ⟨g, j, none⟩ = some (.pointer (some ⟨o, 0, none⟩)) ∧ wr.cell? ⟨Bo, j, none⟩ = some (.pointer (some ⟨o, 0, none⟩)) := by
  have hl : j < xs.length := by have := h.row.1; omega
  obtain ⟨o, ho⟩ := h.ptrs j xs[j] (List.getElem?_eq_getElem hl)
  rcases h.row.2 with ⟨_, h0⟩ | ⟨g, cap, cur, hv, _⟩
  · omega
  · have hfa : fa = some ⟨g, 0, none⟩ := by cases hv; rfl
    have hc := h.row.cells (g := g) (by rw [hfa]; rfl) j xs[j] (List.getElem?_eq_getElem hl)
    refine ⟨g, o, hfa, ?_, ?_⟩
    · rw [← ho, ← hc]
      have hadd : (⟨g, 0, none⟩ : Addr).add j = ⟨g, j, none⟩ := by unfold Addr.add; split <;> simp_all
      rw [hadd]
    · rw [h.origs.cell hj, List.getD_eq_getElem?_getD, List.getElem?_eq_getElem hl, ho]
      rfl

/-- A step that turns another map alone. -/
theorem DS.otherMap (h : DS w wr na ia n nb m ib S Z T mt Bo Br base k fa fc f xs os qs rs) {ms N : Nat} {g : List UInt8 → Option Value} (hm : MapAt wr ms N g) (hne : mt ≠ ms) (hlo : w.heap.size ≤ ms) (hf : Fr (fun i => i = ms) wr w2) :
    DS w w2 na ia n nb m ib S Z T mt Bo Br base k fa fc f xs os qs rs :=
  { names := h.names.fr hf (fun hn => row_ne_map (h.names 0 hn).2.1 hm), ints := h.ints.fr hf (fun hn => row_ne_map (h.ints 0 hn).2.1 hm), tab := h.tab.fr hf (tab_ne_map h.tab hm), map := h.map.fr hf hne,
    row := ownsRow_fr h.row hf (fun x hx e => by subst e; exact map_ne_row hm h.row hx), origs := rowIs_fr h.origs hf (row_ne_map h.origs hm), res := rowIs_fr h.res hf (row_ne_map h.res hm),
    ptrs := h.ptrs, rlen := h.rlen, syms := fun j s hs => (h.syms j s hs).fr hf (sym_ne_map (h.syms j s hs) hm), hit := h.hit, all := h.all, fr := h.fr.trans' hf (fun i hi e => by subst e; omega),
    lo := ⟨h.lo.1, h.lo.2.1, Nat.le_trans h.lo.2.2.1 hf.size, h.lo.2.2.2⟩, old := h.old }

/-- Which names 'seen' holds: those from place k on. -/
structure SN (wr : World) (ms n k : Nat) (S : Nat → ByteArray) (g : List UInt8 → Option Value) : Prop where
  map : MapAt wr ms (n - k) g
  yes : ∀ key v, g key = some v → v = .bool true ∧ ∃ j, k ≤ j ∧ j < n ∧ (S j).data.toList = key
  all : ∀ j, k ≤ j → j < n → g (S j).data.toList ≠ none

theorem bytes_eq {s t : ByteArray} (h : s.data.toList = t.data.toList) : s = t := by
  cases s; cases t
  simp at h
  rw [h]

/-- What Resolve will find at place j, and how it stands to 'seen'. -/
theorem DS.find (h : DS w wr na ia n nb m ib S Z T mt Bo Br base n fa fc f xs os qs rs) {ms j : Nat} {g : List UInt8 → Option Value} (hg : SN wr ms n (j + 1) S g) (hj : j < n) :
    ∃ s j2 : Nat, f (S j).data.toList = some (.pointer (some ⟨s, 0, none⟩)) ∧ SymAt wr s (S j) FREE j2 ∧ rs[j2]? = some s ∧ (g (S j).data.toList = none → j2 = j) ∧ (g (S j).data.toList ≠ none → j < j2) := by
  cases hf : f (S j).data.toList with
  | none => exact absurd hf (h.all j hj)
  | some v =>
    obtain ⟨j2, s, h1, h2, h3, h4⟩ := h.hit _ v hf
    have hb : S j2 = S j := bytes_eq h3
    have hj2 : j2 < n := by have := (List.getElem?_eq_some_iff.1 h1).1; have := h.rlen; omega
    have hge : j ≤ j2 := by
      rcases Nat.lt_or_ge j2 j with hlt | hge
      · exact absurd rfl (h4 j hlt hj)
      · exact hge
    refine ⟨s, j2, by rw [h2]; rfl, by rw [← hb]; exact h.syms j2 s h1, h1, fun hn => ?_, fun hn => ?_⟩
    · rcases Nat.lt_or_ge j j2 with hlt | hge2
      · exact absurd (by rw [h3]; exact hn) (hg.all j2 (by omega) hj2)
      · omega
    · cases hgv : g (S j).data.toList with
      | none => exact absurd hgv hn
      | some x =>
        obtain ⟨_, j', a1, a2, a3⟩ := hg.yes _ x hgv
        rcases Nat.lt_or_ge j2 j' with hlt | hge2
        · exact absurd a3 (h4 j' hlt a2)
        · omega

theorem SN.start {w8 : World} (n : Nat) (S : Nat → ByteArray) : SN (w8.alloc (.map #[] 0)) w8.heap.size n n S (fun _ => none) :=
  { map := (MapAt.made w8).mono (Nat.zero_le _), yes := fun key v hv => by simp at hv, all := fun j h1 h2 => by omega }

/-- 'seen[names[j]] = true'. -/
theorem SN.step {ms n j : Nat} {S : Nat → ByteArray} {g : List UInt8 → Option Value} (h : SN wr ms n (j + 1) S g) (hj : j < n) (hM : MapAt w2 ms (n - (j + 1) + 1) (upd g (S j).data.toList (.bool true))) : SN w2 ms n j S (upd g (S j).data.toList (.bool true)) := by
  refine { map := hM.mono (by omega), yes := fun key v hv => ?_, all := fun i h1 h2 => ?_ }
  · by_cases e : key = (S j).data.toList
    · subst e
      rw [upd_same] at hv
      exact ⟨by cases hv; rfl, j, Nat.le_refl _, hj, rfl⟩
    · rw [upd_other g _ e] at hv
      obtain ⟨h1, i, h2, h3, h4⟩ := h.yes key v hv
      exact ⟨h1, i, by omega, h3, h4⟩
  · by_cases e : (S i).data.toList = (S j).data.toList
    · rw [e, upd_same]
      simp
    · rw [upd_other g _ e]
      exact h.all i (by have : i ≠ j := fun e2 => e (by rw [e2]); omega) h2

/-- .. seen before. -/
theorem SN.stay {ms n j : Nat} {S : Nat → ByteArray} {g : List UInt8 → Option Value} (h : SN wr ms n (j + 1) S g) (hg : g (S j).data.toList ≠ none) (q : Nat) : SN (wr.drewN q) ms n j S g := by
  refine { map := (h.map.mono (by omega)).of_block rfl, yes := fun key v hv => ?_, all := fun i h1 h2 => ?_ }
  · obtain ⟨h1, i, h2, h3, h4⟩ := h.yes key v hv
    exact ⟨h1, i, by omega, h3, h4⟩
  · by_cases e : i = j
    · subst e
      exact hg
    · exact h.all i (by omega) h2

/-- Where the work begins. -/
theorem DS.start (hN : NRow w3 na n nb S) (hZ : ZRow w3 ia m ib Z) (hf : Fr (fun _ => False) w w3) :
    DS w ((((w3.alloc (.map #[] 0)).alloc (.cells #[.pointer none, .bool false, .map (some w3.heap.size), .int .i64 0, .int .i64 0, .slice none 0 0, .slice none 0 0] 46)).alloc (.cells (madeCells #[.pointer none] n) 30)).alloc (.cells (madeCells #[.pointer none] n) 30))
      na ia n nb m ib S Z (w3.heap.size + 1) w3.heap.size (w3.heap.size + 1 + 1) (w3.heap.size + 1 + 1 + 1) (w3.heap.size + 1 + 1 + 1 + 1) 0 none 0 (fun _ => none) [] [] [] [] := by
  have al : ∀ (x : World) (o : Obj), Fr (fun _ => False) x (x.alloc o) := fun x o => (Fr.refl _ x).alloc o
  have g1 := al w3 (.map #[] 0)
  have m1 := MapAt.made w3
  have z1 : (w3.alloc (.map #[] 0)).heap.size = w3.heap.size + 1 := by simp
  generalize w3.alloc (.map #[] 0) = x1 at *
  have g2 := al x1 (.cells #[.pointer none, .bool false, .map (some w3.heap.size), .int .i64 0, .int .i64 0, .slice none 0 0, .slice none 0 0] 46)
  have t2 := heap_alloc_new x1 (.cells #[.pointer none, .bool false, .map (some w3.heap.size), .int .i64 0, .int .i64 0, .slice none 0 0, .slice none 0 0] 46)
  have z2 : (x1.alloc (.cells #[.pointer none, .bool false, .map (some w3.heap.size), .int .i64 0, .int .i64 0, .slice none 0 0, .slice none 0 0] 46)).heap.size = w3.heap.size + 2 := by simp [z1]
  rw [z1] at t2
  generalize x1.alloc (.cells #[.pointer none, .bool false, .map (some w3.heap.size), .int .i64 0, .int .i64 0, .slice none 0 0, .slice none 0 0] 46) = x2 at *
  have g3 := al x2 (.cells (madeCells #[.pointer none] n) 30)
  have r3 := World.rowIs_made x2 (.pointer none) n 30
  have z3 : (x2.alloc (.cells (madeCells #[.pointer none] n) 30)).heap.size = w3.heap.size + 3 := by simp [z2]
  rw [z2] at r3
  generalize x2.alloc (.cells (madeCells #[.pointer none] n) 30) = x3 at *
  have g4 := al x3 (.cells (madeCells #[.pointer none] n) 30)
  have r4 := World.rowIs_made x3 (.pointer none) n 30
  have z4 : (x3.alloc (.cells (madeCells #[.pointer none] n) 30)).heap.size = w3.heap.size + 4 := by simp [z3]
  rw [z3] at r4
  generalize x3.alloc (.cells (madeCells #[.pointer none] n) 30) = x4 at *
  have f34 := g4
  have f24 := g3.trans g4
  have f14 := g2.trans f24
  have f04 := g1.trans f14
  have hs := hf.size
  exact { names := hN.fr f04 (fun _ => id), ints := hZ.fr f04 (fun _ => id), tab := TabAt.fr t2 f24 id, map := m1.fr f14 id, row := World.ownsRow_nil _ _ _ _, origs := (rowIs_fr r3 f34 id).congr (fun i _ => by simp), res := r4.congr (fun i _ => by simp),
          ptrs := fun j v hv => by simp at hv, rlen := rfl, syms := fun j s hs => by simp at hs, hit := fun key v hv => by simp at hv, all := fun j hj => by omega, fr := hf.trans f04, lo := ⟨by omega, by omega, by omega, by omega⟩, old := ⟨by omega, by omega, by omega, by omega⟩ }
end

end Go.Proofs.Yoedbw
