import Derived.Test.YoedbwW6
namespace Go.Proofs.Yoedbw
open Go.RowKit

/-- Every symbol of f is LOCAL and bears the name under which it stands. -/
def Locals (wr : World) (f : List UInt8 → Option Value) : Prop := ∀ key v, f key = some v → ∃ (s : Nat) (nm : ByteArray) (ix : Int), v = .pointer (some ⟨s, 0, none⟩) ∧ SymAt wr s nm LOCAL ix ∧ nm.data.toList = key
def Frees (wr : World) (g : List UInt8 → Option Value) : Prop := ∀ key v, g key = some v → ∃ (s : Nat) (nm : ByteArray) (ix : Int), v = .pointer (some ⟨s, 0, none⟩) ∧ SymAt wr s nm FREE ix

theorem Locals.fr {P : Nat → Prop} {w w' : World} {f : List UInt8 → Option Value} (h : Locals w f) (hf : Fr P w w') (hn : ∀ s nm ix, SymAt w s nm LOCAL ix → ¬ P s) : Locals w' f := fun key v hv => by
  obtain ⟨s, nm, ix, h1, h2, h3⟩ := h key v hv
  exact ⟨s, nm, ix, h1, h2.fr hf (hn s nm ix h2), h3⟩
theorem Frees.fr {P : Nat → Prop} {w w' : World} {f : List UInt8 → Option Value} (h : Frees w f) (hf : Fr P w w') (hn : ∀ s nm ix, SymAt w s nm FREE ix → ¬ P s) : Frees w' f := fun key v hv => by
  obtain ⟨s, nm, ix, h1, h2⟩ := h key v hv
  exact ⟨s, nm, ix, h1, h2.fr hf (hn s nm ix h2)⟩

/-- The state of FnResolveCapturesOuterLocalsOnce's first half: k names have been defined in f. -/
structure L2 (w wr : World) (na : Option Addr) (n nb : Nat) (S : Nat → ByteArray) (F mf mL R k : Nat) (f : List UInt8 → Option Value) : Prop where
  names : NRow wr na n nb S
  tab : TabAt wr F (.pointer (some ⟨R, 0, none⟩)) mf k k (.slice none 0 0)
  map : MapAt wr mf k f
  last : MapAt wr mL k f
  ne : mf ≠ mL
  syms : Locals wr f
  all : ∀ j, j < k → f (S j).data.toList ≠ none
  fr : Fr (fun _ => False) w wr
  old : w.heap.size ≤ F ∧ w.heap.size ≤ mf ∧ w.heap.size ≤ mL

section
variable {w wr w2 w4 : World} {na : Option Addr} {n nb : Nat} {S : Nat → ByteArray} {F mf mL R k : Nat} {f : List UInt8 → Option Value}

theorem L2.start (hN : NRow w4 na n nb S) (hf : Fr (fun _ => False) w w4) :
    L2 w (((w4.alloc (.map #[] 0)).alloc (.cells #[.pointer (some ⟨R, 0, none⟩), .bool false, .map (some w4.heap.size), .int .i64 0, .int .i64 0, .slice none 0 0, .slice none 0 0] 46)).alloc (.map #[] 0))
      na n nb S (w4.heap.size + 1) w4.heap.size (w4.heap.size + 1 + 1) R 0 (fun _ => none) := by
  have al : ∀ (x : World) (o : Obj), Fr (fun _ => False) x (x.alloc o) := fun x o => (Fr.refl _ x).alloc o
  have g1 := al w4 (.map #[] 0)
  have m1 := MapAt.made w4
  have z1 : (w4.alloc (.map #[] 0)).heap.size = w4.heap.size + 1 := by simp
  generalize w4.alloc (.map #[] 0) = x1 at *
  have g2 := al x1 (.cells #[.pointer (some ⟨R, 0, none⟩), .bool false, .map (some w4.heap.size), .int .i64 0, .int .i64 0, .slice none 0 0, .slice none 0 0] 46)
  have t2 := heap_alloc_new x1 (.cells #[.pointer (some ⟨R, 0, none⟩), .bool false, .map (some w4.heap.size), .int .i64 0, .int .i64 0, .slice none 0 0, .slice none 0 0] 46)
  have z2 : (x1.alloc (.cells #[.pointer (some ⟨R, 0, none⟩), .bool false, .map (some w4.heap.size), .int .i64 0, .int .i64 0, .slice none 0 0, .slice none 0 0] 46)).heap.size = w4.heap.size + 1 + 1 := by simp [z1]
  rw [z1] at t2
  generalize x1.alloc (.cells #[.pointer (some ⟨R, 0, none⟩), .bool false, .map (some w4.heap.size), .int .i64 0, .int .i64 0, .slice none 0 0, .slice none 0 0] 46) = x2 at *
  have g3 := al x2 (.map #[] 0)
  have m3 := MapAt.made x2
  rw [z2] at m3
  generalize x2.alloc (.map #[] 0) = x3 at *
  have f13 := g2.trans g3
  have f03 := g1.trans f13
  have hs := hf.size
  exact { names := hN.fr f03 (fun _ => id), tab := TabAt.fr t2 g3 id, map := m1.fr f13 id, last := m3, ne := by omega, syms := fun key v hv => by simp at hv, all := fun j hj => by omega, fr := hf.trans f03, old := ⟨by omega, by omega, by omega⟩ }

/-- Not one of the two blocks that Define turns. -/
theorem not_two {w : World} {T : Nat} {par : Value} {m' : Nat} {nd md : Int} {fv : Value} {m N : Nat} {g : List UInt8 → Option Value} (hT : TabAt w T par m' nd md fv) (hM : MapAt w m N g) {b : Nat} {c : Array Value} {t : TypeId} (hb : w.heap[b]? = some (.cells c t (0, 0))) (ht : t ≠ 46) : ¬ (b = T ∨ b = m) := by
  intro e
  rcases e with e | e
  · exact tag_ne hb hT ht e
  · subst e
    obtain ⟨es, cl, hb'⟩ := hM.isMap
    rw [hb] at hb'
    simp at hb'

/-- 'lastDef[names[i]] = f.Define(names[i])'. -/
theorem L2.step (h : L2 w wr na n nb S F mf mL R k f) (hk : k < n) (hkl : k ≤ 5000) {s : Nat} (hS : SymAt w2 s (S k) LOCAL k) (hT : TabAt w2 F (.pointer (some ⟨R, 0, none⟩)) mf (k + 1) (k + 1) (.slice none 0 0))
    (hM : MapAt w2 mf (k + 1) (upd f (S k).data.toList (.pointer (some ⟨s, 0, none⟩)))) (hf : Fr (fun i => i = F ∨ i = mf) wr.drew w2) :
    ∃ w3, (Instr.mapUpdate 42 (.map (some mL)) (.string (S k)) (.pointer (some ⟨s, 0, none⟩))).run Edbg.prog w2 = .ok () w3 ∧ w2.cell? ⟨nb, k, none⟩ = some (.string (S k)) ∧ w3.cell? ⟨nb, k, none⟩ = some (.string (S k)) ∧
      Hid (L2 w w3 na n nb S F mf mL R (k + 1) (upd f (S k).data.toList (.pointer (some ⟨s, 0, none⟩)))) := by
  have hf1 : Fr (fun i => i = F ∨ i = mf) wr w2 := ((Fr.refl _ wr).drew).trans hf
  have hN2 : NRow w2 na n nb S := h.names.fr hf1 (fun hn => by obtain ⟨c, hb⟩ := row_tag (h.names 0 hn).2.1; exact not_two h.tab h.map hb (by decide))
  have hL2 : MapAt w2 mL k f := h.last.fr hf1 (fun e => by
    rcases e with e | e
    · exact tab_ne_map h.tab h.last e.symm
    · exact h.ne e.symm)
  have hs2 : Locals w2 f := h.syms.fr hf1 (fun s nm ix hs => not_two h.tab h.map hs (by decide))
  obtain ⟨w3, hrun, hL3, hturn⟩ := hL2.store Edbg.underlying42 (by unfold maxLen; omega) (h.names k hk).2.2 (.pointer (some ⟨s, 0, none⟩))
  have hf2 := mapTurned_fr hturn
  have hN3 : NRow w3 na n nb S := hN2.fr hf2 (fun hn => row_ne_map (hN2 0 hn).2.1 hL2)
  refine ⟨w3, hrun, (hN2 k hk).2.1.cell hk, (hN3 k hk).2.1.cell hk, ?_⟩
  exact { names := hN3, tab := hT.fr hf2 (tab_ne_map hT hL2), map := hM.fr hf2 h.ne, last := hL3, ne := h.ne,
          syms := fun key v hv => by
            by_cases e : key = (S k).data.toList
            · subst e
              rw [upd_same] at hv
              exact ⟨s, S k, k, by cases hv; rfl, hS.fr hf2 (sym_ne_map hS hL2), rfl⟩
            · rw [upd_other f _ e] at hv
              exact (hs2.fr hf2 (fun s nm ix hs => sym_ne_map hs hL2)) key v hv,
          all := fun j hj => by
            by_cases e : (S j).data.toList = (S k).data.toList
            · rw [e, upd_same]
              simp
            · rw [upd_other f _ e]
              exact h.all j (by have : j ≠ k := fun e2 => e (by rw [e2]); omega),
          fr := (h.fr.trans' hf1 (fun i hi e => by have := h.old; rcases e with e | e <;> omega)).trans' hf2 (fun i hi e => by have := h.old; omega), old := h.old }
end

/-- The state of the second half: c distinct names have been captured in g. -/
structure L3 (w wr : World) (na : Option Addr) (n nb : Nat) (S : Nat → ByteArray) (F mf mL R : Nat) (f : List UInt8 → Option Value) (G mg m1 base c c1 : Nat) (fa : Option Addr) (fc : Nat) (g g1 : List UInt8 → Option Value) (xs : List Value) : Prop where
  names : NRow wr na n nb S
  tab : TabAt wr F (.pointer (some ⟨R, 0, none⟩)) mf n n (.slice none 0 0)
  map : MapAt wr mf n f
  last : MapAt wr mL n f
  syms : Locals wr f
  all : ∀ j, j < n → f (S j).data.toList ≠ none
  tabG : TabAt wr G (.pointer (some ⟨F, 0, none⟩)) mg 0 0 (.slice fa c fc)
  mapG : MapAt wr mg c g
  first : MapAt wr m1 c1 g1
  row : wr.ownsRow base 30 1 (.slice fa c fc) c xs
  frees : Frees wr g
  fr : Fr (fun _ => False) w wr
  nes : G ≠ F ∧ mg ≠ mf ∧ mg ≠ mL ∧ mg ≠ m1 ∧ m1 ≠ mf ∧ m1 ≠ mL
  lo : base ≤ wr.heap.size
  old : w.heap.size ≤ G ∧ w.heap.size ≤ mg ∧ w.heap.size ≤ m1 ∧ w.heap.size ≤ base

section
variable {w wr w2 w4 : World} {na : Option Addr} {n nb : Nat} {S : Nat → ByteArray} {F mf mL R : Nat} {f : List UInt8 → Option Value} {G mg m1 base c c1 : Nat} {fa : Option Addr} {fc : Nat} {g g1 : List UInt8 → Option Value} {xs : List Value}

theorem L3.start (h : L2 w w4 na n nb S F mf mL R n f) :
    L3 w (((w4.alloc (.map #[] 0)).alloc (.cells #[.pointer (some ⟨F, 0, none⟩), .bool false, .map (some w4.heap.size), .int .i64 0, .int .i64 0, .slice none 0 0, .slice none 0 0] 46)).alloc (.map #[] 0))
      na n nb S F mf mL R f (w4.heap.size + 1) w4.heap.size (w4.heap.size + 1 + 1) (w4.heap.size + 1 + 1 + 1) 0 0 none 0 (fun _ => none) (fun _ => none) [] := by
  have al : ∀ (x : World) (o : Obj), Fr (fun _ => False) x (x.alloc o) := fun x o => (Fr.refl _ x).alloc o
  have g1 := al w4 (.map #[] 0)
  have m1 := MapAt.made w4
  have z1 : (w4.alloc (.map #[] 0)).heap.size = w4.heap.size + 1 := by simp
  generalize w4.alloc (.map #[] 0) = x1 at *
  have g2 := al x1 (.cells #[.pointer (some ⟨F, 0, none⟩), .bool false, .map (some w4.heap.size), .int .i64 0, .int .i64 0, .slice none 0 0, .slice none 0 0] 46)
  have t2 := heap_alloc_new x1 (.cells #[.pointer (some ⟨F, 0, none⟩), .bool false, .map (some w4.heap.size), .int .i64 0, .int .i64 0, .slice none 0 0, .slice none 0 0] 46)
  have z2 : (x1.alloc (.cells #[.pointer (some ⟨F, 0, none⟩), .bool false, .map (some w4.heap.size), .int .i64 0, .int .i64 0, .slice none 0 0, .slice none 0 0] 46)).heap.size = w4.heap.size + 1 + 1 := by simp [z1]
  rw [z1] at t2
  generalize x1.alloc (.cells #[.pointer (some ⟨F, 0, none⟩), .bool false, .map (some w4.heap.size), .int .i64 0, .int .i64 0, .slice none 0 0, .slice none 0 0] 46) = x2 at *
  have g3 := al x2 (.map #[] 0)
  have m3 := MapAt.made x2
  have z3 : (x2.alloc (.map #[] 0)).heap.size = w4.heap.size + 1 + 1 + 1 := by simp [z2]
  rw [z2] at m3
  generalize x2.alloc (.map #[] 0) = x3 at *
  have f13 := g2.trans g3
  have f03 := g1.trans f13
  have hs := h.fr.size
  have l1 := blockLt h.tab
  have l2 := h.map.lt
  have l3 := h.last.lt
  exact { names := h.names.fr f03 (fun _ => id), tab := h.tab.fr f03 id, map := h.map.fr f03 id, last := h.last.fr f03 id, syms := h.syms.fr f03 (fun _ _ _ _ => id), all := h.all,
          tabG := TabAt.fr t2 g3 id, mapG := m1.fr f13 id, first := m3, row := World.ownsRow_nil _ _ _ _, frees := fun key v hv => by simp at hv, fr := h.fr.trans f03,
          nes := ⟨by omega, by omega, by omega, by omega, by omega, by omega⟩, lo := by omega, old := ⟨by omega, by omega, by omega, by omega⟩ }

theorem L3.drewN (h : L3 w wr na n nb S F mf mL R f G mg m1 base c c1 fa fc g g1 xs) (q : Nat) : L3 w (wr.drewN q) na n nb S F mf mL R f G mg m1 base c c1 fa fc g g1 xs := by
  have hf : Fr (fun _ => False) wr (wr.drewN q) := (Fr.refl _ wr).drewN q
  exact { names := h.names.fr hf (fun _ => id), tab := h.tab.fr hf id, map := h.map.fr hf id, last := h.last.fr hf id, syms := h.syms.fr hf (fun _ _ _ _ => id), all := h.all,
          tabG := h.tabG.fr hf id, mapG := h.mapG.fr hf id, first := h.first.fr hf id, row := ownsRow_fr h.row hf (fun _ _ => id), frees := h.frees.fr hf (fun _ _ _ _ => id), fr := h.fr.trans hf, nes := h.nes, lo := h.lo, old := h.old }

/-- What f holds at the name of place j. -/
theorem L3.find (h : L3 w wr na n nb S F mf mL R f G mg m1 base c c1 fa fc g g1 xs) {j : Nat} (hj : j < n) : ∃ (s : Nat) (ix : Int), f (S j).data.toList = some (.pointer (some ⟨s, 0, none⟩)) ∧ SymAt wr s (S j) LOCAL ix := by
  cases hf : f (S j).data.toList with
  | none => exact absurd hf (h.all j hj)
  | some v =>
    obtain ⟨s, nm, ix, h1, h2, h3⟩ := h.syms _ v hf
    refine ⟨s, ix, by rw [h1], ?_⟩
    rw [← bytes_eq h3]
    exact h2

/-- g.Resolve(name), the first time: a free symbol r is laid. -/
theorem L3.step (h : L3 w wr na n nb S F mf mL R f G mg m1 base c c1 fa fc g g1 xs) {nm : ByteArray} {s r : Nat} {fv : Value} (hS : SymAt w2 r nm FREE c) (hT : TabAt w2 G (.pointer (some ⟨F, 0, none⟩)) mg 0 0 fv)
    (hrow : w2.ownsRow base 30 1 fv (c + 1) (xs ++ [.pointer (some ⟨s, 0, none⟩)])) (hM : MapAt w2 mg (c + 1) (upd g nm.data.toList (.pointer (some ⟨r, 0, none⟩)))) (hf : Fr (fun i => i = G ∨ i = mg ∨ (Value.slice fa c fc).ownBlock = some i) wr w2) :
    ∃ fa' fc', fv = .slice fa' (c + 1) fc' ∧ L3 w w2 na n nb S F mf mL R f G mg m1 base (c + 1) c1 fa' fc' (upd g nm.data.toList (.pointer (some ⟨r, 0, none⟩))) g1 (xs ++ [.pointer (some ⟨s, 0, none⟩)]) := by
  obtain ⟨fa', fc', rfl⟩ := ownsRow_shape hrow
  have notRow : ∀ {b t cc}, wr.heap[b]? = some (.cells cc t (0, 0)) → t ≠ 46 → t ≠ 30 → ¬ (b = G ∨ b = mg ∨ (Value.slice fa c fc).ownBlock = some b) := by
    intro b t cc hb h1 h2 e
    rcases e with e | e | e
    · exact tag_ne hb h.tabG h1 e
    · subst e
      obtain ⟨es, cl, hb'⟩ := h.mapG.isMap
      rw [hb] at hb'
      simp at hb'
    · obtain ⟨cur, hc, _⟩ := ownsRow_tag h.row e
      exact tag_ne hb hc h2 rfl
  have notMap : ∀ {m N q}, MapAt wr m N q → mg ≠ m → ¬ (m = G ∨ m = mg ∨ (Value.slice fa c fc).ownBlock = some m) := by
    intro m N q hm hne e
    rcases e with e | e | e
    · exact tab_ne_map h.tabG hm e.symm
    · exact hne e.symm
    · exact map_ne_row hm h.row e
  refine ⟨fa', fc', rfl, { names := h.names.fr hf (fun hn => ?_), tab := h.tab.fr hf ?_, map := h.map.fr hf (notMap h.map h.nes.2.1), last := h.last.fr hf (notMap h.last h.nes.2.2.1), syms := h.syms.fr hf (fun s nm ix hs => notRow hs (by decide) (by decide)), all := h.all, tabG := hT, mapG := hM,
                           first := h.first.fr hf (notMap h.first h.nes.2.2.2.1), row := hrow, frees := fun key v hv => ?_, fr := h.fr.trans' hf (fun i hi e => ?_), nes := h.nes, lo := Nat.le_trans h.lo hf.size, old := h.old }⟩
  · obtain ⟨cc, hb⟩ := row_tag (h.names 0 hn).2.1
    exact notRow hb (by decide) (by decide)
  · intro e
    rcases e with e | e | e
    · exact h.nes.1 e.symm
    · exact tab_ne_map h.tab h.mapG e
    · exact tab_ne_row h.tab h.row e
  · by_cases e : key = nm.data.toList
    · subst e
      rw [upd_same] at hv
      exact ⟨r, nm, c, by cases hv; rfl, hS⟩
    · rw [upd_other g _ e] at hv
      exact (h.frees.fr hf (fun s nm ix hs => notRow hs (by decide) (by decide))) key v hv
  · have := h.old
    rcases e with e | e | e
    · omega
    · omega
    · have := (ownsRow_tag h.row e).choose_spec.2; omega

/-- 'first[name] = s'. -/
theorem L3.put (h : L3 w wr na n nb S F mf mL R f G mg m1 base c c1 fa fc g g1 xs) {w3 : World} {g2 : List UInt8 → Option Value} {c2 : Nat} (hM : MapAt w3 m1 c2 g2) (hturn : wr.mapTurned w3 m1) : L3 w w3 na n nb S F mf mL R f G mg m1 base c c2 fa fc g g2 xs := by
  have hf := mapTurned_fr hturn
  exact { names := h.names.fr hf (fun hn => row_ne_map (h.names 0 hn).2.1 h.first), tab := h.tab.fr hf (tab_ne_map h.tab h.first), map := h.map.fr hf h.nes.2.2.2.2.1.symm, last := h.last.fr hf h.nes.2.2.2.2.2.symm, syms := h.syms.fr hf (fun s nm ix hs => sym_ne_map hs h.first), all := h.all,
          tabG := h.tabG.fr hf (tab_ne_map h.tabG h.first), mapG := h.mapG.fr hf h.nes.2.2.2.1, first := hM, row := ownsRow_fr h.row hf (fun x hx e => by subst e; exact map_ne_row h.first h.row hx), frees := h.frees.fr hf (fun s nm ix hs => sym_ne_map hs h.first),
          fr := h.fr.trans' hf (fun i hi e => by have := h.old; omega), nes := h.nes, lo := Nat.le_trans h.lo hf.size, old := h.old }

/-- The last of the free list. -/
theorem L3.tail {s : Nat} (h : L3 w wr na n nb S F mf mL R f G mg m1 base (c + 1) c1 fa fc g g1 (xs ++ [.pointer (some ⟨s, 0, none⟩)])) : ∃ gg, fa = some ⟨gg, 0, none⟩ ∧ wr.cell? ⟨gg, c, none⟩ = some (.pointer (some ⟨s, 0, none⟩)) := by
  have hl : xs.length = c := by have := h.row.1; simp at this; omega
  rcases h.row.2 with ⟨_, h0⟩ | ⟨gg, cap, cur, hv, _⟩
  · omega
  · have hfa : fa = some ⟨gg, 0, none⟩ := by cases hv; rfl
    have hc := h.row.cells (g := gg) (by rw [hfa]; rfl) c (.pointer (some ⟨s, 0, none⟩)) (by rw [List.getElem?_append_right (by omega)]; simp [hl])
    have hadd : (⟨gg, 0, none⟩ : Addr).add c = ⟨gg, c, none⟩ := by unfold Addr.add; split <;> simp_all
    rw [hadd] at hc
    exact ⟨gg, hfa, hc⟩
end

end Go.Proofs.Yoedbw
