import Derived.Test.YoedbwW4
namespace Go.Proofs.Yoedbw
open Go.RowKit

theorem size9 : (Edbg.prog.info? 9).map (·.size) = some 1 := by kernel_rfl
theorem size3 : (Edbg.prog.info? 3).map (·.size) = some 1 := by kernel_rfl
theorem size30 : (Edbg.prog.info? 30).map (·.size) = some 1 := by kernel_rfl

theorem idx_at {t e : TypeId} (ht : Edbg.prog.underlying t = some (.slice e)) (hs : (Edbg.prog.info? e).map (·.size) = some 1) {a : Option Addr} {b off len cap i : Nat} (ha : a = some ⟨b, off, none⟩) (hi : i < len) (w : World) :
    (Instr.indexAt t (.slice a len cap) (.int .i64 i)).run Edbg.prog w = .ok (.pointer (some ⟨b, off + i, none⟩)) w := by
  subst ha
  obtain ⟨x, hx, h1⟩ := Option.map_eq_some_iff.1 hs
  simp [Instr.indexAt, run_underlying ht, asIntOf, sizeOf, typeInfo, hx, h1, hi, Addr.add]

/-- A slice of strings that can be read: nil, or a row of strings from cell 'off' of block b on. -/
def StrRow (w : World) (a : Option Addr) (len b off : Nat) (S : Nat → ByteArray) : Prop :=
  ∀ i, i < len → a = some ⟨b, off, none⟩ ∧ w.cell? ⟨b, off + i, none⟩ = some (.string (S i)) ∧ (S i).size ≤ maxLen

/-- A slice of ints that can be read. -/
def IntRow (w : World) (a : Option Addr) (len b off : Nat) (Z : Nat → Int) : Prop :=
  ∀ i, i < len → a = some ⟨b, off, none⟩ ∧ w.cell? ⟨b, off + i, none⟩ = some (.int .i64 (Z i)) ∧ (Lit.int .i64 (Z i)).wf = true

/-- A bool comes back, whichever. -/
def IsBool (len : Nat) (S : Nat → ByteArray) (e : Ending) : Prop := ∃ t, e = .returned (.bool t) ∧ (t = true → ∀ i, i < len → (S i).size ≤ 1048576)
theorem isFalse (len : Nat) (S : Nat → ByteArray) : IsBool len S (.returned (.bool false)) := ⟨false, rfl, fun h => by cases h⟩
theorem isTrue {len : Nat} {S : Nat → ByteArray} (h : ∀ i, i < len → (S i).size ≤ 1048576) : IsBool len S (.returned (.bool true)) := ⟨true, rfl, fun _ => h⟩

theorem lt_more {k : Nat} {S : Nat → ByteArray} (h : Hid (∀ j, j < k → (S j).size ≤ 1048576)) (hk : (S k).size ≤ 1048576) : Hid (∀ j, j < k + 1 → (S j).size ≤ 1048576) := fun j hj => by
  by_cases e : j = k
  · subst e; exact hk
  · exact h.out j (by omega)

set_option maxHeartbeats 1000000 in
theorem bytes13 (w : World) (a : Option Addr) (len cap b off : Nat) (S : Nat → ByteArray) (h : StrRow w a len b off S) (hl : len ≤ maxLen) :
    Calls Edbg.prog 13 #[.slice a len cap] w fun e w' => IsBool len S e ∧ w' = w := by
  have H := hid h
  clear h
  unfold maxLen at hl
  go_enter Edbg.func13, Edbg.ntmps13
  go_wp2
  · go_ret
    exact ⟨isFalse _ _, rfl⟩
  · go_loop [3, 4] (fun t i => ∃ k n : Nat, k ≤ len ∧ n ≤ 1048576 ∧ t = .int .i64 n ∧ i = .int .i64 k ∧ Hid (∀ j, j < k → (S j).size ≤ 1048576)) (fun _ i => len - (intOf i).toNat)
    case atStart => exact ⟨0, len, by omega, by omega, rfl, rfl, fun j hj => absurd hj (Nat.not_lt_zero j)⟩
    case round =>
      obtain ⟨k, n, hk, hn, rfl, rfl, HJ⟩ := hrel
      by_cases hlt : k < len
      · obtain ⟨ha, hc, hs⟩ := H.out k hlt
        have hix := fun w => idx_at (cap := cap) Edbg.underlying22 size9 ha hlt w
        unfold maxLen at hs
        clear ha
        go_wp2
        · go_ret
          exact ⟨isFalse _ _, rfl⟩
        · go_ret
          exact ⟨isFalse _ _, rfl⟩
        · go_round
          case rel => exact ⟨k + 1, n + (S k).size, by omega, by omega, by go_num, by go_num, lt_more HJ (by omega)⟩
          case measure => simp [intOf]; omega
      · go_wp2
        go_ret
        exact ⟨isTrue (fun i hi => HJ.out i (by omega)), rfl⟩

set_option maxHeartbeats 1000000 in
theorem bytes5 (w : World) (a : Option Addr) (len cap b off : Nat) (S : Nat → ByteArray) (h : StrRow w a len b off S) (hl : len ≤ maxLen) (a1 : Option Addr) (len1 cap1 : Nat) (hl1 : len1 ≤ maxLen) :
    Calls Edbg.prog 5 #[.slice a len cap, .slice a1 len1 cap1] w fun e w' => IsBool len S e ∧ w' = w := by
  have H := hid h
  clear h
  unfold maxLen at hl hl1
  go_enter Edbg.func5, Edbg.ntmps5
  go_wp2
  · go_ret
    exact ⟨isFalse _ _, rfl⟩
  · go_loop [5, 6] (fun t i => ∃ k n : Nat, k ≤ len ∧ n ≤ 1048576 ∧ t = .int .i64 n ∧ i = .int .i64 k ∧ Hid (∀ j, j < k → (S j).size ≤ 1048576)) (fun _ i => len - (intOf i).toNat)
    case atStart => exact ⟨0, len, by omega, by omega, rfl, rfl, fun j hj => absurd hj (Nat.not_lt_zero j)⟩
    case round =>
      obtain ⟨k, n, hk, hn, rfl, rfl, HJ⟩ := hrel
      by_cases hlt : k < len
      · obtain ⟨ha, hc, hs⟩ := H.out k hlt
        have hix := fun w => idx_at (cap := cap) Edbg.underlying22 size9 ha hlt w
        unfold maxLen at hs
        clear ha
        go_wp2
        · go_ret
          exact ⟨isFalse _ _, rfl⟩
        · go_ret
          exact ⟨isFalse _ _, rfl⟩
        · go_round
          case rel => exact ⟨k + 1, n + (S k).size, by omega, by omega, by go_num, by go_num, lt_more HJ (by omega)⟩
          case measure => simp [intOf]; omega
      · go_wp2
        all_goals
          go_ret
          first
            | exact ⟨isFalse _ _, rfl⟩
            | exact ⟨isTrue (fun i hi => HJ.out i (by omega)), rfl⟩

/-- What the call's own copy of the names is. -/
def NRow (w : World) (a : Option Addr) (n nb : Nat) (S : Nat → ByteArray) : Prop :=
  ∀ i, i < n → a = some ⟨nb, 0, none⟩ ∧ w.rowIs nb 9 n (fun i => .string (S i)) ∧ (S i).size ≤ maxLen

def ZRow (w : World) (a : Option Addr) (n nb : Nat) (Z : Nat → Int) : Prop :=
  ∀ i, i < n → a = some ⟨nb, 0, none⟩ ∧ w.rowIs nb 3 n (fun i => .int .i64 (Z i)) ∧ (Lit.int .i64 (Z i)).wf = true

def CopyS (S : Nat → ByteArray) (len : Nat) (w : World) (e : Ending) (w' : World) : Prop := ∃ a' c' nb, e = .returned (.slice a' len c') ∧ NRow w' a' len nb S ∧ Fr (fun _ => False) w w'
def CopyZ (Z : Nat → Int) (len : Nat) (w : World) (e : Ending) (w' : World) : Prop := ∃ a' c' nb, e = .returned (.slice a' len c') ∧ ZRow w' a' len nb Z ∧ Fr (fun _ => False) w w'

set_option maxHeartbeats 1000000 in
theorem copy6 (w : World) (a : Option Addr) (len cap b off : Nat) (S : Nat → ByteArray) (h : StrRow w a len b off S) (hl : len ≤ 4096) (hnil : a = none → len = 0) :
    Calls Edbg.prog 6 #[.slice a len cap] w fun e w' => CopyS S len w e w' := by
  have heq := fun w => Lib.run_eql_slice_nil (P := Edbg.prog) w 22 9 a len cap 0 0 Edbg.underlying22
  cases a with
  | none =>
    obtain rfl := hnil rfl
    clear h
    go_enter Edbg.func6, Edbg.ntmps6
    go_wp2
    go_ret
    exact ⟨none, 0, 0, rfl, fun i hi => absurd hi (Nat.not_lt_zero _), Fr.refl _ _⟩
  | some x =>
    have H := hid h
    clear h hnil
    have hmk := run_make_row' (P := Edbg.prog) 22 9 (.string ByteArray.empty) 16 Edbg.underlying22 info9 rfl .i64 .i64 len (by omega) (by omega)
    go_enter Edbg.func6, Edbg.ntmps6
    go_wp2
    go_loopw [4] (fun i wr => ∃ k : Nat, k ≤ len ∧ i = .int .i64 k ∧ wr.rowIs w.heap.size 9 len (fun j => if j < k then .string (S j) else .string ByteArray.empty) ∧ Fr (fun _ => False) w wr) (fun i _ => len - (intOf i).toNat)
    case atStart => exact ⟨0, by omega, rfl, (World.rowIs_made w _ len 9).congr (fun i _ => by simp), (Fr.refl _ w).alloc _⟩
    case round =>
      obtain ⟨k, hk, rfl, hrow, hfr⟩ := hrel
      by_cases hlt : k < len
      · obtain ⟨ha, hc, hs⟩ := H.out k hlt
        have hix := fun w => idx_at (cap := cap) Edbg.underlying22 size9 ha hlt w
        have hc' : wr.cell? ⟨b, off + k, none⟩ = some (.string (S k)) := (World.cell?_of_block (hfr.block b (World.block_lt_of_cell? w _ hc) id)).trans hc
        have hd : wr.cell? ⟨w.heap.size, k, none⟩ = some (.string ByteArray.empty) := by rw [hrow.cell hlt]; simp
        have hfz := hrow.frozen k
        have HR := hid (And.intro hrow hfr)
        clear ha hrow hfr hc
        go_wp2
        go_roundw
        case rel =>
          obtain ⟨hrow, hfr⟩ := HR.out
          refine ⟨k + 1, by omega, by go_num, (hrow.set k (.string (S k))).congr (fun i hi => ?_), hfr.setCell (fun h => by simp at h) _⟩
          by_cases e : i = k
          · subst e; simp
          · have h2 : i < k + 1 ↔ i < k := by omega
            simp [e, h2]
        case measure => simp [intOf]; omega
      · have : k = len := by omega
        subst this
        have HR := hid (And.intro hrow hfr)
        clear hrow hfr
        go_wp2
        go_ret
        exact ⟨_, _, w.heap.size, rfl, fun i hi => ⟨rfl, HR.out.1.congr (fun j hj => by simp [hj]), (H.out i hi).2.2⟩, HR.out.2⟩

set_option maxHeartbeats 1000000 in
theorem copy7 (w : World) (a : Option Addr) (len cap b off : Nat) (Z : Nat → Int) (h : IntRow w a len b off Z) (hl : len ≤ 4096) (hnil : a = none → len = 0) :
    Calls Edbg.prog 7 #[.slice a len cap] w fun e w' => CopyZ Z len w e w' := by
  have heq := fun w => Lib.run_eql_slice_nil (P := Edbg.prog) w 23 3 a len cap 0 0 Edbg.underlying23
  cases a with
  | none =>
    obtain rfl := hnil rfl
    clear h
    go_enter Edbg.func7, Edbg.ntmps7
    go_wp2
    go_ret
    exact ⟨none, 0, 0, rfl, fun i hi => absurd hi (Nat.not_lt_zero _), Fr.refl _ _⟩
  | some x =>
    have H := hid h
    clear h hnil
    have hmk := run_make_row' (P := Edbg.prog) 23 3 (.int .i64 0) 8 Edbg.underlying23 info3 rfl .i64 .i64 len (by omega) (by omega)
    go_enter Edbg.func7, Edbg.ntmps7
    go_wp2
    go_loopw [4] (fun i wr => ∃ k : Nat, k ≤ len ∧ i = .int .i64 k ∧ wr.rowIs w.heap.size 3 len (fun j => if j < k then .int .i64 (Z j) else .int .i64 0) ∧ Fr (fun _ => False) w wr) (fun i _ => len - (intOf i).toNat)
    case atStart => exact ⟨0, by omega, rfl, (World.rowIs_made w _ len 3).congr (fun i _ => by simp), (Fr.refl _ w).alloc _⟩
    case round =>
      obtain ⟨k, hk, rfl, hrow, hfr⟩ := hrel
      by_cases hlt : k < len
      · obtain ⟨ha, hc, hs⟩ := H.out k hlt
        have hix := fun w => idx_at (cap := cap) Edbg.underlying23 size3 ha hlt w
        have hc' : wr.cell? ⟨b, off + k, none⟩ = some (.int .i64 (Z k)) := (World.cell?_of_block (hfr.block b (World.block_lt_of_cell? w _ hc) id)).trans hc
        have hd : wr.cell? ⟨w.heap.size, k, none⟩ = some (.int .i64 0) := by rw [hrow.cell hlt]; simp
        have hfz := hrow.frozen k
        have HR := hid (And.intro hrow hfr)
        clear ha hrow hfr hc
        go_wp2
        go_roundw
        case rel =>
          obtain ⟨hrow, hfr⟩ := HR.out
          refine ⟨k + 1, by omega, by go_num, (hrow.set k (.int .i64 (Z k))).congr (fun i hi => ?_), hfr.setCell (fun h => by simp at h) _⟩
          by_cases e : i = k
          · subst e; simp
          · have h2 : i < k + 1 ↔ i < k := by omega
            simp [e, h2]
        case measure => simp [intOf]; omega
      · have : k = len := by omega
        subst this
        have HR := hid (And.intro hrow hfr)
        clear hrow hfr
        go_wp2
        go_ret
        exact ⟨_, _, w.heap.size, rfl, fun i hi => ⟨rfl, HR.out.1.congr (fun j hj => by simp [hj]), (H.out i hi).2.2⟩, HR.out.2⟩

end Go.Proofs.Yoedbw
