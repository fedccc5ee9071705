import Derived.Test.YoedbwW6
import Derived.Test.YoedbwPtr
import Derived.BigQuiet
import Derived.Deep.QuietTactic
import Derived.Deep.CutBlock
namespace Go.Proofs.Yoedbw
open Go.RowKit

set_option maxRecDepth 100000 in
set_option maxHeartbeats 4000000 in
theorem walk3 (w : World) (a : Option Addr) (len cap b off : Nat) (S : Nat → ByteArray) (h : StrRow w a len b off S) (hl : len ≤ maxLen) (hnil : a = none → len = 0)
    (a1 : Option Addr) (len1 cap1 b1 off1 : Nat) (Z : Nat → Int) (h1 : IntRow w a1 len1 b1 off1 Z) (hl1 : len1 ≤ maxLen) (hnil1 : a1 = none → len1 = 0) :
    Calls Edbg.prog 3 #[.slice a len cap, .slice a1 len1 cap1] w fun e w' => e = .returned (.bool true) ∧ Fr (fun _ => False) w w' := by
  have H := hid h
  have H1 := hid h1
  have HB := hid (bytes5 w a len cap b off S h hl a1 len1 cap1 hl1)
  have HN := hid hnil
  have HN1 := hid hnil1
  clear h h1 hnil hnil1
  unfold maxLen at hl hl1
  go_enter Edbg.func3, Edbg.ntmps3
  go_wp2_with fail
  refine HB.out.mono ?_
  rintro e w' ⟨⟨t, rfl, hL⟩, hw'⟩
  have HL0 := hid hL
  clear hL
  replace hw' := hw'.symm
  subst hw'
  clear HB
  cases t with
  | false =>
    go_wp2
    go_ret
    exact ⟨rfl, Fr.refl _ _⟩
  | true =>
    have HL := hid (HL0.out rfl)
    clear HL0
    by_cases hA : 4096 < len
    · go_wp2
      go_ret
      exact ⟨rfl, Fr.refl _ _⟩
    by_cases hB : 4096 < len1
    · go_wp2
      go_ret
      exact ⟨rfl, Fr.refl _ _⟩
    go_upto_block 0 with fail
    go_cut [5] from 22 to 55 (fun s5 w1 => ∃ t : Nat, t ≤ 1048576 ∧ s5 = .int .i64 t ∧ w = w1)
    case first =>
      as_aux_lemma =>
      go_wp2
      go_loop [5, 6] (fun t i => ∃ k n : Nat, k ≤ len ∧ n ≤ 1048576 ∧ t = .int .i64 n ∧ i = .int .i64 k) (fun _ i => len - (intOf i).toNat)
      case atStart => exact ⟨0, 16 * len + 8 * len1, by omega, by omega, by go_num, rfl⟩
      case round =>
        obtain ⟨k, n, hk, hn, rfl, rfl⟩ := hrel
        by_cases hlt : k < len
        · obtain ⟨ha, hc, hs⟩ := H.out k hlt
          have hix := fun w => idx_at (cap := cap) Edbg.underlying22 size9 ha hlt w
          have hs := HL.out k hlt
          clear ha
          go_wp2
          · go_ret
            exact ⟨rfl, Fr.refl _ _⟩
          · go_round
            case rel => exact ⟨k + 1, n + (S k).size, by omega, by omega, by go_num, by go_num⟩
            case measure => simp [intOf]; omega
        · go_wp2
          go_meet
          case rel => exact ⟨n, hn, rfl, rfl⟩
    case rest =>
      obtain ⟨t, ht, rfl, rfl⟩ := hcut
      go_wp2_with fail
      refine (copy6 w a len cap b off S H.out (by omega) HN.out).mono ?_
      rintro e w2 ⟨na, nc, nb, rfl, hN2, fr2⟩
      have hI2 : IntRow w2 a1 len1 b1 off1 Z := fun i hi => ⟨(H1.out i hi).1, (World.cell?_of_block (fr2.block b1 (World.block_lt_of_cell? w _ (H1.out i hi).2.1) id)).trans (H1.out i hi).2.1, (H1.out i hi).2.2⟩
      have H2 := hid (And.intro hN2 (And.intro fr2 hI2))
      clear hN2 fr2 hI2 H HN H1
      go_wp2_with fail
      refine (copy7 w2 a1 len1 cap1 b1 off1 Z H2.out.2.2 (by omega) HN1.out).mono ?_
      rintro e w3 ⟨ia, ic, ib, rfl, hZ3, fr3⟩
      have H3 := hid (And.intro (H2.out.1.fr fr3 (fun _ => id)) (And.intro hZ3 (H2.out.2.1.trans fr3)))
      clear hZ3 fr3 H2 HN1
      have hmk := run_make_row' (P := Edbg.prog) 29 30 (.pointer none) 8 Edbg.underlying29 info30 rfl .i64 .i64 len (by omega) (by omega)
      go_wp2_with fail
      refine (new_any w3).mono ?_
      rintro e w4 ⟨rfl, rfl⟩
      go_upto_region 20 with fail
      clear hmk
      have hD := DS.start H3.out.1 H3.out.2.1 H3.out.2.2
      generalize ((((w3.alloc (.map #[] 0)).alloc (.cells #[.pointer none, .bool false, .map (some w3.heap.size), .int .i64 0, .int .i64 0, .slice none 0 0, .slice none 0 0] 46)).alloc (.cells (madeCells #[.pointer none] len) 30)).alloc (.cells (madeCells #[.pointer none] len) 30)) = w5 at *
      generalize w3.heap.size + 1 + 1 + 1 + 1 = base at *
      generalize w3.heap.size + 1 + 1 + 1 = Br at *
      generalize w3.heap.size + 1 + 1 = Bo at *
      generalize w3.heap.size + 1 = T at *
      generalize w3.heap.size = mt at *
      have HD := hid hD
      clear H3 hD
      go_cut [11] from 22 to 68 (fun s11 wz => s11 = .int .i64 0 ∧ w5 = wz)
      case first =>
        go_wp2
        go_meet
        case rel => exact ⟨rfl, rfl⟩
      case rest =>
        obtain ⟨rfl, rfl⟩ := hcut
        have hn : len ≤ 4096 := by omega
        have hm : len1 ≤ 4096 := by omega
        clear hl hl1 hA hB
        go_upto_block 2 with fail
        go_cut [] from 69 to 166 (fun wz => ∃ fa fc f xs rs, Hid (DS w wz na ia len nb len1 ib S Z T mt Bo Br base len fa fc f xs xs (rs.map mkp) rs))
        case first =>
          as_aux_lemma =>
          go_wp2
          go_loopw [11] (fun i wr => ∃ (k : Nat) (fa : Option Addr) (fc : Nat) (f : List UInt8 → Option Value) (xs : List Value) (rs : List Nat), k ≤ len ∧ i = .int .i64 k ∧ Hid (DS w wr na ia len nb len1 ib S Z T mt Bo Br base k fa fc f xs xs (rs.map mkp) rs)) (fun i _ => len - (intOf i).toNat)
          case atStart => exact ⟨0, none, 0, _, [], [], by omega, rfl, HD⟩
          case round =>
            clear HD
            obtain ⟨k, fa, fc, f, xs, rs, hk, rfl, HR⟩ := hrel
            by_cases hlt : k < len
            · go_upto_if 77 with fail
              go_cut [12] from 69 to 166 (fun s12 wz => ∃ x : Int, s12 = .int .i64 x ∧ wr = wz)
              case first =>
                by_cases hlt1 : k < len1
                · obtain ⟨ha, hrow, _⟩ := HR.out.ints k hlt1
                  have hc := hrow.cell hlt1
                  have hix := fun w => idx_at (cap := ic) Edbg.underlying23 size3 ha hlt1 w
                  simp only [Nat.zero_add] at hix
                  clear ha hrow
                  go_wp2
                  go_meet
                  case rel => exact ⟨_, rfl, rfl⟩
                · go_wp2
                  go_meet
                  case rel => exact ⟨_, rfl, rfl⟩
              case rest =>
                obtain ⟨x, rfl, rfl⟩ := hcut
                obtain ⟨ha, hrow, hsz⟩ := HR.out.names k hlt
                have hc := hrow.cell hlt
                have hix := fun w => idx_at (cap := nc) Edbg.underlying22 size9 ha hlt w
                simp only [Nat.zero_add] at hix
                have ho := HR.out.origs.cell hlt
                have hfo := HR.out.origs.frozen k
                have hoz := HR.out.origs.lt
                clear ha hrow
                go_upto_region 28 with fail
                clear hc hix ho hfo hoz
                obtain ⟨hD2, hS2⟩ := HR.out.mid (S k) ⟨#[76, 79, 67, 65, 76]⟩ x
                have hol := blockLt hS2
                clear HR
                generalize (wr.setCell ⟨Bo, k, none⟩ (.pointer (some ⟨wr.heap.size, 0, none⟩))).alloc (.cells #[.string (S k), .string ⟨#[76, 79, 67, 65, 76]⟩, .int .i64 x, .bool false] 33) = w2 at *
                generalize wr.heap.size = o at *
                have H2 := hid (And.intro hD2 hS2)
                clear hD2 hS2
                go_wp2_with fail
                refine (zzfree w2 T (.pointer none) mt 0 0 (.slice fa k fc) o (S k) ⟨#[76, 79, 67, 65, 76]⟩ x base k k xs f H2.out.1.tab H2.out.2 H2.out.1.row H2.out.1.map H2.out.1.lo.2.2.1 (by omega) (by omega) hsz).mono ?_
                rintro e w3 ⟨r, fv', rfl, hr, hS3, hT3, hrow3, hM3, fr3⟩
                obtain ⟨fa', fc', hD3⟩ := H2.out.1.step hS3 hT3 hrow3 hM3 fr3
                have hO3 := H2.out.1.symStay H2.out.2 fr3
                have hro := eql_other hS3 hO3 (by omega)
                have r0 : w3.cell? ⟨r, 0, none⟩ = some (.string (S k)) := by rw [cellAt hS3]; rfl
                have r1 : w3.cell? ⟨r, 1, none⟩ = some (.string ⟨#[70, 82, 69, 69]⟩) := by rw [cellAt hS3]; rfl
                have r2 : w3.cell? ⟨r, 2, none⟩ = some (.int .i64 k) := by rw [cellAt hS3]; rfl
                have r3 : w3.cell? ⟨r, 3, none⟩ = some (.bool false) := by rw [cellAt hS3]; rfl
                have o0 : w3.cell? ⟨o, 0, none⟩ = some (.string (S k)) := by rw [cellAt hO3]; rfl
                have o1 : w3.cell? ⟨o, 1, none⟩ = some (.string ⟨#[76, 79, 67, 65, 76]⟩) := by rw [cellAt hO3]; rfl
                have o2 : w3.cell? ⟨o, 2, none⟩ = some (.int .i64 x) := by rw [cellAt hO3]; rfl
                have o3 : w3.cell? ⟨o, 3, none⟩ = some (.bool false) := by rw [cellAt hO3]; rfl
                obtain ⟨ha, hrow, -⟩ := hD3.names k hlt
                have hc := hrow.cell hlt
                have hix := fun w => idx_at (cap := nc) Edbg.underlying22 size9 ha hlt w
                simp only [Nat.zero_add] at hix
                have hq := hD3.res.cell hlt
                have hfq := hD3.res.frozen k
                have HD3 := hid hD3
                clear hD3 hO3 hS3 hT3 hrow3 hM3 fr3 H2 ha hrow hr hol
                go_upto_region 31 with fail
                go_quiet (fail)
                go_wp2
                go_quiet (fail)
                go_wp2
                go_roundw
                case rel => exact ⟨k + 1, fa', fc', _, _, rs ++ [r], by omega, by go_num, hid (HD3.out.endRound _)⟩
                case measure => simp [intOf]; omega
            · have hke : k = len := by omega
              subst hke
              go_wp2
              go_meet
              case rel => exact ⟨fa, fc, f, xs, rs, HR⟩
        case rest =>
          obtain ⟨fa, fc, f, xs, rs, HR⟩ := hcut
          obtain ⟨w6, hw6⟩ : ∃ w6, w6 = wc := ⟨_, rfl⟩
          subst hw6
          clear HD
          go_wp2_with fail
          refine (free_any w6 T (.pointer none) mt 0 0 (.slice fa len fc) HR.out.tab).mono ?_
          rintro e w7 ⟨rfl, rfl⟩
          go_upto_block 4 with fail
          go_cut [] from 167 to 186 (fun wz => Hid (DS w wz na ia len nb len1 ib S Z T mt Bo Br base len fa fc f xs xs (rs.map mkp) rs))
          case first =>
            as_aux_lemma =>
            go_wp2
            go_loopw [16] (fun i wr => ∃ (k : Nat), k ≤ len ∧ i = .int .i64 k ∧ Hid (DS w wr na ia len nb len1 ib S Z T mt Bo Br base len fa fc f xs xs (rs.map mkp) rs)) (fun i _ => len - (intOf i).toNat)
            case atStart => exact ⟨0, by omega, rfl, HR⟩
            case round =>
              clear HR
              obtain ⟨k, hk, rfl, HR⟩ := hrel
              by_cases hlt : k < len
              · obtain ⟨g, o, hfa, hg, ho⟩ := HR.out.look hlt
                have hix := fun w => idx_at (cap := fc) Edbg.underlying29 size30 hfa hlt w
                simp only [Nat.zero_add] at hix
                have hnq := fun w => neq_same w o
                have hlt' : (k : Int) < (len : Int) := by omega
                have hk0 : (0 : Int) ≤ (k : Int) := by omega
                clear hfa
                go_upto_region 42 with fail
                go_quiet (fail)
                go_wp2
                go_roundw
                case rel => exact ⟨k + 1, by omega, by go_num, hid (HR.out.grow ((Fr.refl _ _).drewN _))⟩
                case measure => simp [intOf]; omega
              · go_wp2
                go_meet
                case rel => exact HR
          case rest =>
            obtain ⟨w8, hw8⟩ : ∃ w8, w8 = wc := ⟨_, rfl⟩
            subst hw8
            clear HR
            have HR := hcut
            clear hcut
            have hmm := @run_makeMap Edbg.prog
            go_upto_block 6 with fail
            clear hmm
            have hD9 := HR.out.grow ((Fr.refl _ w8).alloc (.map #[] 0))
            have hS9 := SN.start (w8 := w8) len S
            have hne : mt ≠ w8.heap.size := by have := HR.out.map.lt; omega
            have hlo : w.heap.size ≤ w8.heap.size := HR.out.fr.size
            generalize w8.alloc (.map #[] 0) = w9 at *
            generalize w8.heap.size = ms at *
            clear HR
            have HR := hid hD9
            have HS := hid hS9
            have Hne := hid hne
            clear hD9 hS9 hne
            go_cut [] from 187 to 255 (fun wz => Hid (DS w wz na ia len nb len1 ib S Z T mt Bo Br base len fa fc f xs xs (rs.map mkp) rs))
            case first =>
              as_aux_lemma =>
              go_wp2
              go_loopw [18] (fun i wr => ∃ (k : Nat) (g : List UInt8 → Option Value), k ≤ len ∧ i = .int .i64 ((k : Int) - 1) ∧ Hid (DS w wr na ia len nb len1 ib S Z T mt Bo Br base len fa fc f xs xs (rs.map mkp) rs) ∧ Hid (SN wr ms len k S g)) (fun i _ => (intOf i + 1).toNat)
              case atStart => exact ⟨len, _, Nat.le_refl _, rfl, HR, HS⟩
              case round =>
                clear HR HS
                obtain ⟨k, g, hk, hi, HR, HS⟩ := hrel
                rcases Nat.eq_zero_or_pos k with h0 | h0
                · subst h0
                  have e0 : ((0 : Nat) : Int) - 1 = -1 := by omega
                  rw [e0] at hi
                  subst hi
                  go_wp2
                  go_meet
                  case rel => exact HR
                · obtain ⟨j, rfl⟩ : ∃ j, k = j + 1 := ⟨k - 1, by omega⟩
                  have e0 : ((j + 1 : Nat) : Int) - 1 = (j : Int) := by omega
                  rw [e0] at hi
                  subst hi
                  clear e0 h0
                  have hj : j < len := by omega
                  obtain ⟨s, j2, hf, hSy, hrs, hno, hyes⟩ := HR.out.find HS.out hj
                  obtain ⟨ha, hrow, hsz⟩ := HR.out.names j hj
                  have hc := hrow.cell hj
                  have hix := fun w => idx_at (cap := nc) Edbg.underlying22 size9 ha hj w
                  simp only [Nat.zero_add] at hix
                  have HRes := hid (res_free wr T (.pointer none) mt 0 0 (.slice fa len fc) len f s (S j) (S j) j2 HR.out.tab HR.out.map hf hSy hsz)
                  have HY := hid (And.intro hSy (And.intro hrs (And.intro hno hyes)))
                  clear ha hrow hf hSy hrs hno hyes
                  go_wp2_with fail
                  refine HRes.out.mono ?_
                  rintro e w' ⟨rfl, hw'⟩
                  replace hw' := hw'.symm
                  subst hw'
                  clear HRes
                  by_cases hg : g (S j).data.toList = none
                  · have hlk := HS.out.map.look Edbg.underlying36 (zero4 wr) hsz
                    rw [hg] at hlk
                    simp only [Option.getD_none] at hlk
                    obtain ⟨w2, hrun, hM2, hturn⟩ := HS.out.map.store Edbg.underlying36 (by unfold maxLen; omega) hsz (.bool true)
                    have hD2 := HR.out.otherMap HS.out.map Hne.out hlo (mapTurned_fr hturn)
                    have hj2 : j2 = j := HY.out.2.2.1 hg
                    subst hj2
                    have hq : w2.cell? ⟨Br, j2, none⟩ = some (.pointer (some ⟨s, 0, none⟩)) := by
                      rw [hD2.res.cell hj, List.getD_eq_getElem?_getD, List.getElem?_map, HY.out.2.1]
                      rfl
                    have hnq := fun w => neq_same w s
                    have HD2 := hid hD2
                    have HS2 := hid (HS.out.step hj hM2)
                    clear hD2 hM2 hturn HY hg HR HS
                    go_wp2
                    go_roundw
                    case rel => exact ⟨j2, _, by omega, by go_num, HD2, HS2⟩
                    case measure => simp [intOf]
                  · have hlk := HS.out.map.look Edbg.underlying36 (zero4 wr) hsz
                    have hgv : g (S j).data.toList = some (.bool true) := by
                      cases hv : g (S j).data.toList with
                      | none => exact absurd hv hg
                      | some v => rw [(HS.out.yes _ v hv).1]
                    rw [hgv] at hlk
                    simp only [Option.getD_some] at hlk
                    have hjj := HY.out.2.2.2 hg
                    have hd : decide ((j2 : Int) ≤ (j : Int)) = false := decide_eq_false (by omega)
                    have s0 : wr.cell? ⟨s, 0, none⟩ = some (.string (S j)) := by rw [cellAt HY.out.1]; rfl
                    have s1 : wr.cell? ⟨s, 1, none⟩ = some (.string ⟨#[70, 82, 69, 69]⟩) := by rw [cellAt HY.out.1]; rfl
                    have s2 : wr.cell? ⟨s, 2, none⟩ = some (.int .i64 j2) := by rw [cellAt HY.out.1]; rfl
                    have HG := hid hg
                    clear hg hgv HY
                    go_upto_region 55 with fail
                    go_quiet (fail)
                    go_wp2
                    go_roundw
                    case rel => exact ⟨j, g, by omega, by go_num, hid (HR.out.grow ((Fr.refl _ _).drewN _)), hid (HS.out.stay HG.out _)⟩
                    case measure => simp [intOf]
            case rest =>
              obtain ⟨w10, hw10⟩ : ∃ w10, w10 = wc := ⟨_, rfl⟩
              subst hw10
              clear HR
              go_wp2_with fail
              refine (max_any w10 T (.pointer none) mt 0 0 (.slice fa len fc) hcut.out.tab).mono ?_
              rintro e w11 ⟨rfl, hw11⟩
              subst hw11
              go_wp2
              go_ret
              exact ⟨rfl, hcut.out.fr⟩

end Go.Proofs.Yoedbw
