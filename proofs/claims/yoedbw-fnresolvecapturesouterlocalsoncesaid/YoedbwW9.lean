import Derived.Test.YoedbwW8
import Derived.Test.YoedbwPtr
import Derived.BigQuiet
import Derived.Deep.QuietTactic
import Derived.Deep.CutBlock
namespace Go.Proofs.Yoedbw
open Go.RowKit

set_option maxRecDepth 100000 in
set_option maxHeartbeats 4000000 in
theorem walk4 (w : World) (a : Option Addr) (len cap b off : Nat) (S : Nat → ByteArray) (h : StrRow w a len b off S) (hl : len ≤ maxLen) (hnil : a = none → len = 0) :
    Calls Edbg.prog 4 #[.slice a len cap] w fun e w' => e = .returned (.bool true) ∧ Fr (fun _ => False) w w' := by
  have H := hid h
  have HB := hid (bytes13 w a len cap b off S h hl)
  have HN := hid hnil
  clear h hnil
  unfold maxLen at hl
  go_enter Edbg.func4, Edbg.ntmps4
  go_wp2_with fail
  refine HB.out.mono ?_
  rintro e w' ⟨⟨t, rfl, hL⟩, hw'⟩
  have HL0 := hid hL
  clear hL
  replace hw' := hw'.symm
  subst hw'
  clear HB
  cases t with
  | false =>
    go_wp2
    go_ret
    exact ⟨rfl, Fr.refl _ _⟩
  | true =>
    have HL := hid (HL0.out rfl)
    clear HL0
    by_cases hA : 4096 < len
    · go_wp2
      go_ret
      exact ⟨rfl, Fr.refl _ _⟩
    go_upto_block 0 with fail
    go_cut [3] from 21 to 44 (fun s3 w1 => ∃ t : Nat, t ≤ 1048576 ∧ s3 = .int .i64 t ∧ w = w1)
    case first =>
      go_wp2
      go_loop [3, 4] (fun t i => ∃ k n : Nat, k ≤ len ∧ n ≤ 1048576 ∧ t = .int .i64 n ∧ i = .int .i64 k) (fun _ i => len - (intOf i).toNat)
      case atStart => exact ⟨0, 16 * len, by omega, by omega, by go_num, rfl⟩
      case round =>
        obtain ⟨k, n, hk, hn, rfl, rfl⟩ := hrel
        by_cases hlt : k < len
        · obtain ⟨ha, hc, hs⟩ := H.out k hlt
          have hix := fun w => idx_at (cap := cap) Edbg.underlying22 size9 ha hlt w
          have hs := HL.out k hlt
          clear ha
          go_wp2
          · go_ret
            exact ⟨rfl, Fr.refl _ _⟩
          · go_round
            case rel => exact ⟨k + 1, n + (S k).size, by omega, by omega, by go_num, by go_num⟩
            case measure => simp [intOf]; omega
        · go_wp2
          go_meet
          case rel => exact ⟨n, hn, rfl, rfl⟩
    case rest =>
      obtain ⟨t, ht, rfl, rfl⟩ := hcut
      go_wp2_with fail
      refine (copy6 w a len cap b off S H.out (by omega) HN.out).mono ?_
      rintro e w2 ⟨na, nc, nb, rfl, hN2, fr2⟩
      have H2 := hid (And.intro hN2 fr2)
      clear hN2 fr2 H HN
      go_wp2_with fail
      refine (new_any w2).mono ?_
      rintro e w4 ⟨rfl, hw4⟩
      have H4 : Hid (NRow w4 na len nb S ∧ Fr (fun _ => False) w w4) := by
        have g : Fr (fun _ => False) w2 w4 := by rw [hw4]; exact ((Fr.refl _ w2).alloc _).alloc _
        exact ⟨H2.out.1.fr g (fun _ => id), H2.out.2.trans g⟩
      clear hw4 H2
      generalize w2.heap.size + 1 = R
      go_wp2_with fail
      refine (fork_any w4 R).mono ?_
      rintro e w5 ⟨rfl, rfl⟩
      have hmm := @run_makeMap Edbg.prog
      go_upto_region 19 with fail
      clear hmm
      have hD := L2.start (R := R) H4.out.1 H4.out.2
      generalize (((w4.alloc (.map #[] 0)).alloc (.cells #[.pointer (some ⟨R, 0, none⟩), .bool false, .map (some w4.heap.size), .int .i64 0, .int .i64 0, .slice none 0 0, .slice none 0 0] 46)).alloc (.map #[] 0)) = w6 at *
      generalize w4.heap.size + 1 + 1 = mL at *
      generalize w4.heap.size + 1 = F at *
      generalize w4.heap.size = mf at *
      have HD := hid hD
      clear H4 hD
      go_cut [9] from 21 to 54 (fun s9 wz => s9 = .int .i64 0 ∧ w6 = wz)
      case first =>
        go_wp2
        go_meet
        case rel => exact ⟨rfl, rfl⟩
      case rest =>
        obtain ⟨rfl, rfl⟩ := hcut
        have hn : len ≤ 4096 := by omega
        clear hl hA
        go_upto_block 2 with fail
        go_cut [] from 55 to 70 (fun wz => ∃ f, Hid (L2 w wz na len nb S F mf mL R len f))
        case first =>
          go_wp2
          go_loopw [9] (fun i wr => ∃ (k : Nat) (f : List UInt8 → Option Value), k ≤ len ∧ i = .int .i64 k ∧ Hid (L2 w wr na len nb S F mf mL R k f)) (fun i _ => len - (intOf i).toNat)
          case atStart => exact ⟨0, _, by omega, rfl, HD⟩
          case round =>
            clear HD
            obtain ⟨k, f, hk, rfl, HR⟩ := hrel
            by_cases hlt : k < len
            · obtain ⟨ha, hrow, hsz⟩ := HR.out.names k hlt
              have hc := hrow.cell hlt
              have hix := fun w => idx_at (cap := nc) Edbg.underlying22 size9 ha hlt w
              simp only [Nat.zero_add] at hix
              have HDef := hid (define_any wr.drew F R mf k (.slice none 0 0) k f (S k) HR.out.tab (HR.out.map.of_block rfl) (by omega) (by omega) hsz)
              clear ha hrow
              go_upto_region 22 with fail
              go_region_held3 (fun w' => w'.cell? ⟨nb, k, none⟩ = some (.string (S k))) (go_keep)
                ((go_at_call 15; refine HDef.out.mono ?_; rintro e w7 ⟨s, rfl, hs1, hs2, hs3, hs4, hs5⟩; obtain ⟨w8, hrun, hc7, hc8, HR8⟩ := HR.out.step hlt (by omega) hs2 hs3 hs4 hs5; clear hs1 hs2 hs3 hs4 hs5))
              go_wp2
              go_roundw
              case rel => exact ⟨k + 1, _, by omega, by go_num, HR8⟩
              case measure => simp [intOf]; omega
            · have hke : k = len := by omega
              subst hke
              go_wp2
              go_meet
              case rel => exact ⟨f, HR⟩
        case rest =>
          obtain ⟨f, HR⟩ := hcut
          obtain ⟨w7, hw7⟩ : ∃ w7, w7 = wc := ⟨_, rfl⟩
          subst hw7
          clear HD
          go_wp2_with fail
          refine (fork_any w7 F).mono ?_
          rintro e w8 ⟨rfl, rfl⟩
          have hmm := @run_makeMap Edbg.prog
          go_upto_block 4 with fail
          clear hmm
          have hD := L3.start HR.out
          generalize (((w7.alloc (.map #[] 0)).alloc (.cells #[.pointer (some ⟨F, 0, none⟩), .bool false, .map (some w7.heap.size), .int .i64 0, .int .i64 0, .slice none 0 0, .slice none 0 0] 46)).alloc (.map #[] 0)) = w9 at *
          generalize w7.heap.size + 1 + 1 + 1 = base at *
          generalize w7.heap.size + 1 + 1 = m1 at *
          generalize w7.heap.size + 1 = G at *
          generalize w7.heap.size = mg at *
          have HD := hid hD
          clear HR hD
          go_cut [12] from 71 to 175 (fun s12 wz => ∃ (c : Nat) (fa : Option Addr) (fc : Nat) (g : List UInt8 → Option Value) (xs : List Value), c ≤ len ∧ s12 = .int .i64 c ∧ Hid (L3 w wz na len nb S F mf mL R f G mg m1 base c c fa fc g g xs))
          case first =>
            go_wp2
            go_loopw [12, 13] (fun kk i wr => ∃ (k c : Nat) (fa : Option Addr) (fc : Nat) (g : List UInt8 → Option Value) (xs : List Value), k ≤ len ∧ c ≤ k ∧ i = .int .i64 k ∧ kk = .int .i64 c ∧ Hid (L3 w wr na len nb S F mf mL R f G mg m1 base c c fa fc g g xs)) (fun _ i _ => len - (intOf i).toNat)
            case atStart => exact ⟨0, 0, none, 0, _, [], by omega, by omega, rfl, rfl, HD⟩
            case round =>
              clear HD
              obtain ⟨k, c, fa, fc, g, xs, hk, hck, rfl, rfl, HR⟩ := hrel
              by_cases hlt : k < len
              · obtain ⟨ha, hrow, hsz⟩ := HR.out.names k hlt
                have hc := hrow.cell hlt
                have hix := fun w => idx_at (cap := nc) Edbg.underlying22 size9 ha hlt w
                simp only [Nat.zero_add] at hix
                obtain ⟨s, ix, hf, hSy⟩ := HR.out.find hlt
                clear ha hrow
                by_cases hg : g (S k).data.toList = none
                · have HRes := hid (res_outer wr G mg 0 0 (.slice fa c fc) c g F (.pointer (some ⟨R, 0, none⟩)) mf len len (.slice none 0 0) len f s (S k) ix base c xs HR.out.tabG HR.out.mapG hg HR.out.tab HR.out.map hf hSy HR.out.row HR.out.lo (by omega) (by omega) hsz)
                  have Hg := hid hg
                  have Hf := hid hf
                  clear hg hf hSy
                  go_wp2_with fail
                  refine HRes.out.mono ?_
                  rintro e w2 ⟨r, fv2, rfl, -, hS2, hT2, hrow2, hM2, fr2⟩
                  clear HRes hc hix
                  obtain ⟨fa', fc', -, hD2⟩ := HR.out.step hS2 hT2 hrow2 hM2 fr2
                  clear hT2 hrow2 hM2 fr2 HR
                  obtain ⟨s', ix', hf', hSy⟩ := hD2.find hlt
                  have hss : s' = s := by rw [Hf.out] at hf'; cases hf'; rfl
                  subst hss
                  have r0 : w2.cell? ⟨r, 0, none⟩ = some (.string (S k)) := by rw [cellAt hS2]; rfl
                  have r1 : w2.cell? ⟨r, 1, none⟩ = some (.string ⟨#[70, 82, 69, 69]⟩) := by rw [cellAt hS2]; rfl
                  have r2 : w2.cell? ⟨r, 2, none⟩ = some (.int .i64 c) := by rw [cellAt hS2]; rfl
                  have r3 : w2.cell? ⟨r, 3, none⟩ = some (.bool false) := by rw [cellAt hS2]; rfl
                  have s1 : w2.cell? ⟨s', 1, none⟩ = some (.string ⟨#[76, 79, 67, 65, 76]⟩) := by rw [cellAt hSy]; rfl
                  have hlk := hD2.first.lookOk Edbg.underlying42 (zero30 w2) hsz
                  rw [Hg.out] at hlk
                  simp only [Option.getD_none, Option.isSome_none] at hlk
                  have hll : ∀ q, (Instr.lookup 42 (.map (some mL)) (.string (S k)) false).run Edbg.prog (w2.drewN q) = .ok (.pointer (some ⟨s', 0, none⟩)) (w2.drewN q) := fun q => by
                    have := (hD2.last.of_block (w' := w2.drewN q) rfl).look Edbg.underlying42 (zero30 (w2.drewN q)) hsz
                    rw [hf'] at this
                    exact this
                  obtain ⟨gg, hfa, hgc⟩ := hD2.tail
                  have hixf := fun w => idx_at (cap := fc') (i := c) (len := c + 1) Edbg.underlying29 size30 hfa (by omega) w
                  simp only [Nat.zero_add] at hixf
                  have hnq := fun w => neq_same w s'
                  have HFree := hid (free_any w2 G (.pointer (some ⟨F, 0, none⟩)) mg 0 0 (.slice fa' (c + 1) fc') hD2.tabG)
                  have HD2 := hid hD2
                  clear hD2 hS2 hSy hf' Hf Hg hfa
                  go_wp2_with fail
                  refine HFree.out.mono ?_
                  rintro e w3 ⟨rfl, hw3⟩
                  replace hw3 := hw3.symm
                  subst hw3
                  clear HFree r0 r1 r2 r3 hlk
                  go_upto_region 42 with fail
                  go_quiet (fail)
                  go_upto_region 46 with fail
                  clear hll hixf hgc s1 hnq
                  obtain ⟨w5, hrun, hM5, hturn⟩ := MapAt.store (w := w2.drewN nq) (HD2.out.first.of_block rfl) Edbg.underlying42 (by unfold maxLen; omega) hsz (.pointer (some ⟨r, 0, none⟩))
                  have HD5 := hid ((HD2.out.drewN nq).put hM5 hturn)
                  clear hM5 hturn HD2
                  go_wp2
                  go_roundw
                  case rel => exact ⟨k + 1, c + 1, fa', fc', _, _, by omega, by omega, by go_num, by go_num, HD5⟩
                  case measure => simp [intOf]; omega
                · obtain ⟨v, hgv⟩ : ∃ v, g (S k).data.toList = some v := by
                    cases hv : g (S k).data.toList with
                    | none => exact absurd hv hg
                    | some v => exact ⟨v, rfl⟩
                  obtain ⟨s2, nm, ix2, hv, hS2⟩ := HR.out.frees _ v hgv
                  subst hv
                  have HRes := hid (res_free wr G (.pointer (some ⟨F, 0, none⟩)) mg 0 0 (.slice fa c fc) c g s2 (S k) nm ix2 HR.out.tabG HR.out.mapG hgv hS2 hsz)
                  have hlk := HR.out.first.lookOk Edbg.underlying42 (zero30 wr) hsz
                  rw [hgv] at hlk
                  simp only [Option.getD_some, Option.isSome_some] at hlk
                  have hnq := fun w => neq_same w s2
                  have HFree := hid (free_any wr G (.pointer (some ⟨F, 0, none⟩)) mg 0 0 (.slice fa c fc) HR.out.tabG)
                  clear hg hgv hS2 hf hSy
                  go_wp2_with fail
                  refine HRes.out.mono ?_
                  rintro e w2 ⟨rfl, hw2⟩
                  replace hw2 := hw2.symm
                  subst hw2
                  clear HRes hc hix
                  go_wp2_with fail
                  refine HFree.out.mono ?_
                  rintro e w3 ⟨rfl, hw3⟩
                  replace hw3 := hw3.symm
                  subst hw3
                  clear HFree hlk hnq
                  go_wp2
                  go_roundw
                  case rel => exact ⟨k + 1, c, fa, fc, g, xs, by omega, by omega, by go_num, rfl, HR⟩
                  case measure => simp [intOf]; omega
              · go_wp2
                go_meet
                case rel => exact ⟨c, fa, fc, g, xs, by omega, rfl, HR⟩
          case rest =>
            obtain ⟨c, fa, fc, g, xs, hcl, rfl, HR⟩ := hcut
            obtain ⟨w10, hw10⟩ : ∃ w10, w10 = wc := ⟨_, rfl⟩
            subst hw10
            clear HD
            go_wp2_with fail
            refine (free_any w10 G (.pointer (some ⟨F, 0, none⟩)) mg 0 0 (.slice fa c fc) HR.out.tabG).mono ?_
            rintro e w11 ⟨rfl, hw11⟩
            replace hw11 := hw11.symm
            subst hw11
            go_wp2_with fail
            refine (free_any w10 F (.pointer (some ⟨R, 0, none⟩)) mf len len (.slice none 0 0) HR.out.tab).mono ?_
            rintro e w11 ⟨rfl, hw11⟩
            replace hw11 := hw11.symm
            subst hw11
            go_wp2
            go_ret
            exact ⟨rfl, HR.out.fr⟩

end Go.Proofs.Yoedbw
