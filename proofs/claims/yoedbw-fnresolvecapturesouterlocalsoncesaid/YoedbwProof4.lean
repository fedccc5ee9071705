import Derived.Test.YoedbwW9
import Derived.Test.YoedbwArgs
namespace Go.Proofs.Yoedbw
open Go.ChangeShapes Go.WideShapes Go.ChangeAt Go.RowKit

set_option maxRecDepth 100000 in
theorem lifted4 (os : Os) (started : os.Started) (H : Type) (enc : TypeId × Value → H) :
    ReturnsInHanded {} Edbg.checked os 4 .any (Rows.fnResolveCapturesOuterLocalsOnceSpec.pre6 enc Edbg.prog Edbg.f4 Rows.fnResolveCapturesOuterLocalsOnceRow.domain false) (Rows.fnResolveCapturesOuterLocalsOnceSpec.post enc Edbg.prog Edbg.f4 false true false false) := by
  refine returnsInHanded_of_change (C := Edbg.checked) own started (by kernel_rfl) Edbg.func4
    (ChangeSpec.witness6 (enc := enc) (C := Edbg.checked) false ⟨#[], #[.slice none 0 0], []⟩ 8 (by kernel_rfl) (by kernel_rfl) (by kernel_rfl) (by kernel_rfl)) ?_
  intro W base args ds gs before hval0 hW hcnd _
  have hval : ∀ (j : Nat) t v, Edbg.f4.params[j]? = some t → args[j]? = some v → Value.okWide Edbg.prog W .any base t v := hval0
  have hW' := hW
  obtain ⟨p, q, hA0, hV, rfl, hfz, hnd⟩ := hW
  have hA : DataW.TrodAll enc Edbg.prog W 0 (fun _ => true) true Edbg.f4.params.toList args.toList ds p := hA0
  rw [Edbg.params4] at hA hval
  obtain ⟨v0, vs0, d0, ds0, p0, q0, hargs, rfl, rfl, h0, r0⟩ := trodAll_cons hA
  obtain ⟨rfl, rfl, rfl⟩ := trodAll_nil r0
  obtain rfl : args = #[v0] := by cases args; simp_all
  obtain ⟨rfl, rfl⟩ := trodVars_none hV
  obtain ⟨a0, len0, cap0, rfl⟩ := okWide_slice Edbg.underlying22 (hval 0 22 v0 rfl rfl)
  have k0 := h0
  have lt0 : ∀ x ∈ p0, x.block < W.heap.size := by obtain ⟨m, hm⟩ := k0; exact DataW.trod_lt m _ _ _ hm
  obtain ⟨b, off, S, hS, hl, hn⟩ := strArg h0
  clear hA0 hval0
  refine (walk4 W a0 len0 cap0 b off S hS hl hn).mono fun e W' ⟨he, hfr⟩ => ?_
  have bel := hfr.toBelow
  subst he
  exact ⟨_, rfl, _, _, _, [], _, [], hW', trodAll_mk1 (shut_bool Edbg.underlying4 _), (trodAll_cons_mk (Below.trod laidOut (by kernel_rfl) (of_decide_eq_true (by kernel_rfl)) k0 bel lt0) trodAll_mk0), rfl, bel.frame _, fun h => by cases h⟩

/-- THE STATEMENT. -/
theorem resolveCaptures : Rows.FnResolveCapturesOuterLocalsOnceSaid :=
  OpenClaim.holds_of_wide 4 Edbg.f4 rfl rfl rfl rfl rfl rfl rfl ⟨rfl, rfl, rfl, rfl, rfl⟩ rfl rfl rfl rfl rfl (by kernel_rfl) Edbg.func4 (by kernel_rfl)
    (of_decide_eq_true (by kernel_rfl)) (by unfold Func.isWrapper; first | (rw [if_pos (by decide +kernel)]; kernel_rfl) | (rw [if_neg (by decide +kernel)]; exact ⟨rfl, rfl⟩))
    (fun os started H enc _ => lifted4 os started H enc)

end Go.Proofs.Yoedbw
