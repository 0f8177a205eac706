/- FnTimeBack: the row, out of the walk. No condition beside the form's own. -/
import Derived.Test.YtdilealdddbhnaaRows
import Derived.Test.YtdilealdddbhnaaTime
import Derived.WalkKit
import Derived.ProofKit
import Derived.OpenShut
import Derived.ShutString
import Derived.ChangeOld
import Derived.Below
import Derived.SizedLaws
import Derived.Carry
import Derived.Lib.SmallJoins
set_option linter.unusedVariables false
namespace Go.Proofs.Ytdilealdddbhnaa.fnTimeBack
open Go.ChangeShapes Go.WideShapes Go.ChangeAt Go.RowKit
open Go.ChangeMaps (open_string shut_string)
theorem own : ownKnob Try.prog.godebug = none := by kernel_rfl
theorem laidOut : laidOutB Try.prog = true := by kernel_rfl
set_option maxRecDepth 100000 in
theorem lifted (os : Os) (started : os.Started) (H : Type) (enc : TypeId × Value → H) :
    ReturnsInHanded {} Try.checked os 7 .any (Rows.fnTimeBackSpec.pre6 enc Try.prog Try.f7 Rows.fnTimeBackRow.domain false) (Rows.fnTimeBackSpec.post enc Try.prog Try.f7 false true false false) := by
  refine returnsInHanded_of_change_sized (C := Try.checked) own started (by kernel_rfl) Try.func7
    (ChangeSpec.witness6 (enc := enc) (C := Try.checked) false ⟨#[], #[.agg #[.bool false, .int .i64 0, .int .i64 0]], []⟩ 8 (by kernel_rfl) (by kernel_rfl) (by kernel_rfl) (by kernel_rfl)) ?_
  intro W base args ds gs before hval0 hW hcnd hsz0 _
  have hsz : (DataW.weightsEach Try.prog (Try.f7.params.toList ++ Rows.fnTimeBackSpec.plain.varTypes Try.prog) (ds ++ gs)).all (· ≤ reachBytes) = true := hsz0
  have hval : ∀ (j : Nat) t v, Try.f7.params[j]? = some t → args[j]? = some v → Value.okWide Try.prog W .any base t v := hval0
  have hW' := hW
  obtain ⟨p, q, hA0, hV, rfl, hfz, hnd⟩ := hW
  have hA : DataW.TrodAll enc Try.prog W 0 (fun _ => true) true Try.f7.params.toList args.toList ds p := hA0
  rw [Try.params7] at hA hval hsz
  obtain ⟨v0, vs0, d0, ds0, p0, q0, hargs, rfl, rfl, h0, r0⟩ := trodAll_cons hA
  obtain ⟨rfl, rfl, rfl⟩ := trodAll_nil r0
  obtain rfl : args = #[v0] := by cases args; simp_all
  obtain ⟨rfl, rfl⟩ := trodVars_none hV
  have k0 := h0
  have lt0 : ∀ x ∈ p0, x.block < W.heap.size := by obtain ⟨m, hm⟩ := k0; exact DataW.trod_lt m _ _ _ hm
  obtain ⟨c0_0, c0_1, c0_2, y0_0, y0_1, y0_2, m0, rfl, ed0, ep0, g0_0, g0_1, g0_2⟩ := Go.Joins.open_agg3 Try.underlying36 (by kernel_rfl) (by kernel_rfl) (hval 0 36 v0 rfl rfl) h0
  obtain ⟨a0_0, e0_0, _⟩ := DataW.trod_bool Try.underlying4 g0_0
  simp only [List.cons.injEq, and_true] at e0_0
  subst e0_0
  obtain ⟨a0_1, e0_1, _, w0_1⟩ := DataW.trod_int Try.underlying2 g0_1
  simp only [List.cons.injEq, and_true] at e0_1
  subst e0_1
  obtain ⟨a0_2, e0_2, _, w0_2⟩ := DataW.trod_int Try.underlying3 g0_2
  simp only [List.cons.injEq, and_true] at e0_2
  subst e0_2
  clear hA0 hval0 hsz0 hsz
  refine Calls.mono (X.FnTimeBack_walk a0_0 a0_1 a0_2 W w0_1 w0_2) fun e W' ⟨v, he, hv, bel⟩ => ?_
  subst he hv
  exact ⟨_, rfl, _, _, _, [], _, [], hW', trodAll_mk1 (shut_bool Try.underlying4 _), (trodAll_cons_mk (Below.trod laidOut (by kernel_rfl) (of_decide_eq_true (by kernel_rfl)) k0 bel lt0) trodAll_mk0), rfl, bel.frame _, fun h => by cases h⟩
theorem over : Rows.fnTimeBackRow.holds Try.pinned (OpenSpec.ofChange Rows.fnTimeBackSpec) :=
  OpenClaim.holds_of_wide 7 Try.f7 rfl rfl rfl rfl rfl rfl rfl ⟨rfl, rfl, rfl, rfl, rfl⟩ rfl rfl rfl rfl rfl (by kernel_rfl) Try.func7 (by kernel_rfl)
    (of_decide_eq_true (by kernel_rfl)) (by unfold Func.isWrapper; first | (rw [if_pos (by decide +kernel)]; kernel_rfl) | (rw [if_neg (by decide +kernel)]; exact ⟨rfl, rfl⟩))
    (fun os started H enc _ => lifted os started H enc)
theorem proved : Rows.FnTimeBackSaid := over
end Go.Proofs.Ytdilealdddbhnaa.fnTimeBack
namespace Go.Proofs.Ytdilealdddbhnaa
/-- The row, under a short name, for the claim. -/
theorem fnTimeBack_holds : Rows.FnTimeBackSaid := fnTimeBack.proved
#print axioms fnTimeBack_holds
end Go.Proofs.Ytdilealdddbhnaa
