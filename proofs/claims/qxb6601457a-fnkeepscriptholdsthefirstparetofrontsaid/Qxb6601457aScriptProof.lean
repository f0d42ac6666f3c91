/-
  'Rows.FnKeepScriptHoldsTheFirstParetoFrontSaid': the row's step over the walk of the law (Qxb6601457aScrF).
-/
import Derived.Test.Qxb6601457aScrF
import Derived.Test.Qxb6601457aOpen
import Derived.ProofKit
import Derived.OpenShut
import Derived.ShutString
import Derived.ChangeOld
namespace Go.Proofs.Qxb6601457a
set_option linter.unusedSimpArgs false
set_option linter.unusedVariables false
open Go.ChangeShapes Go.WideShapes Go.ChangeAt Go.RowKit

theorem okLab0 : okLab lab0 := ⟨by kernel_rfl, by kernel_rfl, by kernel_rfl⟩

set_option maxRecDepth 100000 in
theorem script_lifted (os : Os) (started : os.Started) (H : Type) (enc : TypeId × Value → H) :
    ReturnsInHanded {} Try.checked os 6 .any (Rows.fnKeepScriptHoldsTheFirstParetoFrontSpec.pre6 enc Try.prog Try.f6 Rows.fnKeepScriptHoldsTheFirstParetoFrontRow.domain false) (Rows.fnKeepScriptHoldsTheFirstParetoFrontSpec.post enc Try.prog Try.f6 false true false false) := by
  refine returnsInHanded_of_change (C := Try.checked) Try.own started (by kernel_rfl) Try.func6
    (ChangeSpec.witness6 (enc := enc) (C := Try.checked) false ⟨#[], #[.slice none 0 0], []⟩ 8 (by kernel_rfl) (by kernel_rfl) (by kernel_rfl) (by kernel_rfl)) ?_
  intro W base args ds gs before hval0 hW hcnd _
  have hval : ∀ (j : Nat) t v, Try.f6.params[j]? = some t → args[j]? = some v → Value.okWide Try.prog W .any base t v := hval0
  have hW' := hW
  obtain ⟨p, q, hA0, hV, rfl, hfz, hnd⟩ := hW
  have hA : DataW.TrodAll enc Try.prog W 0 (fun _ => true) true Try.f6.params.toList args.toList ds p := hA0
  rw [Try.params6] at hA hval
  obtain ⟨v0, vs0, d0, ds0, p0, q0, hargs, rfl, rfl, h0, r0⟩ := trodAll_cons hA
  obtain ⟨rfl, rfl, rfl⟩ := trodAll_nil r0
  obtain rfl : args = #[v0] := by cases args; simp_all
  obtain ⟨rfl, rfl⟩ := trodVars_none hV
  have lt0 : ∀ x ∈ p0, x.block < W.heap.size := by obtain ⟨m, hm⟩ := h0; exact DataW.trod_lt m _ _ _ hm
  obtain ⟨a0, len0, cap0, rfl⟩ := okWide_slice Try.underlying38 (hval 0 38 v0 rfl rfl)
  obtain ⟨bL, oL, ls, iL, hln, ml⟩ := open_labs h0
  have ml' : len0 ≤ 9223372036854775807 := by simp only [maxLen] at ml; omega
  clear hA0 hval0
  refine (script_walk a0 len0 cap0 bL oL (fun j => ls.getD j lab0) lab0 W ml' ⟨iL.ad, iL.cell⟩ (fun s hs => by
    have e : ls.getD s lab0 = lab0 := by rw [List.getD_eq_getElem?_getD, List.getElem?_eq_none (by omega)]; rfl
    simp only [e]; exact okLab0)).mono fun e W' ⟨he, bel⟩ => ?_
  subst he
  exact ⟨_, rfl, _, _, _, [], _, [], hW', trodAll_mk1 (shut_bool Try.underlying4 _),
    trodAll_cons_mk (Below.trod Try.laidOut (by kernel_rfl) (of_decide_eq_true (by kernel_rfl)) h0 bel lt0) trodAll_mk0, rfl, bel.frame _, fun h => by cases h⟩

theorem script_proved : Rows.FnKeepScriptHoldsTheFirstParetoFrontSaid :=
  OpenClaim.holds_of_wide 6 Try.f6 rfl rfl rfl rfl rfl rfl rfl ⟨rfl, rfl, rfl, rfl, rfl⟩ rfl rfl rfl rfl rfl (by kernel_rfl) Try.func6 (by kernel_rfl)
    (of_decide_eq_true (by kernel_rfl)) (by unfold Func.isWrapper; first | (rw [if_pos (by decide +kernel)]; kernel_rfl) | (rw [if_neg (by decide +kernel)]; exact ⟨rfl, rfl⟩))
    (fun os started H enc _ => script_lifted os started H enc)
#print axioms script_proved
end Go.Proofs.Qxb6601457a
