/- The law FnCodes: for every input the call returns true, and each argument reads afterwards as it read before: the row, out of the walk fnCodes_law. Conditions: those of the given row alone. -/
import Derived.Test.YthdgpoimbijgfaaKit
import Derived.Test.YthdgpoimbijgfaaLCodes
namespace Go.Proofs.Ythdgpoimbijgfaa
open Go.ChangeShapes Go.WideShapes Go.ChangeAt Go.RowKit
open Go.ChangeMaps (open_string shut_string)
namespace LawFnCodes
set_option maxRecDepth 100000 in
theorem lifted (os : Os) (started : os.Started) (H : Type) (enc : TypeId × Value → H) :
    ReturnsInHanded {} Try.checked os 3 .any (Rows.fnCodesSpec.pre6 enc Try.prog Try.f3 Rows.fnCodesRow.domain false)
      (Rows.fnCodesSpec.post enc Try.prog Try.f3 false true false false) := by
  refine returnsInHanded_of_change (C := Try.checked) own started (by kernel_rfl) Try.func3
    (ChangeSpec.witness6 (enc := enc) (C := Try.checked) false ⟨#[], #[.int .u16 0], []⟩ 8 (by kernel_rfl) (by kernel_rfl) (by kernel_rfl) (by kernel_rfl)) ?_
  intro W base args ds gs before hval0 hW _ _
  have hval : ∀ (j : Nat) t v, Try.f3.params[j]? = some t → args[j]? = some v → Value.okWide Try.prog W .any base t v := hval0
  have hW' := hW
  obtain ⟨p, q, hA0, hV, rfl, _, _⟩ := hW
  have hA : DataW.TrodAll enc Try.prog W 0 (fun _ => true) true Try.f3.params.toList args.toList ds p := hA0
  have hAk := hA
  rw [Try.params3] at hA hval
  obtain ⟨v0, vs0, d0, ds0, p0, q0, hargs, rfl, rfl, h0, r0⟩ := trodAll_cons hA
  obtain ⟨rfl, rfl, rfl⟩ := trodAll_nil r0
  obtain ⟨rfl, rfl⟩ := trodVars_none hV
  obtain ⟨args⟩ := args
  simp only at hargs
  subst hargs
  obtain ⟨x0, rfl, rfl, rfl, wx0⟩ := open_int Try.underlying22 (hval 0 22 v0 rfl rfl) h0
  have bx0 := bounds_u16 wx0
  simp only [List.append_nil] at hW' hAk
  refine (fnCodes_law x0 W bx0.1 bx0.2).mono fun e W' ⟨he, hb⟩ => ?_
  subst he
  exact ⟨_, rfl, _, _, _, [], _, [], hW', trodAll_mk1 (shut_bool Try.underlying4 _), below_trodAll hb (by kernel_rfl) hAk (fun x hx => hW'.lt x hx), rfl, hb.frame _, fun h => by cases h⟩

theorem said : Rows.FnCodesSaid :=
  OpenClaim.holds_of_wide 3 Try.f3 rfl rfl rfl rfl rfl rfl rfl ⟨rfl, rfl, rfl, rfl, rfl⟩ rfl rfl rfl rfl rfl (by kernel_rfl) Try.func3 (by kernel_rfl)
    (of_decide_eq_true (by kernel_rfl)) (by unfold Func.isWrapper; first | (rw [if_pos (by decide +kernel)]; kernel_rfl) | (rw [if_neg (by decide +kernel)]; exact ⟨rfl, rfl⟩))
    (fun os started H enc _ => lifted os started H enc)
#print axioms said
end LawFnCodes
end Go.Proofs.Ythdgpoimbijgfaa
