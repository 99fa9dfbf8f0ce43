/- The law FnFromFloat: for every input the call returns true, and each argument reads afterwards as it read before: the row and its tied card, out of the walk fnFromFloat_law. Conditions: those of the given row alone. -/
import Derived.Test.YtfbdjffpnioinaaDoorPowArg
import Derived.Test.YtfbdjffpnioinaaDoorArgs
import Derived.Test.YtfbdjffpnioinaaDoorLFrom
import Derived.Test.YtfbdjffpnioinaaDoorCards
import Derived.Test.YtfbdjffpnioinaaDoorTie
import Derived.SevenTiedAt
namespace Go.Proofs.YtfbdjffpnioinaaDoor
open Go.ChangeShapes Go.WideShapes Go.ChangeAt Go.RowKit
open Go.ChangeMaps (open_string shut_string)
namespace LawFnFromFloat
set_option maxRecDepth 100000 in
set_option maxHeartbeats 1000000 in
theorem lifted (os : Os) (started : os.Started) (H : Type) (enc : TypeId × Value → H) :
    ReturnsInHanded {} Tryd.checked os 3 .any (fun w args => (Rows.fnFromFloatSpec.pre enc Tryd.prog Tryd.f3 [] false w args ∧ laidMetH Tryd.prog Rows.fnFromFloatRow.laid w) ∧ sizedMet enc Tryd.prog Tryd.f3 (OpenSpec.ofChange Rows.fnFromFloatSpec) false w args)
      (Rows.fnFromFloatSpec.post enc Tryd.prog Tryd.f3 false true false false) := by
  refine returnsInHanded_of_change_and (C := Tryd.checked) (X := fun w _ => laidMetH Tryd.prog Rows.fnFromFloatRow.laid w) (fun _ _ _ hh h => h.of_heap hh) own started (by kernel_rfl) Tryd.func3
    (ChangeSpec.witness_shaped (enc := enc) (C := Tryd.checked) (os := os) (X := fun w _ => laidMetH Tryd.prog Rows.fnFromFloatRow.laid w) false (World.laidAll Tryd.prog os Rows.fnFromFloatRow.laid) #[.int .u64 0, .string ⟨#[]⟩] 8 (World.laidAll_os _ _ _)
      (World.shaped_of_ZipB (by kernel_rfl) (by kernel_rfl)) (by kernel_rfl) (by kernel_rfl) (by kernel_rfl)
      (by rw [MakeChecks.laidMetH_plain _ _ _ (by kernel_rfl)]; exact laidMet_laidAll _ (by kernel_rfl) (by kernel_rfl))) ?_
  intro W base args ds gs before hval0 hW _ _ hL _
  have hval : ∀ (j : Nat) t v, Tryd.f3.params[j]? = some t → args[j]? = some v → Value.okWide Tryd.prog W .any base t v := hval0
  have hW' := hW
  obtain ⟨p, q, hA0, hV, rfl, _, _⟩ := hW
  have hA : DataW.TrodAll enc Tryd.prog W 0 (fun _ => true) true Tryd.f3.params.toList args.toList ds p := hA0
  have hAk := hA
  rw [Tryd.params3] at hA hval
  obtain ⟨v0, vs0, d0, ds0, p0, q0, hargs, rfl, rfl, h0, r0⟩ := trodAll_cons hA
  obtain ⟨v1, vs1, d1, ds1, p1, q1, rfl, rfl, rfl, h1, r1⟩ := trodAll_cons r0
  obtain ⟨rfl, rfl, rfl⟩ := trodAll_nil r1
  obtain ⟨g1, rfl⟩ := one_var hV
  obtain ⟨args⟩ := args
  simp only at hargs
  subst hargs
  obtain ⟨x0, rfl, rfl, rfl, wx0⟩ := open_int Tryd.underlying22 (hval 0 22 v0 rfl rfl) h0
  have bx0 := bounds_u64 wx0
  obtain ⟨x1, rfl, rfl, rfl, wx1⟩ := open_string Tryd.underlying9 (hval 1 9 v1 rfl rfl) h1
  simp only [List.append_nil] at hW' hAk
  rw [MakeChecks.laidMetH_plain _ _ _ (by kernel_rfl)] at hL
  have hE : ErrAt W := errAt_of hL _ _ (by simp only [Rows.fnFromFloatRow]; exact List.mem_of_getElem? (i := 4) rfl)
  have hT : PowAt W := powAt_of hL (by simp only [Rows.fnFromFloatRow]; exact List.mem_of_getElem? (i := 1) rfl) (by simp only [Rows.fnFromFloatRow]; exact List.mem_of_getElem? (i := 2) rfl)
  refine (fnFromFloat_law x0 x1 W bx0.1 bx0.2 wx1 hE hT).mono fun e W' ⟨he, hb⟩ => ?_
  subst he
  exact ⟨_, rfl, _, _, _, [], _, _, hW', trodAll_mk1 (shut_bool Tryd.underlying4 _), below_trodAll hb (by kernel_rfl) hAk (fun x hx => hW'.lt x (List.mem_append_left _ hx)), hb.trodVars laidOut (by kernel_rfl) hV, hb.frame _, fun h => by cases h⟩

theorem said : Rows.FnFromFloatSaid :=
  OpenClaim.holds_of_wide 3 Tryd.f3 rfl rfl rfl rfl rfl rfl rfl ⟨rfl, rfl, rfl, rfl, rfl⟩ rfl rfl rfl rfl rfl (by kernel_rfl) Tryd.func3 (by kernel_rfl)
    (of_decide_eq_true (by kernel_rfl)) (by unfold Func.isWrapper; first | (rw [if_pos (by decide +kernel)]; kernel_rfl) | (rw [if_neg (by decide +kernel)]; exact ⟨rfl, rfl⟩))
    (fun os started H enc _ => lifted os started H enc)
theorem card : Rows.FnFromFloatCardSaid :=
  Claim7.holds_tied_plain_at .later [] [.data, .data, .data, .data, .sentinel, .pinned, .pinned] true (true, "4a5d3a0736a6d859a80a5f42a46cb759ef24680e4d99fdbeaa4af596c80365b4") false said (fun _ h => by cases h) (by kernel_rfl) (fun _ h => by cases h) fnFromFloat_row_tie rfl ⟨rfl, rfl⟩ (by kernel_rfl) rfl
    (fun f fn hf hfn => by
      obtain rfl : f = 3 := Option.some.inj ((show Tryd.prog.funcNamed "loop.example/pub-g03265/laws.FnFromFloat" = some 3 by kernel_rfl).symm.trans hf) |>.symm
      obtain rfl : fn = Tryd.f3 := (Option.some.inj (Tryd.func3.symm.trans hfn)).symm
      exact ⟨by kernel_rfl, fun j t ht => by
        rw [Tryd.params3] at ht
        have hm : t ∈ [22, 9] := by simpa using Array.mem_of_getElem? ht
        have hall : ([22, 9].all fun u => !Tryd.prog.wantsStandIn u) = true := by kernel_rfl
        exact (show Tryd.prog.wantsStandIn t = false by simpa using List.all_eq_true.1 hall t hm)⟩)
    (by kernel_rfl)
#print axioms card
end LawFnFromFloat
end Go.Proofs.YtfbdjffpnioinaaDoor
