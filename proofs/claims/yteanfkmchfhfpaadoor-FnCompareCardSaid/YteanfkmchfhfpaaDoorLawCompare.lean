/- The law FnCompare: for every input the call returns true, and each argument reads afterwards as it read before: the row and its tied card, out of the walk fnCompare_law. Conditions: those of the given row alone. -/
import Derived.Test.YteanfkmchfhfpaaDoorArgs
import Derived.Test.YteanfkmchfhfpaaDoorLCmp
import Derived.Test.YteanfkmchfhfpaaDoorCards
import Derived.Test.YteanfkmchfhfpaaDoorTie
import Derived.SevenTiedAt
namespace Go.Proofs.YteanfkmchfhfpaaDoor
open Go.ChangeShapes Go.WideShapes Go.ChangeAt Go.RowKit
open Go.ChangeMaps (open_string shut_string)
namespace LawFnCompare
set_option maxRecDepth 100000 in
set_option maxHeartbeats 1000000 in
theorem lifted (os : Os) (started : os.Started) (H : Type) (enc : TypeId × Value → H) :
    ReturnsInHanded {} Tryd.checked os 12 .any (fun w args => (Rows.fnCompareSpec.pre enc Tryd.prog Tryd.f12 [] false w args ∧ laidMetH Tryd.prog Rows.fnCompareRow.laid w) ∧ sizedMet enc Tryd.prog Tryd.f12 (OpenSpec.ofChange Rows.fnCompareSpec) false w args)
      (Rows.fnCompareSpec.post enc Tryd.prog Tryd.f12 false true false false) := by
  refine returnsInHanded_of_change_and (C := Tryd.checked) (X := fun w _ => laidMetH Tryd.prog Rows.fnCompareRow.laid w) (fun _ _ _ hh h => h.of_heap hh) own started (by kernel_rfl) Tryd.func12
    (ChangeSpec.witness_shaped (enc := enc) (C := Tryd.checked) (os := os) (X := fun w _ => laidMetH Tryd.prog Rows.fnCompareRow.laid w) false (World.laidAll Tryd.prog os Rows.fnCompareRow.laid) #[.int .u8 0, .int .i64 0, .string ⟨#[]⟩, .int .i64 0, .string ⟨#[]⟩] 8 (World.laidAll_os _ _ _)
      (World.shaped_of_ZipB (by kernel_rfl) (by kernel_rfl)) (by kernel_rfl) (by kernel_rfl) (by kernel_rfl)
      (by rw [MakeChecks.laidMetH_plain _ _ _ (by kernel_rfl)]; exact laidMet_laidAll _ (by kernel_rfl) (by kernel_rfl))) ?_
  intro W base args ds gs before hval0 hW _ _ hL _
  have hval : ∀ (j : Nat) t v, Tryd.f12.params[j]? = some t → args[j]? = some v → Value.okWide Tryd.prog W .any base t v := hval0
  have hW' := hW
  obtain ⟨p, q, hA0, hV, rfl, _, _⟩ := hW
  have hA : DataW.TrodAll enc Tryd.prog W 0 (fun _ => true) true Tryd.f12.params.toList args.toList ds p := hA0
  have hAk := hA
  rw [Tryd.params12] at hA hval
  obtain ⟨v0, vs0, d0, ds0, p0, q0, hargs, rfl, rfl, h0, r0⟩ := trodAll_cons hA
  obtain ⟨v1, vs1, d1, ds1, p1, q1, rfl, rfl, rfl, h1, r1⟩ := trodAll_cons r0
  obtain ⟨v2, vs2, d2, ds2, p2, q2, rfl, rfl, rfl, h2, r2⟩ := trodAll_cons r1
  obtain ⟨v3, vs3, d3, ds3, p3, q3, rfl, rfl, rfl, h3, r3⟩ := trodAll_cons r2
  obtain ⟨v4, vs4, d4, ds4, p4, q4, rfl, rfl, rfl, h4, r4⟩ := trodAll_cons r3
  obtain ⟨rfl, rfl, rfl⟩ := trodAll_nil r4
  obtain ⟨g1, rfl⟩ := one_var hV
  obtain ⟨args⟩ := args
  simp only at hargs
  subst hargs
  obtain ⟨x0, rfl, rfl, rfl, wx0⟩ := open_int Tryd.underlying5 (hval 0 5 v0 rfl rfl) h0
  have bx0 := bounds_u8 wx0
  obtain ⟨x1, rfl, rfl, rfl, wx1⟩ := open_int Tryd.underlying2 (hval 1 2 v1 rfl rfl) h1
  have bx1 := bounds_i64 wx1
  obtain ⟨x2, rfl, rfl, rfl, wx2⟩ := open_string Tryd.underlying9 (hval 2 9 v2 rfl rfl) h2
  obtain ⟨x3, rfl, rfl, rfl, wx3⟩ := open_int Tryd.underlying2 (hval 3 2 v3 rfl rfl) h3
  have bx3 := bounds_i64 wx3
  obtain ⟨x4, rfl, rfl, rfl, wx4⟩ := open_string Tryd.underlying9 (hval 4 9 v4 rfl rfl) h4
  simp only [List.append_nil] at hW' hAk
  rw [MakeChecks.laidMetH_plain _ _ _ (by kernel_rfl)] at hL
  have hE : ErrAt W := errAt_of hL _ _ (by simp only [Rows.fnCompareRow]; exact List.mem_of_getElem? (i := 1) rfl)
  refine (fnCompare_law x0 x1 x2 x3 x4 W bx0.1 bx0.2 bx1.1 bx1.2 wx2 bx3.1 bx3.2 wx4 hE).mono fun e W' ⟨he, hb⟩ => ?_
  subst he
  exact ⟨_, rfl, _, _, _, [], _, _, hW', trodAll_mk1 (shut_bool Tryd.underlying4 _), below_trodAll hb (by kernel_rfl) hAk (fun x hx => hW'.lt x (List.mem_append_left _ hx)), hb.trodVars laidOut (by kernel_rfl) hV, hb.frame _, fun h => by cases h⟩

theorem said : Rows.FnCompareSaid :=
  OpenClaim.holds_of_wide 12 Tryd.f12 rfl rfl rfl rfl rfl rfl rfl ⟨rfl, rfl, rfl, rfl, rfl⟩ rfl rfl rfl rfl rfl (by kernel_rfl) Tryd.func12 (by kernel_rfl)
    (of_decide_eq_true (by kernel_rfl)) (by unfold Func.isWrapper; first | (rw [if_pos (by decide +kernel)]; kernel_rfl) | (rw [if_neg (by decide +kernel)]; exact ⟨rfl, rfl⟩))
    (fun os started H enc _ => lifted os started H enc)
theorem card : Rows.FnCompareCardSaid :=
  Claim7.holds_tied_plain_at .later [] [.data, .sentinel, .pinned, .pinned] true (true, "e98453e36a7bf04d0f13731a8b7fad47b4632498c1f9f3abd490f21bbf6295de") false said (fun _ h => by cases h) (by kernel_rfl) (fun _ h => by cases h) fnCompare_row_tie rfl ⟨rfl, rfl⟩ (by kernel_rfl) rfl
    (fun f fn hf hfn => by
      obtain rfl : f = 12 := Option.some.inj ((show Tryd.prog.funcNamed "loop.example/pub-g03265/laws.FnCompare" = some 12 by kernel_rfl).symm.trans hf) |>.symm
      obtain rfl : fn = Tryd.f12 := (Option.some.inj (Tryd.func12.symm.trans hfn)).symm
      exact ⟨by kernel_rfl, fun j t ht => by
        rw [Tryd.params12] at ht
        have hm : t ∈ [5, 2, 9, 2, 9] := by simpa using Array.mem_of_getElem? ht
        have hall : ([5, 2, 9, 2, 9].all fun u => !Tryd.prog.wantsStandIn u) = true := by kernel_rfl
        exact (show Tryd.prog.wantsStandIn t = false by simpa using List.all_eq_true.1 hall t hm)⟩)
    (by kernel_rfl)
#print axioms card
end LawFnCompare
end Go.Proofs.YteanfkmchfhfpaaDoor
