/- The law FnJSON: for every input the call returns true, and each argument reads afterwards as it read before: the row and its tied card, out of the walk fnJSON_law. Conditions: those of the given row alone. -/
import Derived.Test.YteejhpoddpcahaaDoorCoinArg
import Derived.Test.YteejhpoddpcahaaDoorKit
import Derived.Test.YteejhpoddpcahaaDoorLJson
import Derived.Test.YteejhpoddpcahaaDoorCards
import Derived.Test.YteejhpoddpcahaaDoorTie
import Derived.SevenTiedAt
namespace Go.Proofs.YteejhpoddpcahaaDoor
open Go.ChangeShapes Go.WideShapes Go.ChangeAt Go.RowKit
open Go.ChangeMaps (open_string shut_string)
namespace LawFnJSON
set_option maxRecDepth 100000 in
set_option maxHeartbeats 1000000 in
theorem lifted (os : Os) (started : os.Started) (H : Type) (enc : TypeId × Value → H) :
    ReturnsInHanded {} Tryd.checked os 10 .any (fun w args => (Rows.fnJSONSpec.pre enc Tryd.prog Tryd.f10 [] false w args ∧ laidMetH Tryd.prog Rows.fnJSONRow.laid w) ∧ sizedMet enc Tryd.prog Tryd.f10 (OpenSpec.ofChange Rows.fnJSONSpec) false w args)
      (Rows.fnJSONSpec.post enc Tryd.prog Tryd.f10 false true false false) := by
  refine returnsInHanded_of_change_and (C := Tryd.checked) (X := fun w _ => laidMetH Tryd.prog Rows.fnJSONRow.laid w) (fun _ _ _ hh h => h.of_heap hh) own started (by kernel_rfl) Tryd.func10
    (ChangeSpec.witness_shaped (enc := enc) (C := Tryd.checked) (os := os) (X := fun w _ => laidMetH Tryd.prog Rows.fnJSONRow.laid w) false (World.laidAll Tryd.prog os Rows.fnJSONRow.laid) #[.int .i64 0, .string ⟨#[]⟩] 8 (World.laidAll_os _ _ _)
      (World.shaped_of_ZipB (by kernel_rfl) (by kernel_rfl)) (by kernel_rfl) (by kernel_rfl) (by kernel_rfl)
      (by rw [MakeChecks.laidMetH_plain _ _ _ (by kernel_rfl)]; exact laidMet_laidAll _ (by kernel_rfl) (by kernel_rfl))) ?_
  intro W base args ds gs before hval0 hW _ _ hL _
  have hval : ∀ (j : Nat) t v, Tryd.f10.params[j]? = some t → args[j]? = some v → Value.okWide Tryd.prog W .any base t v := hval0
  have hW' := hW
  obtain ⟨p, q, hA0, hV, rfl, _, _⟩ := hW
  have hA : DataW.TrodAll enc Tryd.prog W 0 (fun _ => true) true Tryd.f10.params.toList args.toList ds p := hA0
  have hAk := hA
  rw [Tryd.params10] at hA hval
  obtain ⟨v0, vs0, d0, ds0, p0, q0, hargs, rfl, rfl, h0, r0⟩ := trodAll_cons hA
  obtain ⟨v1, vs1, d1, ds1, p1, q1, rfl, rfl, rfl, h1, r1⟩ := trodAll_cons r0
  obtain ⟨rfl, rfl, rfl⟩ := trodAll_nil r1
  obtain ⟨rfl, rfl⟩ := trodVars_none hV
  obtain ⟨args⟩ := args
  simp only at hargs
  subst hargs
  obtain ⟨x0, rfl, rfl, rfl, wx0⟩ := open_int Tryd.underlying2 (hval 0 2 v0 rfl rfl) h0
  have bx0 := bounds_i64 wx0
  obtain ⟨x1, rfl, rfl, rfl, wx1⟩ := open_string Tryd.underlying9 (hval 1 9 v1 rfl rfl) h1
  simp only [List.append_nil] at hW' hAk
  rw [MakeChecks.laidMetH_plain _ _ _ (by kernel_rfl)] at hL
  have hT : TabAt W := tabAt_of hL (by simp only [Rows.fnJSONRow]; exact List.mem_of_getElem? (i := 2) rfl)
  refine (fnJSON_law x0 x1 W bx0.1 bx0.2 wx1 hT).mono fun e W' ⟨he, hb⟩ => ?_
  subst he
  exact ⟨_, rfl, _, _, _, [], _, [], hW', trodAll_mk1 (shut_bool Tryd.underlying4 _), below_trodAll hb (by kernel_rfl) hAk (fun x hx => hW'.lt x hx), rfl, hb.frame _, fun h => by cases h⟩

theorem said : Rows.FnJSONSaid :=
  OpenClaim.holds_of_wide 10 Tryd.f10 rfl rfl rfl rfl rfl rfl rfl ⟨rfl, rfl, rfl, rfl, rfl⟩ rfl rfl rfl rfl rfl (by kernel_rfl) Tryd.func10 (by kernel_rfl)
    (of_decide_eq_true (by kernel_rfl)) (by unfold Func.isWrapper; first | (rw [if_pos (by decide +kernel)]; kernel_rfl) | (rw [if_neg (by decide +kernel)]; exact ⟨rfl, rfl⟩))
    (fun os started H enc _ => lifted os started H enc)
theorem card : Rows.FnJSONCardSaid :=
  Claim7.holds_tied_plain_at .later [] [.data, .data, .data, .data, .pinned, .pinned] true (true, "09beddd331c8768c23d2860c62ba2b1b3afa34472282f6c43f8f5300b4060fdf") false said (fun _ h => by cases h) (by kernel_rfl) (fun _ h => by cases h) fnJSON_row_tie rfl ⟨rfl, rfl⟩ (by kernel_rfl) rfl
    (fun f fn hf hfn => by
      obtain rfl : f = 10 := Option.some.inj ((show Tryd.prog.funcNamed "loop.example/pub-g03265/laws.FnJSON" = some 10 by kernel_rfl).symm.trans hf) |>.symm
      obtain rfl : fn = Tryd.f10 := (Option.some.inj (Tryd.func10.symm.trans hfn)).symm
      exact ⟨by kernel_rfl, fun j t ht => by
        rw [Tryd.params10] at ht
        have hm : t ∈ [2, 9] := by simpa using Array.mem_of_getElem? ht
        have hall : ([2, 9].all fun u => !Tryd.prog.wantsStandIn u) = true := by kernel_rfl
        exact (show Tryd.prog.wantsStandIn t = false by simpa using List.all_eq_true.1 hall t hm)⟩)
    (by kernel_rfl)
#print axioms card
end LawFnJSON
end Go.Proofs.YteejhpoddpcahaaDoor
