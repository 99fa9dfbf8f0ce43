/- laws.small, laws.ratios; FnAllocate and FnRatios, walked. -/
import Derived.Test.YteejhpoddpcahaaDoorImAlloc
namespace Go.Proofs.YteejhpoddpcahaaDoor
open Go.RowKit

def smallB (a : Int) : Bool := decide (-1000000000000000 ≤ a ∧ a ≤ 1000000000000000)
set_option maxHeartbeats 400000 in
theorem small_any (a : Int) (w : World) : Calls Tryd.prog 22 #[.int .i64 a] w fun e w' => e = .returned (.bool (smallB a)) ∧ w = w' := by
  go_enter Tryd.func22, Tryd.ntmps22
  go_wp2
  all_goals
    go_ret
    refine ⟨ret_bool ?_, rfl⟩
    unfold smallB
    first | exact (decide_eq_true (by omega)).symm | exact (decide_eq_false (by omega)).symm | (rw [decide_eq_decide]; omega)

/-- All ratios are from 0 to 1000. -/
def RatsOk (rs : List Int) : Prop := ∀ r ∈ rs, 0 ≤ r ∧ r ≤ 1000
instance (rs : List Int) : Decidable (RatsOk rs) := by unfold RatsOk; infer_instance
def ratsB (rs : List Int) : Bool := decide (RatsOk rs) && decide (1 ≤ rs.length ∧ rs.length ≤ 20)
theorem ratsB_ok {rs : List Int} (h : ratsB rs = true) : (∀ r ∈ rs, 0 ≤ r ∧ r ≤ 1000) ∧ 1 ≤ rs.length ∧ rs.length ≤ 20 := by
  unfold ratsB at h
  simp only [Bool.and_eq_true, decide_eq_true_eq] at h
  exact ⟨h.1, h.2.1, h.2.2⟩
theorem ratsB_bad {rs : List Int} {k : Nat} {r : Int} (h : rs[k]? = some r) (hr : r < 0 ∨ 1000 < r) : ratsB rs = false := by
  unfold ratsB
  have : ¬ RatsOk rs := fun h2 => by have := h2 r (List.mem_of_getElem? h); omega
  rw [decide_eq_false this]; rfl
theorem ratsB_end {rs : List Int} {k : Nat} (h : ∀ i, i < k → ∀ r, rs[i]? = some r → 0 ≤ r ∧ r ≤ 1000) (hk : rs.length ≤ k) : ratsB rs = decide (1 ≤ rs.length ∧ rs.length ≤ 20) := by
  unfold ratsB
  have : RatsOk rs := fun r hr => by
    obtain ⟨i, hi⟩ := List.getElem?_of_mem hr
    exact h i (by have := (List.getElem?_eq_some_iff.1 hi).1; omega) r hi
  rw [decide_eq_true this]; rfl

set_option maxRecDepth 100000 in
set_option maxHeartbeats 1000000 in
theorem ratios_any (B : Option Addr) (cp : Nat) (rs : List Int) (w : World) (hB : Cells w B (intV .i64 rs)) (hn : rs.length ≤ maxLen) :
    Calls Tryd.prog 23 #[.slice B rs.length cp] w fun e w' => e = .returned (.bool (ratsB rs)) ∧ w = w' := by
  unfold maxLen at hn
  have HC := Lib.hid hB
  clear hB
  go_enter Tryd.func23, Tryd.ntmps23
  go_wp2_with fail
  go_loop [7] (fun i => ∃ k : Nat, k ≤ rs.length ∧ i = .int .i64 k ∧ Hid (∀ i, i < k → ∀ r, rs[i]? = some r → 0 ≤ r ∧ r ≤ 1000)) (fun i => rs.length - (intOf i).toNat)
  case atStart => exact ⟨0, Nat.zero_le _, rfl, fun i hi => by omega⟩
  case round =>
    obtain ⟨k, hk, rfl, HN⟩ := hrel
    by_cases hlt : k < rs.length
    · obtain ⟨b, off, rfl⟩ := HC.out.addr (by simp [intV]; omega)
      have e1 := HC.out.at_ k _ (intV_get .i64 rs k hlt)
      have HG := Lib.hid (show rs[k]? = some rs[k] from List.getElem?_eq_getElem hlt)
      generalize rs[k] = r at *
      by_cases h1 : r < 0
      · have HV := Lib.hid (ratsB_bad HG.out (.inl h1))
        go_wp2_with fail
        go_ret
        exact ⟨ret_bool HV.out.symm, rfl⟩
      · by_cases h2 : 1000 < r
        · have HV := Lib.hid (ratsB_bad HG.out (.inr h2))
          go_wp2_with fail
          go_ret
          exact ⟨ret_bool HV.out.symm, rfl⟩
        · have HN2 : Hid (∀ i, i < k + 1 → ∀ r, rs[i]? = some r → 0 ≤ r ∧ r ≤ 1000) := by
            intro i hi x hx
            by_cases hik : i = k
            · subst hik
              have := HG.out.symm.trans hx
              simp only [Option.some.injEq] at this
              omega
            · exact HN.out i (by omega) x hx
          go_wp2_with fail
          exact ⟨⟨k + 1, by omega, by go_num, HN2⟩, by simp [intOf]; omega⟩
    · have HV := Lib.hid (ratsB_end HN.out (by omega))
      go_wp2
      all_goals
        go_ret
        refine ⟨ret_bool ?_, rfl⟩
        rw [HV.out]
        first | exact (decide_eq_true (by omega)).symm | exact (decide_eq_false (by omega)).symm | (rw [decide_eq_decide]; omega)

theorem implAllocate_is (s : ByteArray) (a : Int) (B : Option Addr) (cp n : Nat) (rs : List Int) (w : World) (hl : rs.length = n) (hs : s.size ≤ 100) (hasc : ascB s = true) (hB : Cells w B (intV .i64 rs)) (hn : 0 < n) (hn1 : n ≤ 20) (ha : a.natAbs ≤ 1000000000000000) (hr : ∀ r ∈ rs, 0 ≤ r ∧ r ≤ 1000) :
    Calls Tryd.prog 24 #[.string s, .int .i64 a, .slice B n cp] w fun e w' => (∃ A B c d, e = .returned (.tuple #[.slice A n c, .slice B n d, .bool true]) ∧ Cells w' A (intV .i64 (intsF (allocF a rs) n)) ∧ Cells w' B (strV (strsN (upB s) n))) ∧ Below w.heap.size w w' := by
  subst hl
  exact implAllocate_yes s a B cp rs w hs hasc hB hn hn1 ha hr

set_option maxRecDepth 100000 in
set_option maxHeartbeats 4000000 in
theorem fnAllocate_in (s : ByteArray) (a : Int) (B : Option Addr) (cp : Nat) (rs : List Int) (w : World) (hp : plainB s = true) (hsm : smallB a = true) (hrb : ratsB rs = true) (hB : Cells w B (intV .i64 rs)) (hE : ErrAt w) :
    Calls Tryd.prog 6 #[.string s, .int .i64 a, .slice B rs.length cp] w fun e w' => e = .returned (.bool true) ∧ Below w.heap.size w w' := by
  have hs := plainB_size hp
  obtain ⟨hro, hn, hn1⟩ := ratsB_ok hrb
  have ha : a.natAbs ≤ 1000000000000000 := by unfold smallB at hsm; have := of_decide_eq_true hsm; omega
  have HP := Lib.hid hp
  have HSM := Lib.hid hsm
  have HRB := Lib.hid hrb
  have HRO := Lib.hid hro
  have HC := Lib.hid hB
  have HE := Lib.hid hE
  clear hp hsm hrb hro hB hE
  go_enter Tryd.func6, Tryd.ntmps6
  go_wp2_with fail
  refine (plain_any s _ (by unfold maxLen; omega)).mono ?_
  rintro e _ ⟨rfl, rfl⟩
  rw [HP.out]
  go_wp2_with fail
  refine (small_any a _).mono ?_
  rintro e _ ⟨rfl, rfl⟩
  rw [HSM.out]
  go_wp2_with fail
  refine (ratios_any B cp rs _ HC.out (by unfold maxLen; omega)).mono ?_
  rintro e _ ⟨rfl, rfl⟩
  rw [HRB.out]
  go_wp2_with fail
  refine (implAllocate_is s a B cp rs.length rs _ rfl (by omega) (plainB_asc HP.out) HC.out (by omega) hn1 ha HRO.out).mono ?_
  rintro e w1 ⟨⟨A, B2, c, d, rfl, hc1, hc2⟩, hb1⟩
  have HC1 := Lib.hid hc1
  have HC2 := Lib.hid hc2
  have HB1 := Lib.hid hb1
  clear hc1 hc2 hb1
  go_wp2_with fail
  refine (specAllocate_any a B cp rs _ (HC.out.below HB1.out) (by omega) hn1 ha HRO.out).mono ?_
  rintro e w2 ⟨v, rfl, ho, hb2⟩
  obtain ⟨D, f, rfl, hc3⟩ := own_slice ho
  have HB2 := Lib.hid (HB1.out.trans (hb2.mono HB1.out.size))
  have HC1b := Lib.hid (HC1.out.below hb2)
  have HC2b := Lib.hid (HC2.out.below hb2)
  have HC3 := Lib.hid hc3
  clear HC1 HC2 hc3 ho hb2 HB1
  go_wp2_with fail
  refine (listed_yes A B2 D c d f rs.length _ s _ _ HC1b.out HC2b.out HC3.out (intsF_length _ _) (by omega) (by omega) rfl).mono ?_
  rintro e w3 ⟨rfl, hb3⟩
  have HB3 := Lib.hid (HB2.out.trans (hb3.mono HB2.out.size))
  clear hb3
  go_wp2_with fail
  refine (alive_any _ (HE.out.below HB3.out)).mono ?_
  rintro e w4 ⟨rfl, hb4⟩
  have HB4 := Lib.hid (HB3.out.trans (hb4.mono HB3.out.size))
  clear hb4
  go_wp2_with fail
  go_ret
  exact ⟨rfl, HB4.out⟩

set_option maxRecDepth 100000 in
set_option maxHeartbeats 2000000 in
theorem fnAllocate_out (s : ByteArray) (a : Int) (B : Option Addr) (cp : Nat) (rs : List Int) (w : World) (hs : s.size ≤ maxLen) (hB : Cells w B (intV .i64 rs)) (hn : rs.length ≤ maxLen) (hout : ¬ (plainB s = true ∧ smallB a = true ∧ ratsB rs = true)) :
    Calls Tryd.prog 6 #[.string s, .int .i64 a, .slice B rs.length cp] w fun e w' => e = .returned (.bool true) ∧ Below w.heap.size w w' := by
  have hs' : s.size ≤ 9223372036854775807 := by unfold maxLen at hs; omega
  have hn' : rs.length ≤ 9223372036854775807 := by unfold maxLen at hn; omega
  have HS := Lib.hid hs
  have HNN := Lib.hid hn
  have HC := Lib.hid hB
  clear hs hB hn
  by_cases hbig : 2147483647 < s.size
  · clear hout
    go_enter Tryd.func6, Tryd.ntmps6
    go_wp2_with fail
    go_ret
    exact ⟨rfl, Below.refl _ _⟩
  · by_cases hbig2 : 2147483647 < rs.length
    · clear hout
      go_enter Tryd.func6, Tryd.ntmps6
      go_wp2_with fail
      go_ret
      exact ⟨rfl, Below.refl _ _⟩
    · cases hp : plainB s with
      | false =>
        have HP := Lib.hid hp
        clear hp hout
        go_enter Tryd.func6, Tryd.ntmps6
        go_wp2_with fail
        refine (plain_any s _ HS.out).mono ?_
        rintro e _ ⟨rfl, rfl⟩
        rw [HP.out]
        go_wp2_with fail
        go_ret
        exact ⟨rfl, Below.refl _ _⟩
      | true =>
        have HP := Lib.hid hp
        cases hsm : smallB a with
        | false =>
          have HSM := Lib.hid hsm
          clear hp hsm hout
          go_enter Tryd.func6, Tryd.ntmps6
          go_wp2_with fail
          refine (plain_any s _ HS.out).mono ?_
          rintro e _ ⟨rfl, rfl⟩
          rw [HP.out]
          go_wp2_with fail
          refine (small_any a _).mono ?_
          rintro e _ ⟨rfl, rfl⟩
          rw [HSM.out]
          go_wp2_with fail
          go_ret
          exact ⟨rfl, Below.refl _ _⟩
        | true =>
          have HSM := Lib.hid hsm
          have HRB := Lib.hid (show ratsB rs = false by
            cases h : ratsB rs with
            | false => rfl
            | true => exact absurd ⟨hp, hsm, h⟩ hout)
          clear hp hsm hout
          go_enter Tryd.func6, Tryd.ntmps6
          go_wp2_with fail
          refine (plain_any s _ HS.out).mono ?_
          rintro e _ ⟨rfl, rfl⟩
          rw [HP.out]
          go_wp2_with fail
          refine (small_any a _).mono ?_
          rintro e _ ⟨rfl, rfl⟩
          rw [HSM.out]
          go_wp2_with fail
          refine (ratios_any B cp rs _ HC.out HNN.out).mono ?_
          rintro e _ ⟨rfl, rfl⟩
          rw [HRB.out]
          go_wp2_with fail
          go_ret
          exact ⟨rfl, Below.refl _ _⟩

theorem fnAllocate_law (s : ByteArray) (a : Int) (B : Option Addr) (cp : Nat) (rs : List Int) (w : World) (hs : s.size ≤ maxLen) (_h0 : -9223372036854775808 ≤ a) (_h1 : a ≤ 9223372036854775807) (hB : Cells w B (intV .i64 rs)) (_hz : ∀ z ∈ rs, -9223372036854775808 ≤ z ∧ z ≤ 9223372036854775807) (hn : rs.length ≤ maxLen) (hE : ErrAt w) :
    Calls Tryd.prog 6 #[.string s, .int .i64 a, .slice B rs.length cp] w fun e w' => e = .returned (.bool true) ∧ Below w.heap.size w w' := by
  by_cases hin : plainB s = true ∧ smallB a = true ∧ ratsB rs = true
  · exact fnAllocate_in s a B cp rs w hin.1 hin.2.1 hin.2.2 hB hE
  · exact fnAllocate_out s a B cp rs w hs hB hn hin
end Go.Proofs.YteejhpoddpcahaaDoor
