/- FnRatios, walked. -/
import Derived.Test.YteejhpoddpcahaaDoorLAlloc
namespace Go.Proofs.YteejhpoddpcahaaDoor
open Go.RowKit

/-- No ratio is above 1000. -/
def LowOk (rs : List Int) : Prop := ∀ r ∈ rs, r ≤ 1000

theorem implAllocate_no (s : ByteArray) (a : Int) (B : Option Addr) (cp : Nat) (rs : List Int) (w : World) (hs : s.size ≤ 100) (hasc : ascB s = true) (hB : Cells w B (intV .i64 rs)) (hn1 : rs.length ≤ 20) (ha : a.natAbs ≤ 1000000000000000) (hr : LowOk rs) (hlo : ∀ r ∈ rs, -9223372036854775808 ≤ r) (hbad : ratsB rs = false) :
    Calls Tryd.prog 24 #[.string s, .int .i64 a, .slice B rs.length cp] w fun e w' => e = .returned (.tuple #[.slice none 0 0, .slice none 0 0, .bool false]) ∧ Below w.heap.size w w' := by
  refine implAllocate_bad s a B cp rs w hs hasc hB hn1 ha hr hlo ?_
  by_cases h0 : rs.length = 0
  · exact .inl h0
  · right
    by_cases h : ∃ r ∈ rs, r < 0
    · exact h
    · exfalso
      have hok : RatsOk rs := fun r hr2 => ⟨by by_cases h3 : 0 ≤ r; exact h3; exact absurd ⟨r, hr2, by omega⟩ h, hr r hr2⟩
      unfold ratsB at hbad
      rw [decide_eq_true hok, decide_eq_true (show 1 ≤ rs.length ∧ rs.length ≤ 20 by omega)] at hbad
      cases hbad

set_option maxRecDepth 100000 in
set_option maxHeartbeats 4000000 in
theorem fnRatios_in (s : ByteArray) (a : Int) (B : Option Addr) (cp : Nat) (rs : List Int) (w : World) (hp : plainB s = true) (hsm : smallB a = true) (hn1 : rs.length ≤ 20) (hB : Cells w B (intV .i64 rs)) (hlo : ∀ r ∈ rs, -9223372036854775808 ≤ r) (hhi : ∀ r ∈ rs, r ≤ 9223372036854775807) (hE : ErrAt w) :
    Calls Tryd.prog 7 #[.string s, .int .i64 a, .slice B rs.length cp] w fun e w' => e = .returned (.bool true) ∧ Below w.heap.size w w' := by
  have hs := plainB_size hp
  have ha : a.natAbs ≤ 1000000000000000 := by unfold smallB at hsm; have := of_decide_eq_true hsm; omega
  have HP := Lib.hid hp
  have HSM := Lib.hid hsm
  have HC := Lib.hid hB
  have HL := Lib.hid hlo
  have HH := Lib.hid hhi
  have HE := Lib.hid hE
  clear hp hsm hB hE hlo hhi
  go_enter Tryd.func7, Tryd.ntmps7
  go_wp2_with fail
  refine (plain_any s _ (by unfold maxLen; omega)).mono ?_
  rintro e _ ⟨rfl, rfl⟩
  rw [HP.out]
  go_wp2_with fail
  refine (small_any a _).mono ?_
  rintro e _ ⟨rfl, rfl⟩
  rw [HSM.out]
  go_wp2_with fail
  go_loop [35] (fun i => ∃ k : Nat, k ≤ rs.length ∧ i = .int .i64 k ∧ Hid (∀ i, i < k → ∀ r, rs[i]? = some r → r ≤ 1000)) (fun i => rs.length - (intOf i).toNat)
  case atStart => exact ⟨0, Nat.zero_le _, rfl, fun i hi => by omega⟩
  case round =>
    obtain ⟨k, hk, rfl, HN⟩ := hrel
    by_cases hlt : k < rs.length
    · obtain ⟨b, off, rfl⟩ := HC.out.addr (by simp [intV]; omega)
      have e1 := HC.out.at_ k _ (intV_get .i64 rs k hlt)
      have HG := Lib.hid (show rs[k]? = some rs[k] from List.getElem?_eq_getElem hlt)
      generalize rs[k] = r at *
      by_cases h2 : 1000 < r
      · go_wp2_with fail
        go_ret
        exact ⟨rfl, Below.refl _ _⟩
      · have HN2 : Hid (∀ i, i < k + 1 → ∀ r, rs[i]? = some r → r ≤ 1000) := by
          intro i hi x hx
          by_cases hik : i = k
          · subst hik
            have := HG.out.symm.trans hx
            simp only [Option.some.injEq] at this
            omega
          · exact HN.out i (by omega) x hx
        go_wp2_with fail
        exact ⟨⟨k + 1, by omega, by go_num, HN2⟩, by simp [intOf]; omega⟩
    · have HLOW := Lib.hid (show LowOk rs from fun r hr => by
        obtain ⟨i, hi⟩ := List.getElem?_of_mem hr
        exact HN.out i (by have := (List.getElem?_eq_some_iff.1 hi).1; omega) r hi)
      clear HN
      cases hrb : ratsB rs with
      | true =>
        obtain ⟨hro, hn, _⟩ := ratsB_ok hrb
        have HRB := Lib.hid hrb
        have HRO := Lib.hid hro
        clear hrb hro
        go_wp2_with fail
        refine (implAllocate_is s a B cp rs.length rs _ rfl (by omega) (plainB_asc HP.out) HC.out (by omega) hn1 ha HRO.out).mono ?_
        rintro e w1 ⟨⟨A, B2, c, d, rfl, _, _⟩, hb1⟩
        have HB1 := Lib.hid hb1
        clear hb1
        go_wp2_with fail
        refine (ratios_any B cp rs _ (HC.out.below HB1.out) (by unfold maxLen; omega)).mono ?_
        rintro e w2 ⟨rfl, hw2⟩
        obtain rfl := hw2
        rw [HRB.out]
        go_wp2_with fail
        refine (alive_any _ (HE.out.below HB1.out)).mono ?_
        rintro e w4 ⟨rfl, hb4⟩
        have HB4 := Lib.hid (HB1.out.trans (hb4.mono HB1.out.size))
        clear hb4
        go_wp2_with fail
        go_ret
        exact ⟨rfl, HB4.out⟩
      | false =>
        have HRB := Lib.hid hrb
        clear hrb
        go_wp2_with fail
        refine (implAllocate_no s a B cp rs _ (by omega) (plainB_asc HP.out) HC.out hn1 ha HLOW.out HL.out HRB.out).mono ?_
        rintro e w1 ⟨rfl, hb1⟩
        have HB1 := Lib.hid hb1
        clear hb1
        go_wp2_with fail
        refine (ratios_any B cp rs _ (HC.out.below HB1.out) (by unfold maxLen; omega)).mono ?_
        rintro e w2 ⟨rfl, hw2⟩
        obtain rfl := hw2
        rw [HRB.out]
        go_wp2_with fail
        refine (alive_any _ (HE.out.below HB1.out)).mono ?_
        rintro e w4 ⟨rfl, hb4⟩
        have HB4 := Lib.hid (HB1.out.trans (hb4.mono HB1.out.size))
        clear hb4
        go_wp2_with fail
        go_ret
        exact ⟨rfl, HB4.out⟩

set_option maxRecDepth 100000 in
set_option maxHeartbeats 2000000 in
theorem fnRatios_out (s : ByteArray) (a : Int) (B : Option Addr) (cp : Nat) (rs : List Int) (w : World) (hs : s.size ≤ maxLen) (hn : rs.length ≤ maxLen) (hout : ¬ (plainB s = true ∧ smallB a = true ∧ rs.length ≤ 20)) :
    Calls Tryd.prog 7 #[.string s, .int .i64 a, .slice B rs.length cp] w fun e w' => e = .returned (.bool true) ∧ Below w.heap.size w w' := by
  have hs' : s.size ≤ 9223372036854775807 := by unfold maxLen at hs; omega
  have hn' : rs.length ≤ 9223372036854775807 := by unfold maxLen at hn; omega
  have HS := Lib.hid hs
  clear hs hn
  by_cases hbig : 2147483647 < s.size
  · clear hout
    go_enter Tryd.func7, Tryd.ntmps7
    go_wp2_with fail
    go_ret
    exact ⟨rfl, Below.refl _ _⟩
  · by_cases hbig2 : 2147483647 < rs.length
    · clear hout
      go_enter Tryd.func7, Tryd.ntmps7
      go_wp2_with fail
      go_ret
      exact ⟨rfl, Below.refl _ _⟩
    · cases hp : plainB s with
      | false =>
        have HP := Lib.hid hp
        clear hp hout
        go_enter Tryd.func7, Tryd.ntmps7
        go_wp2_with fail
        refine (plain_any s _ HS.out).mono ?_
        rintro e _ ⟨rfl, rfl⟩
        rw [HP.out]
        go_wp2_with fail
        go_ret
        exact ⟨rfl, Below.refl _ _⟩
      | true =>
        have HP := Lib.hid hp
        cases hsm : smallB a with
        | false =>
          have HSM := Lib.hid hsm
          clear hp hsm hout
          go_enter Tryd.func7, Tryd.ntmps7
          go_wp2_with fail
          refine (plain_any s _ HS.out).mono ?_
          rintro e _ ⟨rfl, rfl⟩
          rw [HP.out]
          go_wp2_with fail
          refine (small_any a _).mono ?_
          rintro e _ ⟨rfl, rfl⟩
          rw [HSM.out]
          go_wp2_with fail
          go_ret
          exact ⟨rfl, Below.refl _ _⟩
        | true =>
          have HSM := Lib.hid hsm
          have h20 : 20 < rs.length := Nat.lt_of_not_le fun h => hout ⟨hp, hsm, h⟩
          clear hp hsm hout
          go_enter Tryd.func7, Tryd.ntmps7
          go_wp2_with fail
          refine (plain_any s _ HS.out).mono ?_
          rintro e _ ⟨rfl, rfl⟩
          rw [HP.out]
          go_wp2_with fail
          refine (small_any a _).mono ?_
          rintro e _ ⟨rfl, rfl⟩
          rw [HSM.out]
          go_wp2_with fail
          go_ret
          exact ⟨rfl, Below.refl _ _⟩

theorem fnRatios_law (s : ByteArray) (a : Int) (B : Option Addr) (cp : Nat) (rs : List Int) (w : World) (hs : s.size ≤ maxLen) (_h0 : -9223372036854775808 ≤ a) (_h1 : a ≤ 9223372036854775807) (hB : Cells w B (intV .i64 rs)) (hz : ∀ z ∈ rs, -9223372036854775808 ≤ z ∧ z ≤ 9223372036854775807) (hn : rs.length ≤ maxLen) (hE : ErrAt w) :
    Calls Tryd.prog 7 #[.string s, .int .i64 a, .slice B rs.length cp] w fun e w' => e = .returned (.bool true) ∧ Below w.heap.size w w' := by
  by_cases hin : plainB s = true ∧ smallB a = true ∧ rs.length ≤ 20
  · exact fnRatios_in s a B cp rs w hin.1 hin.2.1 hin.2.2 hB (fun z h => (hz z h).1) (fun z h => (hz z h).2) hE
  · exact fnRatios_out s a B cp rs w hs hn hin
end Go.Proofs.YteejhpoddpcahaaDoor
