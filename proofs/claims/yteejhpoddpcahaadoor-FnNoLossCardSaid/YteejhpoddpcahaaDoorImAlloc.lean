/- impl.Allocate: the parts by ratios; refused ratios. -/
import Derived.Test.YteejhpoddpcahaaDoorSpAlloc
import Derived.Test.YteejhpoddpcahaaDoorListed
import Derived.Deep.DeepCutAuto
namespace Go.Proofs.YteejhpoddpcahaaDoor
open Go.RowKit

theorem no_room (z r : Int) (hz : z ≤ 1000000000000000) (h0 : 0 < r) (h1 : r ≤ 1000) : ¬ (9223372036854775807 / r < z) := by
  have h : z * r ≤ 9223372036854775807 := by
    have h2 : z * r ≤ 1000000000000000 * 1000 := Int.mul_le_mul hz h1 (by omega) (by omega)
    omega
  have := Int.le_ediv_of_mul_le h0 h
  omega
theorem u64_abs_neg (a : Int) (h : a < 0) (h0 : -9223372036854775807 ≤ a) : IntKind.u64.wrap (-IntKind.u64.wrap a) = (a.natAbs : Int) := by
  rw [IntKind.wrap_u64, IntKind.wrap_u64]; omega

def RatPost (w : World) (a : Int) (s : ByteArray) (rs : List Int) (e : Ending) (w' : World) : Prop :=
  (∃ A B c d, e = .returned (.tuple #[.slice A rs.length c, .slice B rs.length d, .bool true]) ∧ Cells w' A (intV .i64 (intsF (allocF a rs) rs.length)) ∧ Cells w' B (strV (strsN (upB s) rs.length))) ∧ Below w.heap.size w w'

set_option maxRecDepth 100000 in
set_option maxHeartbeats 4000000 in
theorem implAllocate_yes (s : ByteArray) (a : Int) (B : Option Addr) (cp : Nat) (rs : List Int) (w : World) (hs : s.size ≤ 100) (hasc : ascB s = true) (hB : Cells w B (intV .i64 rs)) (hn : 0 < rs.length) (hn1 : rs.length ≤ 20) (ha : a.natAbs ≤ 1000000000000000) (hr : ∀ r ∈ rs, 0 ≤ r ∧ r ≤ 1000) :
    Calls Tryd.prog 24 #[.string s, .int .i64 a, .slice B rs.length cp] w (RatPost w a s rs) := by
  obtain ⟨b, off, rfl⟩ := hB.addr (by simp [intV]; omega)
  have HA := Lib.hid hasc
  have HC := Lib.hid hB
  have HR := Lib.hid hr
  clear hasc hB hr
  go_enter Tryd.func24, Tryd.ntmps24
  go_wp2_with fail
  refine (short_yes s _ hs).mono ?_
  rintro e _ ⟨rfl, rfl⟩
  go_upto_if 23 with (fail)
  go_cut [9] (fun s9 wx => ∃ z : Int, s9 = .int .u64 z ∧ Hid (z = (a.natAbs : Int)) ∧ wx = w)
  case first =>
    by_cases hneg : a < 0
    · have HZ := Lib.hid (u64_abs_neg a hneg (by omega))
      go_wp2_with fail
      go_meet
      exact ⟨_, rfl, HZ, rfl⟩
    · have HZ := Lib.hid (show IntKind.u64.wrap a = (a.natAbs : Int) by rw [IntKind.wrap_u64]; omega)
      go_wp2_with fail
      go_meet
      exact ⟨_, rfl, HZ, rfl⟩
  case rest =>
    obtain ⟨z, rfl, HZ, hwc⟩ := hcut
    obtain rfl := hwc
    have hz1 : z ≤ 1000000000000000 := by have := HZ.out; omega
    have hz0 : 0 ≤ z := by have := HZ.out; omega
    go_wp2_with fail
    go_loop [28] (fun i => ∃ k : Nat, k ≤ rs.length ∧ i = .int .i64 k) (fun i => rs.length - (intOf i).toNat)
    case atStart => exact ⟨0, Nat.zero_le _, rfl⟩
    case round =>
      obtain ⟨k, hk, rfl⟩ := hrel
      by_cases hlt : k < rs.length
      · have e1 := HC.out.at_ k _ (intV_get .i64 rs k hlt)
        have hrk := HR.out rs[k] (List.getElem_mem hlt)
        generalize rs[k] = r at *
        obtain ⟨hr0, hr1⟩ := hrk
        by_cases hrp : 0 < r
        · have hq := no_room z r hz1 hrp hr1
          go_wp2_with fail
          exact ⟨⟨k + 1, by omega, by go_num⟩, by simp [intOf]; omega⟩
        · go_wp2_with fail
          exact ⟨⟨k + 1, by omega, by go_num⟩, by simp [intOf]; omega⟩
      · go_wp2_with fail
        refine (new_any a s _ (by omega) HA.out).mono ?_
        rintro e w1 ⟨g1, rfl, hm1, hg1, hb1⟩
        have HM1 := Lib.hid hm1
        have HB1 := Lib.hid hb1
        clear hm1 hb1 hg1
        go_wp2_with fail
        refine (malloc_yes a _ cp rs _ g1 _ HM1.out (HC.out.below HB1.out) hn hn1 ha HR.out).mono ?_
        rintro e w2 ⟨P, kc, gg, rfl, hp, hkk, hb2⟩
        have HB2 := Lib.hid (HB1.out.trans (hb2.mono HB1.out.size))
        have HP := Lib.hid hp
        have HK := Lib.hid hkk
        clear hb2 hp hkk
        go_wp2_with fail
        refine (parts_yes P rs.length gg kc rs.length _ (curFor (upB s)) _ HP.out HK.out (by omega)).mono ?_
        rintro e w3 ⟨v1, v2, rfl, ho1, ho2, hb3⟩
        obtain ⟨A, c, rfl, hc1⟩ := own_slice ho1
        obtain ⟨B, d, rfl, hc2⟩ := own_slice ho2
        rw [code_curFor] at hc2
        have HB3 := Lib.hid (HB2.out.trans (hb3.mono HB2.out.size))
        have HC1 := Lib.hid hc1
        have HC2 := Lib.hid hc2
        clear hb3 ho1 ho2 hc1 hc2
        go_wp2_with fail
        go_ret3
        exact ⟨⟨A, B, c, d, rfl, HC1.out, HC2.out⟩, HB3.out⟩

set_option maxRecDepth 100000 in
set_option maxHeartbeats 2000000 in
theorem malloc_bad (B : Option Addr) (cp : Nat) (rs : List Int) (g : Nat) (w : World) (hB : Cells w B (intV .i64 rs)) (hn1 : rs.length ≤ 20) (hr : ∀ r ∈ rs, r ≤ 1000) (hbad : rs.length = 0 ∨ ∃ r ∈ rs, r < 0) :
    Calls Tryd.prog 42 #[.pointer (some ⟨g, 0, none⟩), .slice B rs.length cp] w fun e w' => ∃ t v, e = .returned (.tuple #[.slice none 0 0, .iface t v]) ∧ Below w.heap.size w w' := by
  by_cases h0 : rs.length = 0
  · have hz : ((rs.length : Int) == 0) = true := by rw [beq_iff_eq]; omega
    clear hB hr hbad
    go_enter Tryd.func42, Tryd.ntmps42
    clear h0
    go_wp2_with fail
    refine (errNew_any _ _).mono ?_
    rintro e w1 ⟨⟨t, v, rfl⟩, hb⟩
    go_wp2_with fail
    go_ret2
    exact ⟨t, v, rfl, hb⟩
  · have hz : ((rs.length : Int) == 0) = false := by rw [beq_eq_false_iff_ne]; omega
    obtain ⟨b, off, rfl⟩ := hB.addr (by simp [intV]; omega)
    have HC := Lib.hid hB
    have HR := Lib.hid hr
    have HBAD := Lib.hid (show ∃ r ∈ rs, r < 0 from hbad.resolve_left h0)
    clear hB hr hbad h0
    go_enter Tryd.func42, Tryd.ntmps42
    go_wp2_with fail
    go_loop [6, 23] (fun sv i => ∃ (k : Nat) (S : Int), k ≤ rs.length ∧ i = .int .i64 k ∧ sv = .int .i64 S ∧ 0 ≤ S ∧ S ≤ 1000 * k ∧ Hid (∀ i, i < k → ∀ r, rs[i]? = some r → 0 ≤ r)) (fun _ i => rs.length - (intOf i).toNat)
    case atStart => exact ⟨0, 0, Nat.zero_le _, rfl, rfl, by omega, by omega, fun i hi => by omega⟩
    case round =>
      obtain ⟨k, S, hk, rfl, rfl, hS0, hS1, HN⟩ := hrel
      by_cases hlt : k < rs.length
      · have e1 := HC.out.at_ k _ (intV_get .i64 rs k hlt)
        have hrk := HR.out rs[k] (List.getElem_mem hlt)
        have HG := Lib.hid (show rs[k]? = some rs[k] from List.getElem?_eq_getElem hlt)
        generalize rs[k] = r at *
        by_cases hneg : r < 0
        · go_wp2_with fail
          refine (errNew_any _ _).mono ?_
          rintro e w1 ⟨⟨t, v, rfl⟩, hb⟩
          go_wp2_with fail
          go_ret2
          exact ⟨t, v, rfl, hb⟩
        · have hs2 : S ≤ 20000 := by omega
          have hsub : wrap64 (9223372036854775807 - S) = 9223372036854775807 - S := by unfold wrap64; omega
          have hle : ¬ (9223372036854775807 - S < r) := by omega
          have HN2 : Hid (∀ i, i < k + 1 → ∀ r, rs[i]? = some r → 0 ≤ r) := by
            intro i hi x hx
            by_cases hik : i = k
            · subst hik
              have := HG.out.symm.trans hx
              simp only [Option.some.injEq] at this
              omega
            · exact HN.out i (by omega) x hx
          have hS2 : S + r ≤ 1000 * ((k + 1 : Nat) : Int) := by omega
          have HS2 := Lib.hid hS2
          clear hS2
          go_wp2_with fail
          exact ⟨⟨k + 1, S + r, by omega, by go_num, rfl, by omega, HS2.out, HN2⟩, by simp [intOf]; omega⟩
      · exfalso
        obtain ⟨r, hr, hr0⟩ := HBAD.out
        obtain ⟨i, hi⟩ := List.getElem?_of_mem hr
        have hil := (List.getElem?_eq_some_iff.1 hi).1
        have := HN.out i (by omega) r hi
        omega

set_option maxRecDepth 100000 in
set_option maxHeartbeats 4000000 in
theorem implAllocate_bad (s : ByteArray) (a : Int) (B : Option Addr) (cp : Nat) (rs : List Int) (w : World) (hs : s.size ≤ 100) (hasc : ascB s = true) (hB : Cells w B (intV .i64 rs)) (hn1 : rs.length ≤ 20) (ha : a.natAbs ≤ 1000000000000000) (hr : ∀ r ∈ rs, r ≤ 1000) (hlo : ∀ r ∈ rs, -9223372036854775808 ≤ r) (hbad : rs.length = 0 ∨ ∃ r ∈ rs, r < 0) :
    Calls Tryd.prog 24 #[.string s, .int .i64 a, .slice B rs.length cp] w fun e w' => e = .returned (.tuple #[.slice none 0 0, .slice none 0 0, .bool false]) ∧ Below w.heap.size w w' := by
  have HA := Lib.hid hasc
  have HC := Lib.hid hB
  have HR := Lib.hid hr
  have HL := Lib.hid hlo
  have HBAD := Lib.hid hbad
  clear hasc hB hr hbad hlo
  go_enter Tryd.func24, Tryd.ntmps24
  go_wp2_with fail
  refine (short_yes s _ hs).mono ?_
  rintro e _ ⟨rfl, rfl⟩
  go_upto_if 23 with (fail)
  go_cut [9] (fun s9 wx => ∃ z : Int, s9 = .int .u64 z ∧ Hid (z = (a.natAbs : Int)) ∧ wx = w)
  case first =>
    by_cases hneg : a < 0
    · have HZ := Lib.hid (u64_abs_neg a hneg (by omega))
      go_wp2_with fail
      go_meet
      exact ⟨_, rfl, HZ, rfl⟩
    · have HZ := Lib.hid (show IntKind.u64.wrap a = (a.natAbs : Int) by rw [IntKind.wrap_u64]; omega)
      go_wp2_with fail
      go_meet
      exact ⟨_, rfl, HZ, rfl⟩
  case rest =>
    obtain ⟨z, rfl, HZ, hwc⟩ := hcut
    obtain rfl := hwc
    have hz1 : z ≤ 1000000000000000 := by have := HZ.out; omega
    have hz0 : 0 ≤ z := by have := HZ.out; omega
    go_wp2_with fail
    go_loop [28] (fun i => ∃ k : Nat, k ≤ rs.length ∧ i = .int .i64 k) (fun i => rs.length - (intOf i).toNat)
    case atStart => exact ⟨0, Nat.zero_le _, rfl⟩
    case round =>
      obtain ⟨k, hk, rfl⟩ := hrel
      by_cases hlt : k < rs.length
      · obtain ⟨b, off, rfl⟩ := HC.out.addr (by simp [intV]; omega)
        have e1 := HC.out.at_ k _ (intV_get .i64 rs k hlt)
        have hr1 := HR.out rs[k] (List.getElem_mem hlt)
        have hr2 := HL.out rs[k] (List.getElem_mem hlt)
        generalize rs[k] = r at *
        by_cases hrp : 0 < r
        · have hq := no_room z r hz1 hrp hr1
          go_wp2_with fail
          exact ⟨⟨k + 1, by omega, by go_num⟩, by simp [intOf]; omega⟩
        · go_wp2_with fail
          exact ⟨⟨k + 1, by omega, by go_num⟩, by simp [intOf]; omega⟩
      · go_wp2_with fail
        refine (new_any a s _ (by omega) HA.out).mono ?_
        rintro e w1 ⟨g1, rfl, hm1, hg1, hb1⟩
        have HB1 := Lib.hid hb1
        clear hm1 hb1 hg1
        go_wp2_with fail
        refine (malloc_bad _ cp rs g1 _ (HC.out.below HB1.out) hn1 HR.out HBAD.out).mono ?_
        rintro e w2 ⟨t, v, rfl, hb2⟩
        have HB2 := Lib.hid (HB1.out.trans (hb2.mono HB1.out.size))
        clear hb2
        go_wp2_with fail
        refine (parts_no _ _ _ t v _).mono ?_
        rintro e w3 ⟨rfl, hw3⟩
        obtain rfl := hw3.symm
        go_wp2_with fail
        go_ret3
        exact ⟨rfl, HB2.out⟩
end Go.Proofs.YteejhpoddpcahaaDoor
