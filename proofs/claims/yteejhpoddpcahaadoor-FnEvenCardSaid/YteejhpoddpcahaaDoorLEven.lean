/- FnEven, walked. -/
import Derived.Test.YteejhpoddpcahaaDoorLAlloc
import Derived.Test.YteejhpoddpcahaaDoorSums
namespace Go.Proofs.YteejhpoddpcahaaDoor
open Go.RowKit

theorem int_info : (Tryd.prog.info? 3).map (fun i => (i.zero, i.size, i.bytes)) = some (some (.int .i64 0), 1, 8) := by kernel_rfl
theorem rep_snoc (k : Nat) (r : Int) : intV .i64 (List.replicate (k + 1) r) = intV .i64 (List.replicate k r) ++ [.int .i64 r] := by
  simp [intV, List.replicate_succ']

set_option maxRecDepth 100000 in
set_option maxHeartbeats 4000000 in
theorem fnEven_in (s : ByteArray) (a : Int) (m p : Nat) (w : World) (hp : plainB s = true) (hsm : smallB a = true) (hm : m ≤ 255) (hpp : p ≤ 65535) (hE : ErrAt w) :
    Calls Tryd.prog 8 #[.string s, .int .i64 a, .int .u8 m, .int .u16 p] w fun e w' => e = .returned (.bool true) ∧ Below w.heap.size w w' := by
  have hs := plainB_size hp
  have ha : a.natAbs ≤ 1000000000000000 := by unfold smallB at hsm; have := of_decide_eq_true hsm; omega
  obtain ⟨i0, hi, hz0, hz1, hz2⟩ := info_parts int_info
  have HP := Lib.hid hp
  have HSM := Lib.hid hsm
  have HE := Lib.hid hE
  clear hp hsm hE
  go_enter Tryd.func8, Tryd.ntmps8
  go_wp2_with fail
  refine (plain_any s _ (by unfold maxLen; omega)).mono ?_
  rintro e _ ⟨rfl, rfl⟩
  rw [HP.out]
  go_wp2_with fail
  refine (small_any a _).mono ?_
  rintro e _ ⟨rfl, rfl⟩
  rw [HSM.out]
  go_wp2_with fail
  have hK1 : 1 ≤ (1 + (m : Int) % 20) := by omega
  have hK2 : (1 + (m : Int) % 20) ≤ 20 := by omega
  have hR1 : 1 ≤ (1 + (p : Int) % 1000) := by omega
  have hR2 : (1 + (p : Int) % 1000) ≤ 1000 := by omega
  generalize (1 + (m : Int) % 20) = kz at *
  generalize (1 + (p : Int) % 1000) = r at *
  obtain ⟨K, rfl⟩ : ∃ K : Nat, kz = K := ⟨kz.toNat, by omega⟩
  go_loopw [11, 39] (fun v iv wr => ∃ k : Nat, k ≤ K ∧ iv = .int .i64 k ∧ Hid (wr.ownsRow w.heap.size 3 1 v k (intV .i64 (List.replicate k r))) ∧ Hid (Below w.heap.size w wr)) (fun _ iv _ => K - (intOf iv).toNat)
  case atStart => exact ⟨0, Nat.zero_le _, rfl, own_empty _ _ _ (Nat.le_refl _), (Below.refl _ _).alloc (Nat.le_refl _) _⟩
  case round =>
    obtain ⟨k, hk, rfl, HV, HB⟩ := hrel
    by_cases hlt : k < K
    · have hown1 := HV.out
      go_wp2_with (at_builtin; refine wpList_append_own _ rfl _ _ 40 rfl w.heap.size 3 i0 (.int .i64 0) 1 8 Tryd.underlying40 hi hz0 hz1 hz2 rfl (by decide) _ _ _ rfl (hown1.alloc _) ⟨wr.heap.size, 0, none⟩ 1 1 [.int .i64 r] rfl rfl ?c1 ?c2 ?c3 ?c4 ?c5 ?_)
      case c1 =>
        intro j u hj
        match j, hj with
        | 0, hj => simp at hj; subst hj; simp [Addr.add]
      case c2 => intro u hu; simp at hu; subst hu; rfl
      case c3 => unfold maxLen; omega
      case c4 => omega
      case c5 => have := HB.out.size; simp; omega
      intro v1' w3 hown1' hgrow1 _
      have HB3 := Lib.hid ((HB.out.alloc HB.out.size (.cells #[.int .i64 r] 3)).grown hgrow1 (by have := HB.out.size; simp; omega) (fun q hq => (hown1.lt q hq).1))
      rw [← rep_snoc] at hown1'
      have HV2 := Lib.hid hown1'
      clear hown1 hown1' hgrow1
      go_wp2_with fail
      exact ⟨⟨k + 1, by omega, by go_num, HV2, HB3⟩, by simp [intOf]; omega⟩
    · obtain rfl : K = k := by omega
      obtain ⟨B, cp, hv, hB⟩ := own_slice HV.out
      subst hv
      have HC := Lib.hid hB
      have HRO := Lib.hid (show ∀ x ∈ List.replicate K r, 0 ≤ x ∧ x ≤ 1000 from fun x hx => by
        obtain rfl := List.eq_of_mem_replicate hx; omega)
      have HEQ := Lib.hid (show intsF (splitF a K) K = intsF (allocF a (List.replicate K r)) K from
        intsF_congr fun i hi => (alloc_even a r K (by omega) (by omega) i hi).symm)
      clear HV hB hlt hk
      go_wp2_with fail
      refine (implAllocate_is s a B cp K _ _ (List.length_replicate ..) (by omega) (plainB_asc HP.out) HC.out (by omega) (by omega) ha HRO.out).mono ?_
      rintro e w1 ⟨⟨A, B2, c, d, rfl, hc1, hc2⟩, hb1⟩
      have HB1 := Lib.hid (HB.out.trans (hb1.mono HB.out.size))
      have HC1 := Lib.hid hc1
      have HC2 := Lib.hid hc2
      clear hc1 hc2 hb1
      go_wp2_with fail
      refine (implSplit_yes s a K _ (by omega) (plainB_asc HP.out) (by omega) (by omega) (by omega) (by omega)).mono ?_
      rintro e w2 ⟨D, B3, f, d2, rfl, hc3, _, hb2⟩
      rw [HEQ.out] at hc3
      have HB2 := Lib.hid (HB1.out.trans (hb2.mono HB1.out.size))
      have HC1b := Lib.hid (HC1.out.below hb2)
      have HC2b := Lib.hid (HC2.out.below hb2)
      have HC3 := Lib.hid hc3
      clear HC1 HC2 hc3 hb2 HB1
      go_wp2_with fail
      refine (listed_yes A B2 D c d f K _ s _ _ HC1b.out HC2b.out HC3.out (intsF_length _ _) (by omega) (by omega) rfl).mono ?_
      rintro e w3 ⟨rfl, hb3⟩
      have HB3 := Lib.hid (HB2.out.trans (hb3.mono HB2.out.size))
      clear hb3
      go_wp2_with fail
      refine (alive_any _ (HE.out.below HB3.out)).mono ?_
      rintro e w4 ⟨rfl, hb4⟩
      have HB4 := Lib.hid (HB3.out.trans (hb4.mono HB3.out.size))
      clear hb4
      go_wp2_with fail
      go_ret
      exact ⟨rfl, HB4.out⟩

set_option maxRecDepth 100000 in
set_option maxHeartbeats 2000000 in
theorem fnEven_out (s : ByteArray) (a : Int) (m p : Nat) (w : World) (hs : s.size ≤ maxLen) (hout : ¬ (plainB s = true ∧ smallB a = true)) :
    Calls Tryd.prog 8 #[.string s, .int .i64 a, .int .u8 m, .int .u16 p] w fun e w' => e = .returned (.bool true) ∧ Below w.heap.size w w' := by
  have hs' : s.size ≤ 9223372036854775807 := by unfold maxLen at hs; omega
  have HS := Lib.hid hs
  clear hs
  by_cases hbig : 2147483647 < s.size
  · clear hout
    go_enter Tryd.func8, Tryd.ntmps8
    go_wp2_with fail
    go_ret
    exact ⟨rfl, Below.refl _ _⟩
  · cases hp : plainB s with
    | false =>
      have HP := Lib.hid hp
      clear hp hout
      go_enter Tryd.func8, Tryd.ntmps8
      go_wp2_with fail
      refine (plain_any s _ HS.out).mono ?_
      rintro e _ ⟨rfl, rfl⟩
      rw [HP.out]
      go_wp2_with fail
      go_ret
      exact ⟨rfl, Below.refl _ _⟩
    | true =>
      have HP := Lib.hid hp
      have HSM := Lib.hid (show smallB a = false by
        cases h : smallB a with
        | false => rfl
        | true => exact absurd ⟨hp, h⟩ hout)
      clear hp hout
      go_enter Tryd.func8, Tryd.ntmps8
      go_wp2_with fail
      refine (plain_any s _ HS.out).mono ?_
      rintro e _ ⟨rfl, rfl⟩
      rw [HP.out]
      go_wp2_with fail
      refine (small_any a _).mono ?_
      rintro e _ ⟨rfl, rfl⟩
      rw [HSM.out]
      go_wp2_with fail
      go_ret
      exact ⟨rfl, Below.refl _ _⟩

theorem fnEven_law (s : ByteArray) (a : Int) (m p : Int) (w : World) (hs : s.size ≤ maxLen) (_h0 : -9223372036854775808 ≤ a) (_h1 : a ≤ 9223372036854775807) (hm0 : 0 ≤ m) (hm1 : m ≤ 255) (hp0 : 0 ≤ p) (hp1 : p ≤ 65535) (hE : ErrAt w) :
    Calls Tryd.prog 8 #[.string s, .int .i64 a, .int .u8 m, .int .u16 p] w fun e w' => e = .returned (.bool true) ∧ Below w.heap.size w w' := by
  obtain ⟨m, rfl⟩ : ∃ x : Nat, m = x := ⟨m.toNat, by omega⟩
  obtain ⟨p, rfl⟩ : ∃ x : Nat, p = x := ⟨p.toNat, by omega⟩
  by_cases hin : plainB s = true ∧ smallB a = true
  · exact fnEven_in s a m p w hin.1 hin.2 (by omega) (by omega) hE
  · exact fnEven_out s a m p w hs hin
end Go.Proofs.YteejhpoddpcahaaDoor
