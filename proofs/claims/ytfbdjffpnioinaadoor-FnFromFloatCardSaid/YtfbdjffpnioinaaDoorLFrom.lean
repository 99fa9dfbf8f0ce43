/- FnFromFloat, walked. -/
import Derived.Test.YtfbdjffpnioinaaDoorFrom
namespace Go.Proofs.YtfbdjffpnioinaaDoor
open Go.RowKit

set_option maxRecDepth 100000 in
set_option maxHeartbeats 4000000 in
theorem fnFromFloat_in (b : Nat) (s : ByteArray) (w : World) (hb : b < 18446744073709551616) (hp : plainB s = true) (hge : geB b = true) (hle : leB b = true) (hE : ErrAt w) (hT : PowAt w) :
    Calls Tryd.prog 3 #[.int .u64 b, .string s] w fun e w' => e = .returned (.bool true) ∧ Below w.heap.size w w' := by
  have hs := plainB_size hp
  have HA := Lib.hid (plainB_asc hp)
  have HP := Lib.hid hp
  have HE := Lib.hid hE
  have HT := Lib.hid hT
  have HB0 := Lib.hid hb
  obtain ⟨c, hc⟩ : ∃ c, c = curFor (upB s) := ⟨_, rfl⟩
  obtain ⟨f, hf, hf4, h3, h4, h5, h6⟩ := curFor_bounds (upB s) (by rw [upB_size]; exact hs)
  rw [← hc] at hf
  obtain ⟨q, qa, n, hq, hqa, ho, hn, hn0, hn1⟩ := from_float b f hf4 hge hle
  have HC := Lib.hid hc
  have HF := Lib.hid hf
  have HQ := Lib.hid hq
  have HQA := Lib.hid hqa
  have HO := Lib.hid ho
  have HN := Lib.hid hn
  have HM := Lib.hid (run_mul b (p10 f) q hq)
  have HW := Lib.hid (run_whole q n hn)
  obtain ⟨z, hz⟩ : ∃ z, z = ((10 ^ f : Nat) : Int) := ⟨_, rfl⟩
  have HZ := Lib.hid hz
  have HZF := Lib.hid (show floatOfInt .f64 z = p10 f by rw [hz]; exact p10_int f (by omega))
  have hg : (FloatKind.f64.format.order b 14009883241494872064 == some .gt || FloatKind.f64.format.order b 14009883241494872064 == some .eq) = true := hge
  have hl : (FloatKind.f64.format.order b 4786511204640096256 == some .lt || FloatKind.f64.format.order b 4786511204640096256 == some .eq) = true := hle
  have hfb := run_frombits b
  rw [Int.toNat_natCast] at hfb
  clear hp hE hT hc hf h3 h4 h5 h6 hz hq hqa ho hn hge hle hb
  go_enter Tryd.func3, Tryd.ntmps3
  go_wp2_with fail
  refine (plain_any s _ (by unfold maxLen; omega)).mono ?_
  rintro e _ ⟨rfl, rfl⟩
  rw [HP.out]
  go_wp2_with fail
  clear hg hl hfb
  refine (implFromFloat_any b s c f q qa n _ HB0.out (by omega) HA.out HC.out HF.out hf4 HQ.out HQA.out HO.out HN.out HT.out).mono ?_
  rintro e w1 ⟨rfl, hb1⟩
  have HB1 := Lib.hid hb1
  clear hb1
  go_wp2_with fail
  refine (implOf_is s c f _ (by omega) HA.out HC.out HF.out).mono ?_
  rintro e w2 ⟨rfl, hb2⟩
  have HB2 := Lib.hid (HB1.out.trans (hb2.mono HB1.out.size))
  have hfd := field_frac c.code c.num c.graph c.tmpl c.dec c.thou f
  clear hb2
  go_wp2_with fail
  clear hfd
  refine (powerB f z _ (by omega) HZ.out).mono ?_
  rintro e w3 ⟨rfl, hb3⟩
  have HB3 := Lib.hid (HB2.out.trans (hb3.mono HB2.out.size))
  have hzf := HZF.out
  have hm := HM.out
  have hw := HW.out
  clear hb3
  go_wp2_with fail
  clear hzf hm hw
  refine (alive_any _ (HE.out.below HB3.out)).mono ?_
  rintro e w4 ⟨rfl, hb4⟩
  have HB4 := Lib.hid (HB3.out.trans (hb4.mono HB3.out.size))
  clear hb4
  go_wp2_with fail
  go_ret
  exact ⟨rfl, HB4.out⟩

set_option maxRecDepth 100000 in
set_option maxHeartbeats 2000000 in
theorem fnFromFloat_out (b : Nat) (s : ByteArray) (w : World) (hs : s.size ≤ maxLen) (hout : ¬ (plainB s = true ∧ geB b = true ∧ leB b = true)) :
    Calls Tryd.prog 3 #[.int .u64 b, .string s] w fun e w' => e = .returned (.bool true) ∧ Below w.heap.size w w' := by
  have hs' : s.size ≤ 9223372036854775807 := by unfold maxLen at hs; omega
  have HS := Lib.hid hs
  have hfb := run_frombits b
  rw [Int.toNat_natCast] at hfb
  clear hs
  by_cases hbig : 2147483647 < s.size
  · clear hout
    go_enter Tryd.func3, Tryd.ntmps3
    go_wp2_with fail
    go_ret
    exact ⟨rfl, Below.refl _ _⟩
  · cases hp : plainB s with
    | false =>
      have HP := Lib.hid hp
      clear hp hout
      go_enter Tryd.func3, Tryd.ntmps3
      go_wp2_with fail
      refine (plain_any s _ HS.out).mono ?_
      rintro e _ ⟨rfl, rfl⟩
      rw [HP.out]
      go_wp2_with fail
      go_ret
      exact ⟨rfl, Below.refl _ _⟩
    | true =>
      have HP := Lib.hid hp
      cases hge : geB b with
      | false =>
        have hg : (FloatKind.f64.format.order b 14009883241494872064 == some .gt || FloatKind.f64.format.order b 14009883241494872064 == some .eq) = false := hge
        clear hp hout hge
        go_enter Tryd.func3, Tryd.ntmps3
        go_wp2_with fail
        refine (plain_any s _ HS.out).mono ?_
        rintro e _ ⟨rfl, rfl⟩
        rw [HP.out]
        go_wp2_with fail
        go_ret
        exact ⟨rfl, Below.refl _ _⟩
      | true =>
        have hle : leB b = false := by
          cases h : leB b with
          | false => rfl
          | true => exact absurd ⟨hp, hge, h⟩ hout
        have hg : (FloatKind.f64.format.order b 14009883241494872064 == some .gt || FloatKind.f64.format.order b 14009883241494872064 == some .eq) = true := hge
        have hl : (FloatKind.f64.format.order b 4786511204640096256 == some .lt || FloatKind.f64.format.order b 4786511204640096256 == some .eq) = false := hle
        clear hp hout hge hle
        go_enter Tryd.func3, Tryd.ntmps3
        go_wp2_with fail
        refine (plain_any s _ HS.out).mono ?_
        rintro e _ ⟨rfl, rfl⟩
        rw [HP.out]
        go_wp2_with fail
        go_ret
        exact ⟨rfl, Below.refl _ _⟩

theorem fnFromFloat_law (x : Int) (s : ByteArray) (w : World) (h0 : 0 ≤ x) (h1 : x ≤ 18446744073709551615) (hs : s.size ≤ maxLen) (hE : ErrAt w) (hT : PowAt w) :
    Calls Tryd.prog 3 #[.int .u64 x, .string s] w fun e w' => e = .returned (.bool true) ∧ Below w.heap.size w w' := by
  obtain ⟨b, rfl⟩ : ∃ b : Nat, x = b := ⟨x.toNat, by omega⟩
  by_cases hin : plainB s = true ∧ geB b = true ∧ leB b = true
  · exact fnFromFloat_in b s w (by omega) hin.1 hin.2.1 hin.2.2 hE hT
  · exact fnFromFloat_out b s w hs hin
end Go.Proofs.YtfbdjffpnioinaaDoor
