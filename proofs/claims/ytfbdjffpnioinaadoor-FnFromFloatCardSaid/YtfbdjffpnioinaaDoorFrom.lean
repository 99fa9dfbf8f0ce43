/- math.Abs, NewFromFloat, impl.FromFloat; FnFromFloat, walked. -/
import Derived.Test.YtfbdjffpnioinaaDoorFlt2
import Derived.Test.YtfbdjffpnioinaaDoorMajOf
import Derived.Laws.BitsAllLaws
namespace Go.Proofs.YtfbdjffpnioinaaDoor
open Go.RowKit

theorem abs_bits (b : Nat) (hb : b < 18446744073709551616) : (bits BinOp.andNot IntKind.u64 (b : Int) 9223372036854775808).toNat = b % 9223372036854775808 := by
  rw [u64_andNot _ _ (by omega) (by omega) (by omega) (by omega)]
  have e : (b : Int).toNat &&& (18446744073709551615 - (9223372036854775808 : Int).toNat) = b % 2 ^ 63 := by
    rw [← Nat.and_two_pow_sub_one_eq_mod]; rfl
  rw [Int.toNat_natCast, e]
set_option maxHeartbeats 400000 in
theorem mabs_any (b : Nat) (w : World) (hb : b < 18446744073709551616) :
    Calls Tryd.prog 19 #[.float .f64 b] w fun e w' => e = .returned (.float .f64 (b % 9223372036854775808)) ∧ w = w' := by
  have h1 := run_bits b
  have h2 := run_frombits
  have HA := Lib.hid (abs_bits b hb)
  clear hb
  go_enter Tryd.func19, Tryd.ntmps19
  go_wp2
  go_ret
  exact ⟨by show Ending.returned (Value.float FloatKind.f64 (bits BinOp.andNot IntKind.u64 (b : Int) 9223372036854775808).toNat) = _; rw [HA.out], rfl⟩

/-- A float, cut to its whole part. -/
theorem run_whole (q : Nat) (n : Int) (h : floatToIntVal .f64 q .i64 = some n) : ∀ w, (convert 23 2 (.float .f64 q)).run Tryd.prog w = .ok (.int .i64 n) w := fun w =>
  run_convert_float_int w 23 2 .f64 .i64 q n (by rw [Tryd.underlying23]; rfl) Tryd.underlying2 h
theorem run_mul (x y q : Nat) (h : floatBits .mul .f64 x y = some q) : ∀ t w, (binOp .mul t (.float .f64 x) (.float .f64 y)).run Tryd.prog w = .ok (.float .f64 q) w := fun t w => run_float_arith w .mul t .f64 _ _ _ h

set_option maxRecDepth 100000 in
set_option maxHeartbeats 2000000 in
theorem newFromFloat_any (b : Nat) (s : ByteArray) (c : Cur) (f q : Nat) (n : Int) (w : World) (hs : s.size ≤ 100) (ha : ascB s = true) (hc : c = curFor (upB s)) (hf : c.frac = f) (hf4 : f ≤ 4)
    (hq : floatBits .mul .f64 b (p10 f) = some q) (hn : floatToIntVal .f64 q .i64 = some n) (hT : PowAt w) :
    Calls Tryd.prog 23 #[.float .f64 b, .string s] w (GotMoney n c w) := by
  have HA := Lib.hid ha
  have HC := Lib.hid hc
  have HF := Lib.hid hf
  have HT := Lib.hid hT
  have hm := run_mul b (p10 f) q hq
  have hw := run_whole q n hn
  have HM := Lib.hid hm
  have HW := Lib.hid hw
  clear ha hc hf hT hq hn hm hw
  go_enter Tryd.func23, Tryd.ntmps23
  go_wp2_with fail
  refine (newCurrency_any s _ (by omega) HA.out).mono ?_
  rintro e w' ⟨w1, rfl, rfl, hb1⟩
  have HB1 := Lib.hid (hb1.alloc hb1.size (.cells (bareCur (upB s)).cells 42))
  clear hb1
  go_wp2_with fail
  refine (get_any (bareCur (upB s)) _ _ (Blk.new _ _ _)).mono ?_
  rintro e w2 ⟨gc, rfl, hcur, hg, hb2⟩
  have HB2 := Lib.hid (HB1.out.trans (hb2.mono HB1.out.size))
  have e2 : w2.cell? ⟨gc, 2, none⟩ = some (.int .i64 f) := by
    have h := hcur.cell 2
    rw [show (bareCur (upB s)).code = upB s from rfl, ← HC.out] at h
    rw [h, ← HF.out]; rfl
  clear hcur hb2 hg HB1
  go_wp2_with fail
  refine (pow10_any f _ (by omega) (HT.out.below HB2.out)).mono ?_
  rintro e w3 ⟨rfl, hb3⟩
  have HB3 := Lib.hid (HB2.out.trans (hb3.mono HB2.out.size))
  have hm := HM.out
  have hw := HW.out
  clear hb3 e2
  go_wp2_with fail
  clear hm hw
  refine (new_any n s _ (by omega) HA.out).mono ?_
  rintro e w4 ⟨g1, rfl, hm1, hg1, hb4⟩
  rw [← HC.out] at hm1
  have HM1 := Lib.hid hm1
  have HB4 := Lib.hid (HB3.out.trans (hb4.mono HB3.out.size))
  have hgg := Nat.le_trans HB3.out.size hg1
  clear hm1 hb4 hg1
  go_wp2_with fail
  go_ret
  exact ⟨g1, rfl, HM1.out, hgg, HB4.out⟩

set_option maxRecDepth 100000 in
set_option maxHeartbeats 4000000 in
theorem implFromFloat_any (b : Nat) (s : ByteArray) (c : Cur) (f q qa : Nat) (n : Int) (w : World) (hb : b < 18446744073709551616) (hs : s.size ≤ 100) (ha : ascB s = true) (hc : c = curFor (upB s)) (hf : c.frac = f) (hf4 : f ≤ 4)
    (hq : floatBits .mul .f64 b (p10 f) = some q) (hqa : floatBits .mul .f64 (b % 9223372036854775808) (p10 f) = some qa) (ho : Ieee.double.order qa 4886405595696988160 = some .lt) (hn : floatToIntVal .f64 q .i64 = some n) (hT : PowAt w) :
    Calls Tryd.prog 8 #[.int .u64 b, .string s] w fun e w' => e = .returned (.int .i64 n) ∧ Below w.heap.size w w' := by
  have HA := Lib.hid ha
  have HC := Lib.hid hc
  have HF := Lib.hid hf
  have HT := Lib.hid hT
  have HQ := Lib.hid hq
  have HN := Lib.hid hn
  have HM := Lib.hid (run_mul (b % 9223372036854775808) (p10 f) qa hqa)
  have HO := Lib.hid (show (FloatKind.f64.format.order qa 4886405595696988160 == some .lt) = true by
    show (Ieee.double.order qa 4886405595696988160 == some .lt) = true
    rw [ho]; rfl)
  have hfb := run_frombits b
  rw [Int.toNat_natCast] at hfb
  have HB0 := Lib.hid hb
  clear ha hc hf hT hq hqa ho hn hb
  go_enter Tryd.func8, Tryd.ntmps8
  go_wp2_with fail
  refine (short_yes s _ hs).mono ?_
  rintro e _ ⟨rfl, rfl⟩
  go_wp2_with fail
  clear hfb
  refine (mabs_any b _ HB0.out).mono ?_
  rintro e _ ⟨rfl, rfl⟩
  go_wp2_with fail
  refine (new_any 0 s _ (by omega) HA.out).mono ?_
  rintro e w1 ⟨g1, rfl, hm1, hg1, hb1⟩
  rw [← HC.out] at hm1
  obtain ⟨kc, hbk, hkc⟩ := hm1
  have HBK := Lib.hid hbk
  have HKC := Lib.hid hkc
  have HB1 := Lib.hid hb1
  clear hbk hkc hb1 hg1
  go_wp2_with fail
  refine (currency_any 0 kc g1 _ HBK.out).mono ?_
  rintro e w2 ⟨rfl, hw2⟩
  obtain rfl := hw2.symm
  have e2 : w1.cell? ⟨kc, 2, none⟩ = some (.int .i64 f) := by
    have h := HKC.out.cell 2
    rw [h, ← HF.out]; rfl
  clear HBK HKC
  go_wp2_with fail
  refine (pow10_any f _ (by omega) (HT.out.below HB1.out)).mono ?_
  rintro e w3 ⟨rfl, hb3⟩
  have HB3 := Lib.hid (HB1.out.trans (hb3.mono HB1.out.size))
  have hm := HM.out
  have ho := HO.out
  clear hb3 e2
  go_wp2_with fail
  clear hm ho
  refine (newFromFloat_any b s c f q n _ hs HA.out HC.out HF.out hf4 HQ.out HN.out (HT.out.below HB3.out)).mono ?_
  rintro e w4 ⟨g2, rfl, hm2, _, hb4⟩
  have HM2 := Lib.hid hm2
  have HB4 := Lib.hid (HB3.out.trans (hb4.mono HB3.out.size))
  clear hm2 hb4
  go_wp2_with fail
  refine (amount_any n c g2 _ HM2.out).mono ?_
  rintro e w5 ⟨rfl, hw5⟩
  obtain rfl := hw5.symm
  go_wp2_with fail
  go_ret
  exact ⟨rfl, HB4.out⟩
end Go.Proofs.YtfbdjffpnioinaaDoor
