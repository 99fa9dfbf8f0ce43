/- Formatter.ToMajorUnits; impl.Major; FnMajor, walked. -/
import Derived.Test.YtfbdjffpnioinaaDoorFairM
import Derived.Test.YtfbdjffpnioinaaDoorPow
import Derived.Test.YtfbdjffpnioinaaDoorAlive
import Derived.Deep.RegionHeld3
import Derived.WalkLawsBesides
namespace Go.Proofs.YtfbdjffpnioinaaDoor
open Go.RowKit

/-- An amount by a power of ten. -/
def majF (a : Int) (f : Nat) : Nat := (floatBits .quo .f64 (floatOfInt .f64 a) (p10 f)).getD 0
theorem int_fin (a : Int) (hb : a.natAbs ≤ 9223372036854775808) : ∃ s m i, Ieee.double.read (floatOfInt .f64 a) = .number s m i := by
  by_cases h : a = 0
  · subst h
    exact ⟨_, _, _, (by decide +kernel : Ieee.double.read (floatOfInt .f64 0) = .number false 0 (-1074))⟩
  · obtain ⟨r, hr, _, h2⟩ := int_word a h hb
    rw [hr]
    obtain ⟨m, i, e⟩ := read_fin (decide (a < 0)) r h2
    exact ⟨_, m, i, e⟩
theorem maj_some (a : Int) (f : Nat) (hb : a.natAbs ≤ 9223372036854775808) (hf : f ≤ 18) : floatBits .quo .f64 (floatOfInt .f64 a) (p10 f) = some (majF a f) := by
  obtain ⟨s, m, i, hx⟩ := int_fin a hb
  obtain ⟨n, j, hy, hn⟩ := p10_read f hf
  obtain ⟨q, hq⟩ := quot_some hx hy hn
  unfold majF
  rw [hq]; rfl
theorem maj_zero (a : Int) (hb : a.natAbs ≤ 9223372036854775808) : floatOfInt .f64 a = majF a 0 := by
  have h := maj_some a 0 hb (by omega)
  by_cases h0 : a = 0
  · subst h0
    have e : floatBits .quo .f64 (floatOfInt .f64 0) (p10 0) = some (floatOfInt .f64 0) := by decide +kernel
    exact Option.some.inj (e.symm.trans h)
  · obtain ⟨r, hr, h1, h2⟩ := int_word a h0 hb
    have e := div_one (decide (a < 0)) r h1 h2
    rw [← hr] at e
    exact Option.some.inj (e.symm.trans h)

set_option maxRecDepth 100000 in
set_option maxHeartbeats 1000000 in
theorem tomajor_any (f : Nat) (D T G M : ByteArray) (a : Int) (g : Nat) (x : Nat) (w : World) (hb : Blk w g 74 (fmtCells f D T G M)) (hf : f ≤ 18) (h0 : -9223372036854775808 ≤ a) (h1 : a ≤ 9223372036854775807) (hx : majF a f = x) (hT : PowAt w) :
    Calls Tryd.prog 29 #[.pointer (some ⟨g, 0, none⟩), .int .i64 a] w fun e w' => e = .returned (.float .f64 x) ∧ Below w.heap.size w w' := by
  have e0 : w.cell? ⟨g, 0, none⟩ = some (.int .i64 f) := hb.cell 0
  have HT := Lib.hid hT
  by_cases hz : f = 0
  · have hz0 : ((f : Int) == 0) = true := by rw [beq_iff_eq]; omega
    have HV := Lib.hid (show floatOfInt .f64 a = x by rw [← hx, hz]; exact maj_zero a (by omega))
    clear hb hT hx hz
    go_enter Tryd.func29, Tryd.ntmps29
    go_wp2_with fail
    go_ret
    exact ⟨by rw [HV.out]; rfl, Below.refl _ _⟩
  · have hz0 : ((f : Int) == 0) = false := by rw [beq_eq_false_iff_ne]; omega
    have hop : ∀ t w, (binOp .quo t (.float .f64 (floatOfInt .f64 a)) (.float .f64 (p10 f))).run Tryd.prog w = .ok (.float .f64 x) w := fun t w => run_float_arith w .quo t .f64 _ _ _ (by rw [← hx]; exact maj_some a f (by omega) hf)
    clear hb hT hx hz
    go_enter Tryd.func29, Tryd.ntmps29
    go_wp2_with fail
    refine (pow10_any f _ hf HT.out).mono ?_
    rintro e w1 ⟨rfl, hb1⟩
    go_wp2_with fail
    go_ret
    exact ⟨rfl, hb1⟩

set_option maxRecDepth 100000 in
set_option maxHeartbeats 1000000 in
theorem implMajor_yes (c0 c1 c3 c4 c5 c6 : ByteArray) (f : Nat) (a : Int) (x : Nat) (w : World) (hf : f ≤ 18) (h3 : c3.size ≤ 20) (h4 : c4.size ≤ 20) (h5 : c5.size ≤ 20) (h6 : c6.size ≤ 20) (h0 : -9223372036854775808 ≤ a) (h1 : a ≤ 9223372036854775807) (hx : majF a f = x) (hT : PowAt w) :
    Calls Tryd.prog 14 #[.agg #[.string c0, .string c1, .int .i64 f, .string c3, .string c4, .string c5, .string c6], .int .i64 a] w fun e w' => e = .returned (.int .u64 x) ∧ Below w.heap.size w w' := by
  have HT := Lib.hid hT
  have HX := Lib.hid hx
  have hbits := run_bits x
  clear hT hx
  go_enter Tryd.func14, Tryd.ntmps14
  go_wp2_with fail
  have hblk := Blk.new w 29 #[.string c0, .string c1, .int .i64 f, .string c3, .string c4, .string c5, .string c6]
  have hB0 := (Below.refl w.heap.size w).alloc (Nat.le_refl _) (.cells #[.string c0, .string c1, .int .i64 f, .string c3, .string c4, .string c5, .string c6] 29)
  have hz : w.heap.size < (w.alloc (.cells #[.string c0, .string c1, .int .i64 f, .string c3, .string c4, .string c5, .string c6] 29)).heap.size := by simp
  generalize w.alloc _ = w1 at *
  have HB1 := Lib.hid hB0
  have HBK := Lib.hid hblk
  clear hB0 hblk
  refine (fits_yes c0 c1 c3 c4 c5 c6 f _ hf (by omega) (by omega) (by omega) (by omega)).mono ?_
  rintro e w2 ⟨rfl, hb2⟩
  have HB2 := Lib.hid (HB1.out.trans (hb2.mono HB1.out.size))
  have HBK2 := Lib.hid (HBK.out.below hb2 hz)
  have e0 := HBK2.out.cell 0
  have e1 := HBK2.out.cell 1
  have e2 := HBK2.out.cell 2
  have e3 := HBK2.out.cell 3
  have e4 := HBK2.out.cell 4
  have e5 := HBK2.out.cell 5
  have e6 := HBK2.out.cell 6
  simp only [List.getElem?_toArray, List.getElem?_cons_zero, List.getElem?_cons_succ] at e0 e1 e2 e3 e4 e5 e6
  clear hb2 HB1 HBK hz
  go_wp2_with fail
  refine (formatter_any c0 c1 c3 c4 c5 c6 f _).mono ?_
  rintro e w3 ⟨g, rfl, hg, hb3⟩
  have HB3 := Lib.hid (HB2.out.trans (hb3.mono HB2.out.size))
  have HG := Lib.hid hg
  clear hg hb3 HB2 HBK2 e0 e1 e2 e3 e4 e5 e6
  go_wp2_with fail
  refine (tomajor_any f c5 c6 c3 c4 a g x _ HG.out hf h0 h1 HX.out (HT.out.below HB3.out)).mono ?_
  rintro e w4 ⟨rfl, hb4⟩
  have HB4 := Lib.hid (HB3.out.trans (hb4.mono HB3.out.size))
  clear hb4 HB3 HG
  go_wp2_with fail
  go_ret
  exact ⟨rfl, HB4.out⟩

theorem keepC {W w w' : World} {p0 p1 p2 p3 p4 p5 p6 : Addr} {v0 v1 v2 v3 v4 v5 v6 : Value}
    (h : w.cell? p0 = some v0 ∧ w.cell? p1 = some v1 ∧ w.cell? p2 = some v2 ∧ w.cell? p3 = some v3 ∧ w.cell? p4 = some v4 ∧ w.cell? p5 = some v5 ∧ w.cell? p6 = some v6 ∧ Below W.heap.size W w) (hb : Below w.heap.size w w') :
    w'.cell? p0 = some v0 ∧ w'.cell? p1 = some v1 ∧ w'.cell? p2 = some v2 ∧ w'.cell? p3 = some v3 ∧ w'.cell? p4 = some v4 ∧ w'.cell? p5 = some v5 ∧ w'.cell? p6 = some v6 ∧ Below W.heap.size W w' := by
  obtain ⟨h0, h1, h2, h3, h4, h5, h6, h7⟩ := h
  exact ⟨keep_cell h0 hb, keep_cell h1 hb, keep_cell h2 hb, keep_cell h3 hb, keep_cell h4 hb, keep_cell h5 hb, keep_cell h6 hb, h7.trans (hb.mono h7.size)⟩
theorem belowC {W w : World} {p0 p1 p2 p3 p4 p5 p6 : Addr} {v0 v1 v2 v3 v4 v5 v6 : Value}
    (h : w.cell? p0 = some v0 ∧ w.cell? p1 = some v1 ∧ w.cell? p2 = some v2 ∧ w.cell? p3 = some v3 ∧ w.cell? p4 = some v4 ∧ w.cell? p5 = some v5 ∧ w.cell? p6 = some v6 ∧ Below W.heap.size W w) : Below W.heap.size W w := h.2.2.2.2.2.2.2
theorem powerB (n : Nat) (z : Int) (w : World) (hn : n ≤ 18) (hz : z = ((10 ^ n : Nat) : Int)) :
    Calls Tryd.prog 9 #[.int .i64 n] w fun e w' => e = .returned (.int .i64 z) ∧ Below w.heap.size w w' :=
  (power_any n z w hn hz).mono fun _ _ ⟨he, hw⟩ => ⟨he, by rw [← hw]; exact Below.refl _ _⟩

set_option maxRecDepth 100000 in
set_option maxHeartbeats 4000000 in
theorem fnMajor_in (c0 c1 c3 c4 c5 c6 : ByteArray) (f : Nat) (a : Int) (w : World) (hf : f ≤ 18) (h3 : c3.size ≤ 20) (h4 : c4.size ≤ 20) (h5 : c5.size ≤ 20) (h6 : c6.size ≤ 20) (hm0 : c0.size ≤ maxLen) (hm1 : c1.size ≤ maxLen)
    (hfit : fits1B c0 c1 c3 c4 c5 c6 = true) (h0 : -9223372036854775808 ≤ a) (h1 : a ≤ 9223372036854775807) (hE : ErrAt w) (hT : PowAt w) :
    Calls Tryd.prog 4 #[.agg #[.string c0, .string c1, .int .i64 f, .string c3, .string c4, .string c5, .string c6], .int .i64 a] w fun e w' => e = .returned (.bool true) ∧ Below w.heap.size w w' := by
  have HE := Lib.hid hE
  have HT := Lib.hid hT
  have HF1 := Lib.hid hfit
  have HF2 := Lib.hid (show fairB f c3 c4 c5 c6 = true by unfold fairB; exact decide_eq_true (by omega))
  have HM0 := Lib.hid hm0
  have HM1 := Lib.hid hm1
  obtain ⟨x, hx⟩ : ∃ x, majF a f = x := ⟨_, rfl⟩
  have HX := Lib.hid hx
  obtain ⟨z, hz⟩ : ∃ z, z = ((10 ^ f : Nat) : Int) := ⟨_, rfl⟩
  have HZ := Lib.hid hz
  have hbits := run_bits x
  have hzf : floatOfInt .f64 z = p10 f := by rw [hz]; exact p10_int f hf
  have hop : ∀ t w, (binOp .quo t (.float .f64 (floatOfInt .f64 a)) (.float .f64 (p10 f))).run Tryd.prog w = .ok (.float .f64 x) w := fun t w => run_float_arith w .quo t .f64 _ _ _ (by rw [← hx]; exact maj_some a f (by omega) hf)
  have HOP := Lib.hid hop
  have HZF := Lib.hid hzf
  have HBI := Lib.hid hbits
  clear hE hT hfit hm0 hm1 hx hz hzf hop hbits
  go_enter Tryd.func4, Tryd.ntmps4
  go_wp2_with fail
  have hblk := Blk.new w 29 #[.string c0, .string c1, .int .i64 f, .string c3, .string c4, .string c5, .string c6]
  have hB0 := (Below.refl w.heap.size w).alloc (Nat.le_refl _) (.cells #[.string c0, .string c1, .int .i64 f, .string c3, .string c4, .string c5, .string c6] 29)
  have hz : w.heap.size < (w.alloc (.cells #[.string c0, .string c1, .int .i64 f, .string c3, .string c4, .string c5, .string c6] 29)).heap.size := by simp
  generalize w.alloc _ = w1 at *
  generalize hk : w.heap.size = k at *
  have HK := Lib.hid hk
  have HB1 := Lib.hid hB0
  have HBK := Lib.hid hblk
  have HZ1 := Lib.hid hz
  clear hB0 hblk hk hz
  refine (fits1_any c0 c1 c3 c4 c5 c6 f _ HM0.out HM1.out (by unfold maxLen; omega) (by unfold maxLen; omega) (by unfold maxLen; omega) (by unfold maxLen; omega)).mono ?_
  rintro e w2 ⟨rfl, hb2⟩
  rw [HF1.out]
  have HB2 := Lib.hid (HB1.out.trans (hb2.mono (by have := HB1.out.size; have := HK.out; omega)))
  have HBK2 := Lib.hid (HBK.out.below hb2 HZ1.out)
  have HZ2 := Lib.hid (Nat.lt_of_lt_of_le HZ1.out hb2.size)
  have e0 := HBK2.out.cell 0
  have e1 := HBK2.out.cell 1
  have e2 := HBK2.out.cell 2
  have e3 := HBK2.out.cell 3
  have e4 := HBK2.out.cell 4
  have e5 := HBK2.out.cell 5
  have e6 := HBK2.out.cell 6
  simp only [List.getElem?_toArray, List.getElem?_cons_zero, List.getElem?_cons_succ] at e0 e1 e2 e3 e4 e5 e6
  clear hb2 HB1 HBK HZ1
  go_wp2_with fail
  refine (fair_any c0 c1 c3 c4 c5 c6 f _ (by unfold maxLen; omega) (by unfold maxLen; omega) (by unfold maxLen; omega) (by unfold maxLen; omega)).mono ?_
  rintro e w3 ⟨rfl, hb3⟩
  rw [HF2.out]
  have HB3 := Lib.hid (HB2.out.trans (hb3.mono (by have := HB2.out.size; have := HK.out; omega)))
  have HBK3 := Lib.hid (HBK2.out.below hb3 HZ2.out)
  clear e0 e1 e2 e3 e4 e5 e6
  have e0 := HBK3.out.cell 0
  have e1 := HBK3.out.cell 1
  have e2 := HBK3.out.cell 2
  have e3 := HBK3.out.cell 3
  have e4 := HBK3.out.cell 4
  have e5 := HBK3.out.cell 5
  have e6 := HBK3.out.cell 6
  simp only [List.getElem?_toArray, List.getElem?_cons_zero, List.getElem?_cons_succ] at e0 e1 e2 e3 e4 e5 e6
  clear hb3 HB2 HBK2 HZ2
  go_wp2_with fail
  have hzf := HZF.out
  have hop := HOP.out
  have hbits := HBI.out
  go_region_held3 (fun w' => w'.cell? ⟨k, 0, none⟩ = some (.string c0) ∧ w'.cell? ⟨k, 1, none⟩ = some (.string c1) ∧ w'.cell? ⟨k, 2, none⟩ = some (.int .i64 f) ∧ w'.cell? ⟨k, 3, none⟩ = some (.string c3) ∧ w'.cell? ⟨k, 4, none⟩ = some (.string c4) ∧ w'.cell? ⟨k, 5, none⟩ = some (.string c5) ∧ w'.cell? ⟨k, 6, none⟩ = some (.string c6) ∧ Below w.heap.size w w') (first | exact ⟨e0, e1, e2, e3, e4, e5, e6, HK.out ▸ HB3.out.drew⟩ | exact keepC (by assumption) (by assumption) | assumption) (first
    | (go_at_call 14; refine (implMajor_yes c0 c1 c3 c4 c5 c6 f a x _ hf h3 h4 h5 h6 h0 h1 HX.out (HT.out.below (belowC (by assumption)))).mono ?_; rintro e w4 ⟨rfl, hb4⟩)
    | (go_at_call 9; refine (powerB f z _ hf HZ.out).mono ?_; rintro e w5 ⟨rfl, hb5⟩)
    | (go_at_call 11; refine (alive_any _ (HE.out.below (belowC (by assumption)))).mono ?_; rintro e w6 ⟨rfl, hb6⟩))
  all_goals
    have HFIN := Lib.hid (belowC (by assumption))
    go_wp2
    go_ret
    exact ⟨rfl, HK.out ▸ HFIN.out⟩

set_option maxRecDepth 100000 in
set_option maxHeartbeats 4000000 in
theorem fnMajor_out (c0 c1 c3 c4 c5 c6 : ByteArray) (f a : Int) (w : World) (hm0 : c0.size ≤ maxLen) (hm1 : c1.size ≤ maxLen) (hm3 : c3.size ≤ maxLen) (hm4 : c4.size ≤ maxLen) (hm5 : c5.size ≤ maxLen) (hm6 : c6.size ≤ maxLen)
    (hout : fits1B c0 c1 c3 c4 c5 c6 = true → fairB f c3 c4 c5 c6 = true → False) :
    Calls Tryd.prog 4 #[.agg #[.string c0, .string c1, .int .i64 f, .string c3, .string c4, .string c5, .string c6], .int .i64 a] w fun e w' => e = .returned (.bool true) ∧ Below w.heap.size w w' := by
  have HM0 := Lib.hid hm0
  have HM1 := Lib.hid hm1
  have HM3 := Lib.hid hm3
  have HM4 := Lib.hid hm4
  have HM5 := Lib.hid hm5
  have HM6 := Lib.hid hm6
  have HO := Lib.hid hout
  clear hm0 hm1 hm3 hm4 hm5 hm6 hout
  go_enter Tryd.func4, Tryd.ntmps4
  go_wp2_with fail
  have hblk := Blk.new w 29 #[.string c0, .string c1, .int .i64 f, .string c3, .string c4, .string c5, .string c6]
  have hB0 := (Below.refl w.heap.size w).alloc (Nat.le_refl _) (.cells #[.string c0, .string c1, .int .i64 f, .string c3, .string c4, .string c5, .string c6] 29)
  have hz : w.heap.size < (w.alloc (.cells #[.string c0, .string c1, .int .i64 f, .string c3, .string c4, .string c5, .string c6] 29)).heap.size := by simp
  generalize w.alloc _ = w1 at *
  generalize hk : w.heap.size = k at *
  have HK := Lib.hid hk
  have HB1 := Lib.hid hB0
  have HBK := Lib.hid hblk
  have HZ1 := Lib.hid hz
  clear hB0 hblk hk hz
  refine (fits1_any c0 c1 c3 c4 c5 c6 f _ HM0.out HM1.out HM3.out HM4.out HM5.out HM6.out).mono ?_
  rintro e w2 ⟨rfl, hb2⟩
  have HB2 := Lib.hid (HB1.out.trans (hb2.mono (by have := HB1.out.size; have := HK.out; omega)))
  cases hfit : fits1B c0 c1 c3 c4 c5 c6 with
  | false =>
    clear hfit
    go_wp2_with fail
    go_ret
    exact ⟨rfl, HK.out ▸ HB2.out⟩
  | true =>
    have HFT := Lib.hid hfit
    have HBK2 := Lib.hid (HBK.out.below hb2 HZ1.out)
    have e0 := HBK2.out.cell 0
    have e1 := HBK2.out.cell 1
    have e2 := HBK2.out.cell 2
    have e3 := HBK2.out.cell 3
    have e4 := HBK2.out.cell 4
    have e5 := HBK2.out.cell 5
    have e6 := HBK2.out.cell 6
    simp only [List.getElem?_toArray, List.getElem?_cons_zero, List.getElem?_cons_succ] at e0 e1 e2 e3 e4 e5 e6
    clear hb2 HB1 HBK HZ1 hfit
    go_wp2_with fail
    refine (fair_any c0 c1 c3 c4 c5 c6 f _ HM3.out HM4.out HM5.out HM6.out).mono ?_
    rintro e w3 ⟨rfl, hb3⟩
    have HB3 := Lib.hid (HB2.out.trans (hb3.mono (by have := HB2.out.size; have := HK.out; omega)))
    clear hb3 HB2 HBK2 e0 e1 e2 e3 e4 e5 e6
    cases hfa : fairB f c3 c4 c5 c6 with
    | false =>
      clear hfa
      go_wp2_with fail
      go_ret
      exact ⟨rfl, HK.out ▸ HB3.out⟩
    | true => exact (HO.out HFT.out hfa).elim

theorem fnMajor_law (c0 c1 c3 c4 c5 c6 : ByteArray) (f a : Int) (w : World) (hm0 : c0.size ≤ maxLen) (hm1 : c1.size ≤ maxLen) (hm3 : c3.size ≤ maxLen) (hm4 : c4.size ≤ maxLen) (hm5 : c5.size ≤ maxLen) (hm6 : c6.size ≤ maxLen)
    (h0 : -9223372036854775808 ≤ a) (h1 : a ≤ 9223372036854775807) (hE : ErrAt w) (hT : PowAt w) :
    Calls Tryd.prog 4 #[.agg #[.string c0, .string c1, .int .i64 f, .string c3, .string c4, .string c5, .string c6], .int .i64 a] w fun e w' => e = .returned (.bool true) ∧ Below w.heap.size w w' := by
  by_cases hin : fits1B c0 c1 c3 c4 c5 c6 = true ∧ fairB f c3 c4 c5 c6 = true
  · obtain ⟨hf1, hf2⟩ := hin
    have hf := hf2
    unfold fairB at hf
    have hf := of_decide_eq_true hf
    obtain ⟨n, rfl⟩ : ∃ n : Nat, f = n := ⟨f.toNat, by omega⟩
    exact fnMajor_in c0 c1 c3 c4 c5 c6 n a w (by omega) (by omega) (by omega) (by omega) (by omega) hm0 hm1 hf1 h0 h1 hE hT
  · exact fnMajor_out c0 c1 c3 c4 c5 c6 f a w hm0 hm1 hm3 hm4 hm5 hm6 fun x y => hin ⟨x, y⟩
end Go.Proofs.YtfbdjffpnioinaaDoor
