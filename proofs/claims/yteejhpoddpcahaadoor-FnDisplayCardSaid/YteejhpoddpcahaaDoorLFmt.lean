/- FnFormat, walked. -/
import Derived.Test.YteejhpoddpcahaaDoorFair
import Derived.Test.YteejhpoddpcahaaDoorSpFmt
import Derived.Test.YteejhpoddpcahaaDoorAlive
import Derived.Deep.RegionHeld3
namespace Go.Proofs.YteejhpoddpcahaaDoor
open Go.RowKit

theorem keepC {W w w' : World} {p0 p1 p2 p3 p4 p5 p6 : Addr} {v0 v1 v2 v3 v4 v5 v6 : Value}
    (h : w.cell? p0 = some v0 ∧ w.cell? p1 = some v1 ∧ w.cell? p2 = some v2 ∧ w.cell? p3 = some v3 ∧ w.cell? p4 = some v4 ∧ w.cell? p5 = some v5 ∧ w.cell? p6 = some v6 ∧ Below W.heap.size W w) (hb : Below w.heap.size w w') :
    w'.cell? p0 = some v0 ∧ w'.cell? p1 = some v1 ∧ w'.cell? p2 = some v2 ∧ w'.cell? p3 = some v3 ∧ w'.cell? p4 = some v4 ∧ w'.cell? p5 = some v5 ∧ w'.cell? p6 = some v6 ∧ Below W.heap.size W w' := by
  obtain ⟨h0, h1, h2, h3, h4, h5, h6, h7⟩ := h
  exact ⟨keep_cell h0 hb, keep_cell h1 hb, keep_cell h2 hb, keep_cell h3 hb, keep_cell h4 hb, keep_cell h5 hb, keep_cell h6 hb, h7.trans (hb.mono h7.size)⟩
theorem belowC {W w : World} {p0 p1 p2 p3 p4 p5 p6 : Addr} {v0 v1 v2 v3 v4 v5 v6 : Value}
    (h : w.cell? p0 = some v0 ∧ w.cell? p1 = some v1 ∧ w.cell? p2 = some v2 ∧ w.cell? p3 = some v3 ∧ w.cell? p4 = some v4 ∧ w.cell? p5 = some v5 ∧ w.cell? p6 = some v6 ∧ Below W.heap.size W w) : Below W.heap.size W w := h.2.2.2.2.2.2.2

theorem implFormat_is (c0 c1 c3 c4 c5 c6 : ByteArray) (f : Nat) (a : Int) (R : ByteArray) (w : World) (hR : R = ofL (fmtL f c5.data.toList c6.data.toList c3.data.toList c4.data.toList a)) (hf : f ≤ 18) (h3 : c3.size ≤ 20) (h4 : c4.size ≤ 20) (h5 : c5.size ≤ 20) (h6 : c6.size ≤ 20) (h0 : -9223372036854775807 ≤ a) (h1 : a ≤ 9223372036854775807) (hT : TabAt w) :
    Calls Tryd.prog 13 #[.agg #[.string c0, .string c1, .int .i64 f, .string c3, .string c4, .string c5, .string c6], .int .i64 a] w fun e w' => e = .returned (.string R) ∧ Below w.heap.size w w' := by
  rw [hR]; exact implFormat_yes c0 c1 c3 c4 c5 c6 f a w hf h3 h4 h5 h6 h0 h1 hT
theorem specFormat_is (f : Nat) (D T G M : ByteArray) (a : Int) (R : ByteArray) (w : World) (hR : R = ofL (fmtL f D.data.toList T.data.toList G.data.toList M.data.toList a)) (hf : f ≤ 18) (hD : D.size ≤ 100) (hT : T.size ≤ 100) (hG : G.size ≤ 100) (hM : M.size ≤ 100)
    (h0 : -9223372036854775807 ≤ a) (h1 : a ≤ 9223372036854775807) :
    Calls Tryd.prog 14 #[.int .i64 f, .string D, .string T, .string G, .string M, .int .i64 a] w fun e w' => e = .returned (.string R) ∧ Below w.heap.size w w' := by
  rw [hR]; exact specFormat_any f D T G M a w hf hD hT hG hM h0 h1

set_option maxRecDepth 100000 in
set_option maxHeartbeats 4000000 in
theorem fnFormat_in (c0 c1 c3 c4 c5 c6 : ByteArray) (f : Nat) (a : Int) (w : World) (hf : f ≤ 18) (h3 : c3.size ≤ 20) (h4 : c4.size ≤ 20) (h5 : c5.size ≤ 20) (h6 : c6.size ≤ 20) (hm0 : c0.size ≤ maxLen) (hm1 : c1.size ≤ maxLen)
    (hfit : fits1B c0 c1 c3 c4 c5 c6 = true) (h0 : -9223372036854775807 ≤ a) (h1 : a ≤ 9223372036854775807) (hE : ErrAt w) (hT : TabAt w) :
    Calls Tryd.prog 3 #[.agg #[.string c0, .string c1, .int .i64 f, .string c3, .string c4, .string c5, .string c6], .int .i64 a] w fun e w' => e = .returned (.bool true) ∧ Below w.heap.size w w' := by
  have HE := Lib.hid hE
  have HT := Lib.hid hT
  have HF1 := Lib.hid hfit
  have HF2 := Lib.hid (show fairB f c3 c4 c5 c6 = true by unfold fairB; exact decide_eq_true (by omega))
  have HM0 := Lib.hid hm0
  have HM1 := Lib.hid hm1
  have hne : (a == -9223372036854775808) = false := by rw [beq_eq_false_iff_ne]; omega
  obtain ⟨R, hR⟩ : ∃ R, R = ofL (fmtL f c5.data.toList c6.data.toList c3.data.toList c4.data.toList a) := ⟨_, rfl⟩
  have HR := Lib.hid hR
  clear hE hT hfit hm0 hm1 hR
  go_enter Tryd.func3, Tryd.ntmps3
  go_wp2_with fail
  have hblk := Blk.new w 23 #[.string c0, .string c1, .int .i64 f, .string c3, .string c4, .string c5, .string c6]
  have hB0 := (Below.refl w.heap.size w).alloc (Nat.le_refl _) (.cells #[.string c0, .string c1, .int .i64 f, .string c3, .string c4, .string c5, .string c6] 23)
  have hz : w.heap.size < (w.alloc (.cells #[.string c0, .string c1, .int .i64 f, .string c3, .string c4, .string c5, .string c6] 23)).heap.size := by simp
  generalize w.alloc _ = w1 at *
  generalize hk : w.heap.size = k at *
  have HK := Lib.hid hk
  have HB1 := Lib.hid hB0
  have HBK := Lib.hid hblk
  have HZ1 := Lib.hid hz
  clear hB0 hblk hk hz
  refine (fits1_any c0 c1 c3 c4 c5 c6 f _ HM0.out HM1.out (by unfold maxLen; omega) (by unfold maxLen; omega) (by unfold maxLen; omega) (by unfold maxLen; omega)).mono ?_
  rintro e w2 ⟨rfl, hb2⟩
  rw [HF1.out]
  have HB2 := Lib.hid (HB1.out.trans (hb2.mono (by have := HB1.out.size; have := HK.out; omega)))
  have HBK2 := Lib.hid (HBK.out.below hb2 HZ1.out)
  have HZ2 := Lib.hid (Nat.lt_of_lt_of_le HZ1.out hb2.size)
  have e0 := HBK2.out.cell 0
  have e1 := HBK2.out.cell 1
  have e2 := HBK2.out.cell 2
  have e3 := HBK2.out.cell 3
  have e4 := HBK2.out.cell 4
  have e5 := HBK2.out.cell 5
  have e6 := HBK2.out.cell 6
  simp only [List.getElem?_toArray, List.getElem?_cons_zero, List.getElem?_cons_succ] at e0 e1 e2 e3 e4 e5 e6
  clear hb2 HB1 HBK HZ1
  go_wp2_with fail
  refine (fair_any c0 c1 c3 c4 c5 c6 f _ (by unfold maxLen; omega) (by unfold maxLen; omega) (by unfold maxLen; omega) (by unfold maxLen; omega)).mono ?_
  rintro e w3 ⟨rfl, hb3⟩
  rw [HF2.out]
  have HB3 := Lib.hid (HB2.out.trans (hb3.mono (by have := HB2.out.size; have := HK.out; omega)))
  have HBK3 := Lib.hid (HBK2.out.below hb3 HZ2.out)
  clear e0 e1 e2 e3 e4 e5 e6
  have e0 := HBK3.out.cell 0
  have e1 := HBK3.out.cell 1
  have e2 := HBK3.out.cell 2
  have e3 := HBK3.out.cell 3
  have e4 := HBK3.out.cell 4
  have e5 := HBK3.out.cell 5
  have e6 := HBK3.out.cell 6
  simp only [List.getElem?_toArray, List.getElem?_cons_zero, List.getElem?_cons_succ] at e0 e1 e2 e3 e4 e5 e6
  clear hb3 HB2 HBK2 HZ2
  go_wp2_with fail
  go_region_held3 (fun w' => w'.cell? ⟨k, 0, none⟩ = some (.string c0) ∧ w'.cell? ⟨k, 1, none⟩ = some (.string c1) ∧ w'.cell? ⟨k, 2, none⟩ = some (.int .i64 f) ∧ w'.cell? ⟨k, 3, none⟩ = some (.string c3) ∧ w'.cell? ⟨k, 4, none⟩ = some (.string c4) ∧ w'.cell? ⟨k, 5, none⟩ = some (.string c5) ∧ w'.cell? ⟨k, 6, none⟩ = some (.string c6) ∧ Below w.heap.size w w') (first | exact ⟨e0, e1, e2, e3, e4, e5, e6, HK.out ▸ HB3.out.drew⟩ | exact keepC (by assumption) (by assumption)) (first
    | (go_at_call 13; refine (implFormat_is c0 c1 c3 c4 c5 c6 f a R _ HR.out hf h3 h4 h5 h6 h0 h1 (HT.out.below (belowC (by assumption)))).mono ?_; rintro e w4 ⟨rfl, hb4⟩)
    | (go_at_call 14; refine (specFormat_is f c5 c6 c3 c4 a R _ HR.out hf (by omega) (by omega) (by omega) (by omega) h0 h1).mono ?_; rintro e w5 ⟨rfl, hb5⟩)
    | (go_at_call 15; refine (alive_any _ (HE.out.below (belowC (by assumption)))).mono ?_; rintro e w6 ⟨rfl, hb6⟩))
  all_goals
    have HFIN := Lib.hid (belowC (by assumption))
    go_wp2
    go_ret
    exact ⟨rfl, HK.out ▸ HFIN.out⟩

set_option maxRecDepth 100000 in
set_option maxHeartbeats 4000000 in
theorem fnFormat_out (c0 c1 c3 c4 c5 c6 : ByteArray) (f a : Int) (w : World) (hm0 : c0.size ≤ maxLen) (hm1 : c1.size ≤ maxLen) (hm3 : c3.size ≤ maxLen) (hm4 : c4.size ≤ maxLen) (hm5 : c5.size ≤ maxLen) (hm6 : c6.size ≤ maxLen)
    (hout : fits1B c0 c1 c3 c4 c5 c6 = true → fairB f c3 c4 c5 c6 = true → a = -9223372036854775808) :
    Calls Tryd.prog 3 #[.agg #[.string c0, .string c1, .int .i64 f, .string c3, .string c4, .string c5, .string c6], .int .i64 a] w fun e w' => e = .returned (.bool true) ∧ Below w.heap.size w w' := by
  have HM0 := Lib.hid hm0
  have HM1 := Lib.hid hm1
  have HM3 := Lib.hid hm3
  have HM4 := Lib.hid hm4
  have HM5 := Lib.hid hm5
  have HM6 := Lib.hid hm6
  have HO := Lib.hid hout
  clear hm0 hm1 hm3 hm4 hm5 hm6 hout
  go_enter Tryd.func3, Tryd.ntmps3
  go_wp2_with fail
  have hblk := Blk.new w 23 #[.string c0, .string c1, .int .i64 f, .string c3, .string c4, .string c5, .string c6]
  have hB0 := (Below.refl w.heap.size w).alloc (Nat.le_refl _) (.cells #[.string c0, .string c1, .int .i64 f, .string c3, .string c4, .string c5, .string c6] 23)
  have hz : w.heap.size < (w.alloc (.cells #[.string c0, .string c1, .int .i64 f, .string c3, .string c4, .string c5, .string c6] 23)).heap.size := by simp
  generalize w.alloc _ = w1 at *
  generalize hk : w.heap.size = k at *
  have HK := Lib.hid hk
  have HB1 := Lib.hid hB0
  have HBK := Lib.hid hblk
  have HZ1 := Lib.hid hz
  clear hB0 hblk hk hz
  refine (fits1_any c0 c1 c3 c4 c5 c6 f _ HM0.out HM1.out HM3.out HM4.out HM5.out HM6.out).mono ?_
  rintro e w2 ⟨rfl, hb2⟩
  have HB2 := Lib.hid (HB1.out.trans (hb2.mono (by have := HB1.out.size; have := HK.out; omega)))
  cases hfit : fits1B c0 c1 c3 c4 c5 c6 with
  | false =>
    clear hfit
    go_wp2_with fail
    go_ret
    exact ⟨rfl, HK.out ▸ HB2.out⟩
  | true =>
    have HFT := Lib.hid hfit
    have HBK2 := Lib.hid (HBK.out.below hb2 HZ1.out)
    have e0 := HBK2.out.cell 0
    have e1 := HBK2.out.cell 1
    have e2 := HBK2.out.cell 2
    have e3 := HBK2.out.cell 3
    have e4 := HBK2.out.cell 4
    have e5 := HBK2.out.cell 5
    have e6 := HBK2.out.cell 6
    simp only [List.getElem?_toArray, List.getElem?_cons_zero, List.getElem?_cons_succ] at e0 e1 e2 e3 e4 e5 e6
    clear hb2 HB1 HBK HZ1 hfit
    go_wp2_with fail
    refine (fair_any c0 c1 c3 c4 c5 c6 f _ HM3.out HM4.out HM5.out HM6.out).mono ?_
    rintro e w3 ⟨rfl, hb3⟩
    have HB3 := Lib.hid (HB2.out.trans (hb3.mono (by have := HB2.out.size; have := HK.out; omega)))
    clear hb3 HB2 HBK2 e0 e1 e2 e3 e4 e5 e6
    cases hfa : fairB f c3 c4 c5 c6 with
    | false =>
      clear hfa
      go_wp2_with fail
      go_ret
      exact ⟨rfl, HK.out ▸ HB3.out⟩
    | true =>
      obtain rfl := HO.out HFT.out hfa
      clear hfa HO
      go_wp2_with fail
      go_ret
      exact ⟨rfl, HK.out ▸ HB3.out⟩

theorem fnFormat_law (c0 c1 c3 c4 c5 c6 : ByteArray) (f a : Int) (w : World) (hm0 : c0.size ≤ maxLen) (hm1 : c1.size ≤ maxLen) (hm3 : c3.size ≤ maxLen) (hm4 : c4.size ≤ maxLen) (hm5 : c5.size ≤ maxLen) (hm6 : c6.size ≤ maxLen)
    (h0 : -9223372036854775808 ≤ a) (h1 : a ≤ 9223372036854775807) (hE : ErrAt w) (hT : TabAt w) :
    Calls Tryd.prog 3 #[.agg #[.string c0, .string c1, .int .i64 f, .string c3, .string c4, .string c5, .string c6], .int .i64 a] w fun e w' => e = .returned (.bool true) ∧ Below w.heap.size w w' := by
  by_cases hin : fits1B c0 c1 c3 c4 c5 c6 = true ∧ fairB f c3 c4 c5 c6 = true ∧ a ≠ -9223372036854775808
  · obtain ⟨hf1, hf2, ha⟩ := hin
    have hf := hf2
    unfold fairB at hf
    have hf := of_decide_eq_true hf
    obtain ⟨n, rfl⟩ : ∃ n : Nat, f = n := ⟨f.toNat, by omega⟩
    exact fnFormat_in c0 c1 c3 c4 c5 c6 n a w (by omega) (by omega) (by omega) (by omega) (by omega) hm0 hm1 hf1 (by omega) h1 hE hT
  · exact fnFormat_out c0 c1 c3 c4 c5 c6 f a w hm0 hm1 hm3 hm4 hm5 hm6 fun x y => by
      by_cases h : a = -9223372036854775808
      · exact h
      · exact absurd ⟨x, y, h⟩ hin
end Go.Proofs.YteejhpoddpcahaaDoor
