/- FnOrder, walked: at every two amounts and codes the law returns true and leaves what was there. -/
import Derived.Test.YteanfkmchfhfpaaDoorCmp
namespace Go.Proofs.YteanfkmchfhfpaaDoor
open Go.RowKit

def orderV (same : Bool) (a b : Int) : Value := if same then .tuple #[.int .i64 (cmpI a b), .bool true] else .tuple #[.int .i64 a, .bool false]
def sameB (s t : ByteArray) : Bool := (upB s).toList == (upB t).toList
theorem sameB_code {s t : ByteArray} (h : sameB s t = true) : (curFor (upB s)).code = (curFor (upB t)).code := by
  rw [code_curFor, code_curFor]; exact bytes_eq h
theorem sameB_code_ne {s t : ByteArray} (h : sameB s t = false) : (curFor (upB s)).code ≠ (curFor (upB t)).code := by
  rw [code_curFor, code_curFor]
  intro he
  unfold sameB at h
  rw [he] at h
  simp at h

set_option maxHeartbeats 1000000 in
theorem implOrder_any (a : Int) (s : ByteArray) (b : Int) (t : ByteArray) (w : World) (hs : plainB s = true) (ht : plainB t = true) (hE : ErrAt w) :
    Calls Tryd.prog 26 #[.int .i64 a, .string s, .int .i64 b, .string t] w fun e w' => e = .returned (orderV (sameB s t) a b) ∧ Below w.heap.size w w' := by
  have s20 := plainB_size hs
  have t20 := plainB_size ht
  have HS := Lib.hid hs
  have HT := Lib.hid ht
  have HE := Lib.hid hE
  clear hs ht hE
  cases hsame : sameB s t
  all_goals
    have HSAME := Lib.hid hsame
    clear hsame
    go_enter Tryd.func26, Tryd.ntmps26
    go_wp2_with fail
    refine (short_yes s _ (by omega)).mono ?_
    rintro e _ ⟨rfl, rfl⟩
    go_wp2_with fail
    refine (short_yes t _ (by omega)).mono ?_
    rintro e _ ⟨rfl, rfl⟩
    go_wp2_with fail
    refine (new_any a s _ (by omega) (plainB_asc HS.out)).mono ?_
    rintro e w1 ⟨g1, rfl, hm1, hg1, hb1⟩
    have HM1 := Lib.hid hm1
    have HB1 := Lib.hid hb1
    clear hm1 hb1
    go_wp2_with fail
    refine (new_any b t _ (by omega) (plainB_asc HT.out)).mono ?_
    rintro e w2 ⟨g2, rfl, hm2, hg2, hb2⟩
    have HM2 := Lib.hid hm2
    have HM1' := Lib.hid (HM1.out.below hb2)
    have HB2 := Lib.hid (HB1.out.trans (hb2.mono HB1.out.size))
    clear hm2 hb2
    go_wp2_with fail
  · refine (order_no a b _ _ g1 g2 _ HM1'.out HM2.out (sameB_code_ne HSAME.out) (HE.out.below HB2.out)).mono ?_
    rintro e w3 ⟨tt, vv, rfl, n3, rfl⟩
    go_wp2_with fail
    go_quiet (fail)
    go_wp2_with fail
    go_ret2
    exact ⟨rfl, below_drewN (below_drewN HB2.out n3) _⟩
  · refine (order_yes a b _ _ g1 g2 _ HM1'.out HM2.out (sameB_code HSAME.out)).mono ?_
    rintro e w3 ⟨rfl, n3, rfl⟩
    go_wp2_with fail
    go_quiet (fail)
    go_wp2_with fail
    go_ret2
    exact ⟨rfl, below_drewN (below_drewN HB2.out n3) _⟩

set_option maxHeartbeats 2000000 in
theorem fnOrder_two (a : Int) (s : ByteArray) (b : Int) (t : ByteArray) (w : World) (hs : plainB s = true) (ht : plainB t = true) (hE : ErrAt w) (hsame : sameB s t = false) :
    Calls Tryd.prog 9 #[.int .i64 a, .string s, .int .i64 b, .string t] w fun e w' => e = .returned (.bool true) ∧ Below w.heap.size w w' := by
  have s20 := plainB_size hs
  have t20 := plainB_size ht
  have HS := Lib.hid hs
  have HT := Lib.hid ht
  have HE := Lib.hid hE
  have HSAME := Lib.hid hsame
  clear hs ht hE hsame
  by_cases h1 : b < a
  · skip
    go_enter Tryd.func9, Tryd.ntmps9
    go_wp2_with fail
    refine (plain_any s _ (by unfold maxLen; omega)).mono ?_
    rintro e _ ⟨rfl, rfl⟩
    rw [HS.out]
    go_wp2_with fail
    refine (plain_any t _ (by unfold maxLen; omega)).mono ?_
    rintro e _ ⟨rfl, rfl⟩
    rw [HT.out]
    go_wp2_with fail
    refine (upper_any s _ (by omega)).mono ?_
    rintro e w1 ⟨rfl, hb1⟩
    have HB1 := Lib.hid hb1
    clear hb1
    go_wp2_with fail
    refine (upper_any t _ (by omega)).mono ?_
    rintro e w2 ⟨rfl, hb2⟩
    have HB2 := Lib.hid (HB1.out.trans (hb2.mono HB1.out.size))
    clear hb2
    have hsm : ((upB s).toList == (upB t).toList) = false := HSAME.out
    go_wp2_with fail
    clear hsm
    refine (implOrder_any a s b t _ HS.out HT.out (HE.out.below HB2.out)).mono ?_
    rintro e w3 ⟨rfl, hb3⟩
    have HB3 := Lib.hid (HB2.out.trans (hb3.mono HB2.out.size))
    clear hb3
    rw [HSAME.out]
    have e1 : orderV false a b = .tuple #[.int .i64 a, .bool false] := rfl
    rw [e1]; clear e1
    go_wp2_with fail
    refine (alive_any _ (HE.out.below HB3.out)).mono ?_
    rintro e w4 ⟨rfl, hb4⟩
    have HB4 := Lib.hid (HB3.out.trans (hb4.mono HB3.out.size))
    clear hb4
    go_wp2_with fail
    go_ret
    exact ⟨rfl, HB4.out⟩
  · have h1' : decide (b < a) = false := by simp; omega
    by_cases h2 : a < b
    · skip
      go_enter Tryd.func9, Tryd.ntmps9
      go_wp2_with fail
      refine (plain_any s _ (by unfold maxLen; omega)).mono ?_
      rintro e _ ⟨rfl, rfl⟩
      rw [HS.out]
      go_wp2_with fail
      refine (plain_any t _ (by unfold maxLen; omega)).mono ?_
      rintro e _ ⟨rfl, rfl⟩
      rw [HT.out]
      go_wp2_with fail
      refine (upper_any s _ (by omega)).mono ?_
      rintro e w1 ⟨rfl, hb1⟩
      have HB1 := Lib.hid hb1
      clear hb1
      go_wp2_with fail
      refine (upper_any t _ (by omega)).mono ?_
      rintro e w2 ⟨rfl, hb2⟩
      have HB2 := Lib.hid (HB1.out.trans (hb2.mono HB1.out.size))
      clear hb2
      have hsm : ((upB s).toList == (upB t).toList) = false := HSAME.out
      go_wp2_with fail
      clear hsm
      refine (implOrder_any a s b t _ HS.out HT.out (HE.out.below HB2.out)).mono ?_
      rintro e w3 ⟨rfl, hb3⟩
      have HB3 := Lib.hid (HB2.out.trans (hb3.mono HB2.out.size))
      clear hb3
      rw [HSAME.out]
      have e1 : orderV false a b = .tuple #[.int .i64 a, .bool false] := rfl
      rw [e1]; clear e1
      go_wp2_with fail
      refine (alive_any _ (HE.out.below HB3.out)).mono ?_
      rintro e w4 ⟨rfl, hb4⟩
      have HB4 := Lib.hid (HB3.out.trans (hb4.mono HB3.out.size))
      clear hb4
      go_wp2_with fail
      go_ret
      exact ⟨rfl, HB4.out⟩
    · have h2' : decide (a < b) = false := by simp; omega
      go_enter Tryd.func9, Tryd.ntmps9
      go_wp2_with fail
      refine (plain_any s _ (by unfold maxLen; omega)).mono ?_
      rintro e _ ⟨rfl, rfl⟩
      rw [HS.out]
      go_wp2_with fail
      refine (plain_any t _ (by unfold maxLen; omega)).mono ?_
      rintro e _ ⟨rfl, rfl⟩
      rw [HT.out]
      go_wp2_with fail
      refine (upper_any s _ (by omega)).mono ?_
      rintro e w1 ⟨rfl, hb1⟩
      have HB1 := Lib.hid hb1
      clear hb1
      go_wp2_with fail
      refine (upper_any t _ (by omega)).mono ?_
      rintro e w2 ⟨rfl, hb2⟩
      have HB2 := Lib.hid (HB1.out.trans (hb2.mono HB1.out.size))
      clear hb2
      have hsm : ((upB s).toList == (upB t).toList) = false := HSAME.out
      go_wp2_with fail
      clear hsm
      refine (implOrder_any a s b t _ HS.out HT.out (HE.out.below HB2.out)).mono ?_
      rintro e w3 ⟨rfl, hb3⟩
      have HB3 := Lib.hid (HB2.out.trans (hb3.mono HB2.out.size))
      clear hb3
      rw [HSAME.out]
      have e1 : orderV false a b = .tuple #[.int .i64 a, .bool false] := rfl
      rw [e1]; clear e1
      go_wp2_with fail
      refine (alive_any _ (HE.out.below HB3.out)).mono ?_
      rintro e w4 ⟨rfl, hb4⟩
      have HB4 := Lib.hid (HB3.out.trans (hb4.mono HB3.out.size))
      clear hb4
      go_wp2_with fail
      go_ret
      exact ⟨rfl, HB4.out⟩

set_option maxHeartbeats 2000000 in
theorem fnOrder_one (a : Int) (s : ByteArray) (b : Int) (t : ByteArray) (w : World) (hs : plainB s = true) (ht : plainB t = true) (hE : ErrAt w) (hsame : sameB s t = true) :
    Calls Tryd.prog 9 #[.int .i64 a, .string s, .int .i64 b, .string t] w fun e w' => e = .returned (.bool true) ∧ Below w.heap.size w w' := by
  have s20 := plainB_size hs
  have t20 := plainB_size ht
  have HS := Lib.hid hs
  have HT := Lib.hid ht
  have HE := Lib.hid hE
  have HSAME := Lib.hid hsame
  clear hs ht hE hsame
  by_cases h1 : b < a
  · have HC := Lib.hid (show orderV true a b = .tuple #[.int .i64 1, .bool true] by simp [orderV, cmpI, h1])
    go_enter Tryd.func9, Tryd.ntmps9
    go_wp2_with fail
    refine (plain_any s _ (by unfold maxLen; omega)).mono ?_
    rintro e _ ⟨rfl, rfl⟩
    rw [HS.out]
    go_wp2_with fail
    refine (plain_any t _ (by unfold maxLen; omega)).mono ?_
    rintro e _ ⟨rfl, rfl⟩
    rw [HT.out]
    go_wp2_with fail
    refine (upper_any s _ (by omega)).mono ?_
    rintro e w1 ⟨rfl, hb1⟩
    have HB1 := Lib.hid hb1
    clear hb1
    go_wp2_with fail
    refine (upper_any t _ (by omega)).mono ?_
    rintro e w2 ⟨rfl, hb2⟩
    have HB2 := Lib.hid (HB1.out.trans (hb2.mono HB1.out.size))
    clear hb2
    have hsm : ((upB s).toList == (upB t).toList) = true := HSAME.out
    go_wp2_with fail
    clear hsm
    refine (implOrder_any a s b t _ HS.out HT.out (HE.out.below HB2.out)).mono ?_
    rintro e w3 ⟨rfl, hb3⟩
    have HB3 := Lib.hid (HB2.out.trans (hb3.mono HB2.out.size))
    clear hb3
    rw [HSAME.out]
    rw [HC.out]
    go_wp2_with fail
    refine (alive_any _ (HE.out.below HB3.out)).mono ?_
    rintro e w4 ⟨rfl, hb4⟩
    have HB4 := Lib.hid (HB3.out.trans (hb4.mono HB3.out.size))
    clear hb4
    go_wp2_with fail
    go_ret
    exact ⟨rfl, HB4.out⟩
  · have h1' : decide (b < a) = false := by simp; omega
    by_cases h2 : a < b
    · have HC := Lib.hid (show orderV true a b = .tuple #[.int .i64 (-1), .bool true] by simp [orderV, cmpI, h1, h2])
      go_enter Tryd.func9, Tryd.ntmps9
      go_wp2_with fail
      refine (plain_any s _ (by unfold maxLen; omega)).mono ?_
      rintro e _ ⟨rfl, rfl⟩
      rw [HS.out]
      go_wp2_with fail
      refine (plain_any t _ (by unfold maxLen; omega)).mono ?_
      rintro e _ ⟨rfl, rfl⟩
      rw [HT.out]
      go_wp2_with fail
      refine (upper_any s _ (by omega)).mono ?_
      rintro e w1 ⟨rfl, hb1⟩
      have HB1 := Lib.hid hb1
      clear hb1
      go_wp2_with fail
      refine (upper_any t _ (by omega)).mono ?_
      rintro e w2 ⟨rfl, hb2⟩
      have HB2 := Lib.hid (HB1.out.trans (hb2.mono HB1.out.size))
      clear hb2
      have hsm : ((upB s).toList == (upB t).toList) = true := HSAME.out
      go_wp2_with fail
      clear hsm
      refine (implOrder_any a s b t _ HS.out HT.out (HE.out.below HB2.out)).mono ?_
      rintro e w3 ⟨rfl, hb3⟩
      have HB3 := Lib.hid (HB2.out.trans (hb3.mono HB2.out.size))
      clear hb3
      rw [HSAME.out]
      rw [HC.out]
      go_wp2_with fail
      refine (alive_any _ (HE.out.below HB3.out)).mono ?_
      rintro e w4 ⟨rfl, hb4⟩
      have HB4 := Lib.hid (HB3.out.trans (hb4.mono HB3.out.size))
      clear hb4
      go_wp2_with fail
      go_ret
      exact ⟨rfl, HB4.out⟩
    · have HC := Lib.hid (show orderV true a b = .tuple #[.int .i64 0, .bool true] by simp [orderV, cmpI, h1, h2])
      have h2' : decide (a < b) = false := by simp; omega
      go_enter Tryd.func9, Tryd.ntmps9
      go_wp2_with fail
      refine (plain_any s _ (by unfold maxLen; omega)).mono ?_
      rintro e _ ⟨rfl, rfl⟩
      rw [HS.out]
      go_wp2_with fail
      refine (plain_any t _ (by unfold maxLen; omega)).mono ?_
      rintro e _ ⟨rfl, rfl⟩
      rw [HT.out]
      go_wp2_with fail
      refine (upper_any s _ (by omega)).mono ?_
      rintro e w1 ⟨rfl, hb1⟩
      have HB1 := Lib.hid hb1
      clear hb1
      go_wp2_with fail
      refine (upper_any t _ (by omega)).mono ?_
      rintro e w2 ⟨rfl, hb2⟩
      have HB2 := Lib.hid (HB1.out.trans (hb2.mono HB1.out.size))
      clear hb2
      have hsm : ((upB s).toList == (upB t).toList) = true := HSAME.out
      go_wp2_with fail
      clear hsm
      refine (implOrder_any a s b t _ HS.out HT.out (HE.out.below HB2.out)).mono ?_
      rintro e w3 ⟨rfl, hb3⟩
      have HB3 := Lib.hid (HB2.out.trans (hb3.mono HB2.out.size))
      clear hb3
      rw [HSAME.out]
      rw [HC.out]
      go_wp2_with fail
      refine (alive_any _ (HE.out.below HB3.out)).mono ?_
      rintro e w4 ⟨rfl, hb4⟩
      have HB4 := Lib.hid (HB3.out.trans (hb4.mono HB3.out.size))
      clear hb4
      go_wp2_with fail
      go_ret
      exact ⟨rfl, HB4.out⟩

set_option maxHeartbeats 1000000 in
theorem fnOrder_law (a : Int) (s : ByteArray) (b : Int) (t : ByteArray) (w : World) (_ha0 : -9223372036854775808 ≤ a) (_ha1 : a ≤ 9223372036854775807) (hs : s.size ≤ maxLen) (_hb0 : -9223372036854775808 ≤ b) (_hb1 : b ≤ 9223372036854775807) (ht : t.size ≤ maxLen) (hE : ErrAt w) :
    Calls Tryd.prog 9 #[.int .i64 a, .string s, .int .i64 b, .string t] w fun e w' => e = .returned (.bool true) ∧ Below w.heap.size w w' := by
  by_cases hin : plainB s = true ∧ plainB t = true
  · cases hsame : sameB s t with
    | true => exact fnOrder_one a s b t w hin.1 hin.2 hE hsame
    | false => exact fnOrder_two a s b t w hin.1 hin.2 hE hsame
  · have hs' : s.size ≤ 9223372036854775807 := by unfold maxLen at hs; omega
    have ht' : t.size ≤ 9223372036854775807 := by unfold maxLen at ht; omega
    have HS := Lib.hid hs
    have HT := Lib.hid ht
    clear hs ht hE _ha0 _ha1 _hb0 _hb1
    by_cases hbig : 2147483647 < s.size
    · clear hin
      go_enter Tryd.func9, Tryd.ntmps9
      go_wp2_with fail
      go_ret
      exact ⟨rfl, Below.refl _ _⟩
    · by_cases hbig2 : 2147483647 < t.size
      · clear hin
        go_enter Tryd.func9, Tryd.ntmps9
        go_wp2_with fail
        go_ret
        exact ⟨rfl, Below.refl _ _⟩
      · cases hp : plainB s with
        | false =>
          have HP := Lib.hid hp
          clear hp hin
          go_enter Tryd.func9, Tryd.ntmps9
          go_wp2_with fail
          refine (plain_any s _ HS.out).mono ?_
          rintro e _ ⟨rfl, rfl⟩
          rw [HP.out]
          go_wp2_with fail
          go_ret
          exact ⟨rfl, Below.refl _ _⟩
        | true =>
          have HP := Lib.hid hp
          have HQ : Hid (plainB t = false) := Bool.eq_false_iff.2 fun h => hin ⟨hp, h⟩
          clear hp hin
          go_enter Tryd.func9, Tryd.ntmps9
          go_wp2_with fail
          refine (plain_any s _ HS.out).mono ?_
          rintro e _ ⟨rfl, rfl⟩
          rw [HP.out]
          go_wp2_with fail
          refine (plain_any t _ HT.out).mono ?_
          rintro e _ ⟨rfl, rfl⟩
          rw [HQ.out]
          go_wp2_with fail
          go_ret
          exact ⟨rfl, Below.refl _ _⟩
end Go.Proofs.YteanfkmchfhfpaaDoor
