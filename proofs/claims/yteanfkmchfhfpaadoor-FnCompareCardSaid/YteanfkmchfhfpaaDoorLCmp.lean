/- FnCompare, walked: at every comparison and every two amounts and codes the law returns true and leaves what was there. -/
import Derived.Test.YteanfkmchfhfpaaDoorICmp
namespace Go.Proofs.YteanfkmchfhfpaaDoor
open Go.RowKit

set_option maxRecDepth 100000 in
set_option maxHeartbeats 2000000 in
theorem fnCompare0_yes (n : Nat) (a : Int) (s : ByteArray) (b : Int) (t : ByteArray) (w : World) (hn : n ≤ 255) (hk : (n : Int) % 5 = 0) (hs : plainB s = true) (ht : plainB t = true) (hE : ErrAt w) (hsame : sameB s t = true) :
    Calls Tryd.prog 12 #[.int .u8 n, .int .i64 a, .string s, .int .i64 b, .string t] w fun e w' => e = .returned (.bool true) ∧ Below w.heap.size w w' := by
  have s20 := plainB_size hs
  have t20 := plainB_size ht
  have HS := Lib.hid hs
  have HT := Lib.hid ht
  have HE := Lib.hid hE
  have HSAME := Lib.hid hsame
  clear hs ht hE hsame
  cases hx : (a == b)
  all_goals
    go_enter Tryd.func12, Tryd.ntmps12
    go_wp2_with fail
    refine (plain_any s _ (by unfold maxLen; omega)).mono ?_
    rintro e _ ⟨rfl, rfl⟩
    rw [HS.out]
    go_wp2_with fail
    refine (plain_any t _ (by unfold maxLen; omega)).mono ?_
    rintro e _ ⟨rfl, rfl⟩
    rw [HT.out]
    go_wp2_with fail
    refine (upper_any s _ (by omega)).mono ?_
    rintro e w1 ⟨rfl, hb1⟩
    have HB1 := Lib.hid (((Below.refl _ w).alloc (Nat.le_refl _) _).trans (hb1.mono (by simp)))
    clear hb1
    go_wp2_with fail
    refine (upper_any t _ (by omega)).mono ?_
    rintro e w2 ⟨rfl, hb2⟩
    have HB2 := Lib.hid (HB1.out.trans (hb2.mono HB1.out.size))
    clear hb2
    have hsm : ((upB s).toList == (upB t).toList) = true := HSAME.out
    go_wp2_with fail
    clear hsm
    refine (implCompare0_yes a s b t _ HS.out HT.out (HE.out.below HB2.out) HSAME.out).mono ?_
    rintro e w3 ⟨rfl, hb3⟩
    have HB3 := Lib.hid (HB2.out.trans (hb3.mono HB2.out.size))
    clear hb3
    go_wp2_with fail
    refine (alive_any _ (HE.out.below HB3.out)).mono ?_
    rintro e w4 ⟨rfl, hb4⟩
    have HB4 := Lib.hid (HB3.out.trans (hb4.mono HB3.out.size))
    clear hb4
    go_wp2_with fail
    go_ret
    exact ⟨rfl, HB4.out⟩

set_option maxRecDepth 100000 in
set_option maxHeartbeats 2000000 in
theorem fnCompare0_no (n : Nat) (a : Int) (s : ByteArray) (b : Int) (t : ByteArray) (w : World) (hn : n ≤ 255) (hk : (n : Int) % 5 = 0) (hs : plainB s = true) (ht : plainB t = true) (hE : ErrAt w) (hsame : sameB s t = false) :
    Calls Tryd.prog 12 #[.int .u8 n, .int .i64 a, .string s, .int .i64 b, .string t] w fun e w' => e = .returned (.bool true) ∧ Below w.heap.size w w' := by
  have s20 := plainB_size hs
  have t20 := plainB_size ht
  have HS := Lib.hid hs
  have HT := Lib.hid ht
  have HE := Lib.hid hE
  have HSAME := Lib.hid hsame
  clear hs ht hE hsame
  cases hx : (a == b)
  all_goals
    go_enter Tryd.func12, Tryd.ntmps12
    go_wp2_with fail
    refine (plain_any s _ (by unfold maxLen; omega)).mono ?_
    rintro e _ ⟨rfl, rfl⟩
    rw [HS.out]
    go_wp2_with fail
    refine (plain_any t _ (by unfold maxLen; omega)).mono ?_
    rintro e _ ⟨rfl, rfl⟩
    rw [HT.out]
    go_wp2_with fail
    refine (upper_any s _ (by omega)).mono ?_
    rintro e w1 ⟨rfl, hb1⟩
    have HB1 := Lib.hid (((Below.refl _ w).alloc (Nat.le_refl _) _).trans (hb1.mono (by simp)))
    clear hb1
    go_wp2_with fail
    refine (upper_any t _ (by omega)).mono ?_
    rintro e w2 ⟨rfl, hb2⟩
    have HB2 := Lib.hid (HB1.out.trans (hb2.mono HB1.out.size))
    clear hb2
    have hsm : ((upB s).toList == (upB t).toList) = false := HSAME.out
    go_wp2_with fail
    clear hsm
    refine (implCompare0_no a s b t _ HS.out HT.out (HE.out.below HB2.out) HSAME.out).mono ?_
    rintro e w3 ⟨rfl, hb3⟩
    have HB3 := Lib.hid (HB2.out.trans (hb3.mono HB2.out.size))
    clear hb3
    go_wp2_with fail
    refine (alive_any _ (HE.out.below HB3.out)).mono ?_
    rintro e w4 ⟨rfl, hb4⟩
    have HB4 := Lib.hid (HB3.out.trans (hb4.mono HB3.out.size))
    clear hb4
    go_wp2_with fail
    go_ret
    exact ⟨rfl, HB4.out⟩

set_option maxRecDepth 100000 in
set_option maxHeartbeats 2000000 in
theorem fnCompare1_yes (n : Nat) (a : Int) (s : ByteArray) (b : Int) (t : ByteArray) (w : World) (hn : n ≤ 255) (hk : (n : Int) % 5 = 1) (hs : plainB s = true) (ht : plainB t = true) (hE : ErrAt w) (hsame : sameB s t = true) :
    Calls Tryd.prog 12 #[.int .u8 n, .int .i64 a, .string s, .int .i64 b, .string t] w fun e w' => e = .returned (.bool true) ∧ Below w.heap.size w w' := by
  have s20 := plainB_size hs
  have t20 := plainB_size ht
  have HS := Lib.hid hs
  have HT := Lib.hid ht
  have HE := Lib.hid hE
  have HSAME := Lib.hid hsame
  clear hs ht hE hsame
  cases hx : (decide (b < a))
  all_goals
    go_enter Tryd.func12, Tryd.ntmps12
    go_wp2_with fail
    refine (plain_any s _ (by unfold maxLen; omega)).mono ?_
    rintro e _ ⟨rfl, rfl⟩
    rw [HS.out]
    go_wp2_with fail
    refine (plain_any t _ (by unfold maxLen; omega)).mono ?_
    rintro e _ ⟨rfl, rfl⟩
    rw [HT.out]
    go_wp2_with fail
    refine (upper_any s _ (by omega)).mono ?_
    rintro e w1 ⟨rfl, hb1⟩
    have HB1 := Lib.hid (((Below.refl _ w).alloc (Nat.le_refl _) _).trans (hb1.mono (by simp)))
    clear hb1
    go_wp2_with fail
    refine (upper_any t _ (by omega)).mono ?_
    rintro e w2 ⟨rfl, hb2⟩
    have HB2 := Lib.hid (HB1.out.trans (hb2.mono HB1.out.size))
    clear hb2
    have hsm : ((upB s).toList == (upB t).toList) = true := HSAME.out
    go_wp2_with fail
    clear hsm
    refine (implCompare1_yes a s b t _ HS.out HT.out (HE.out.below HB2.out) HSAME.out).mono ?_
    rintro e w3 ⟨rfl, hb3⟩
    have HB3 := Lib.hid (HB2.out.trans (hb3.mono HB2.out.size))
    clear hb3
    go_wp2_with fail
    refine (alive_any _ (HE.out.below HB3.out)).mono ?_
    rintro e w4 ⟨rfl, hb4⟩
    have HB4 := Lib.hid (HB3.out.trans (hb4.mono HB3.out.size))
    clear hb4
    go_wp2_with fail
    go_ret
    exact ⟨rfl, HB4.out⟩

set_option maxRecDepth 100000 in
set_option maxHeartbeats 2000000 in
theorem fnCompare1_no (n : Nat) (a : Int) (s : ByteArray) (b : Int) (t : ByteArray) (w : World) (hn : n ≤ 255) (hk : (n : Int) % 5 = 1) (hs : plainB s = true) (ht : plainB t = true) (hE : ErrAt w) (hsame : sameB s t = false) :
    Calls Tryd.prog 12 #[.int .u8 n, .int .i64 a, .string s, .int .i64 b, .string t] w fun e w' => e = .returned (.bool true) ∧ Below w.heap.size w w' := by
  have s20 := plainB_size hs
  have t20 := plainB_size ht
  have HS := Lib.hid hs
  have HT := Lib.hid ht
  have HE := Lib.hid hE
  have HSAME := Lib.hid hsame
  clear hs ht hE hsame
  cases hx : (decide (b < a))
  all_goals
    go_enter Tryd.func12, Tryd.ntmps12
    go_wp2_with fail
    refine (plain_any s _ (by unfold maxLen; omega)).mono ?_
    rintro e _ ⟨rfl, rfl⟩
    rw [HS.out]
    go_wp2_with fail
    refine (plain_any t _ (by unfold maxLen; omega)).mono ?_
    rintro e _ ⟨rfl, rfl⟩
    rw [HT.out]
    go_wp2_with fail
    refine (upper_any s _ (by omega)).mono ?_
    rintro e w1 ⟨rfl, hb1⟩
    have HB1 := Lib.hid (((Below.refl _ w).alloc (Nat.le_refl _) _).trans (hb1.mono (by simp)))
    clear hb1
    go_wp2_with fail
    refine (upper_any t _ (by omega)).mono ?_
    rintro e w2 ⟨rfl, hb2⟩
    have HB2 := Lib.hid (HB1.out.trans (hb2.mono HB1.out.size))
    clear hb2
    have hsm : ((upB s).toList == (upB t).toList) = false := HSAME.out
    go_wp2_with fail
    clear hsm
    refine (implCompare1_no a s b t _ HS.out HT.out (HE.out.below HB2.out) HSAME.out).mono ?_
    rintro e w3 ⟨rfl, hb3⟩
    have HB3 := Lib.hid (HB2.out.trans (hb3.mono HB2.out.size))
    clear hb3
    go_wp2_with fail
    refine (alive_any _ (HE.out.below HB3.out)).mono ?_
    rintro e w4 ⟨rfl, hb4⟩
    have HB4 := Lib.hid (HB3.out.trans (hb4.mono HB3.out.size))
    clear hb4
    go_wp2_with fail
    go_ret
    exact ⟨rfl, HB4.out⟩

set_option maxRecDepth 100000 in
set_option maxHeartbeats 2000000 in
theorem fnCompare2_yes (n : Nat) (a : Int) (s : ByteArray) (b : Int) (t : ByteArray) (w : World) (hn : n ≤ 255) (hk : (n : Int) % 5 = 2) (hs : plainB s = true) (ht : plainB t = true) (hE : ErrAt w) (hsame : sameB s t = true) :
    Calls Tryd.prog 12 #[.int .u8 n, .int .i64 a, .string s, .int .i64 b, .string t] w fun e w' => e = .returned (.bool true) ∧ Below w.heap.size w w' := by
  have s20 := plainB_size hs
  have t20 := plainB_size ht
  have HS := Lib.hid hs
  have HT := Lib.hid ht
  have HE := Lib.hid hE
  have HSAME := Lib.hid hsame
  clear hs ht hE hsame
  cases hx : (decide (b ≤ a))
  all_goals
    go_enter Tryd.func12, Tryd.ntmps12
    go_wp2_with fail
    refine (plain_any s _ (by unfold maxLen; omega)).mono ?_
    rintro e _ ⟨rfl, rfl⟩
    rw [HS.out]
    go_wp2_with fail
    refine (plain_any t _ (by unfold maxLen; omega)).mono ?_
    rintro e _ ⟨rfl, rfl⟩
    rw [HT.out]
    go_wp2_with fail
    refine (upper_any s _ (by omega)).mono ?_
    rintro e w1 ⟨rfl, hb1⟩
    have HB1 := Lib.hid (((Below.refl _ w).alloc (Nat.le_refl _) _).trans (hb1.mono (by simp)))
    clear hb1
    go_wp2_with fail
    refine (upper_any t _ (by omega)).mono ?_
    rintro e w2 ⟨rfl, hb2⟩
    have HB2 := Lib.hid (HB1.out.trans (hb2.mono HB1.out.size))
    clear hb2
    have hsm : ((upB s).toList == (upB t).toList) = true := HSAME.out
    go_wp2_with fail
    clear hsm
    refine (implCompare2_yes a s b t _ HS.out HT.out (HE.out.below HB2.out) HSAME.out).mono ?_
    rintro e w3 ⟨rfl, hb3⟩
    have HB3 := Lib.hid (HB2.out.trans (hb3.mono HB2.out.size))
    clear hb3
    go_wp2_with fail
    refine (alive_any _ (HE.out.below HB3.out)).mono ?_
    rintro e w4 ⟨rfl, hb4⟩
    have HB4 := Lib.hid (HB3.out.trans (hb4.mono HB3.out.size))
    clear hb4
    go_wp2_with fail
    go_ret
    exact ⟨rfl, HB4.out⟩

set_option maxRecDepth 100000 in
set_option maxHeartbeats 2000000 in
theorem fnCompare2_no (n : Nat) (a : Int) (s : ByteArray) (b : Int) (t : ByteArray) (w : World) (hn : n ≤ 255) (hk : (n : Int) % 5 = 2) (hs : plainB s = true) (ht : plainB t = true) (hE : ErrAt w) (hsame : sameB s t = false) :
    Calls Tryd.prog 12 #[.int .u8 n, .int .i64 a, .string s, .int .i64 b, .string t] w fun e w' => e = .returned (.bool true) ∧ Below w.heap.size w w' := by
  have s20 := plainB_size hs
  have t20 := plainB_size ht
  have HS := Lib.hid hs
  have HT := Lib.hid ht
  have HE := Lib.hid hE
  have HSAME := Lib.hid hsame
  clear hs ht hE hsame
  cases hx : (decide (b ≤ a))
  all_goals
    go_enter Tryd.func12, Tryd.ntmps12
    go_wp2_with fail
    refine (plain_any s _ (by unfold maxLen; omega)).mono ?_
    rintro e _ ⟨rfl, rfl⟩
    rw [HS.out]
    go_wp2_with fail
    refine (plain_any t _ (by unfold maxLen; omega)).mono ?_
    rintro e _ ⟨rfl, rfl⟩
    rw [HT.out]
    go_wp2_with fail
    refine (upper_any s _ (by omega)).mono ?_
    rintro e w1 ⟨rfl, hb1⟩
    have HB1 := Lib.hid (((Below.refl _ w).alloc (Nat.le_refl _) _).trans (hb1.mono (by simp)))
    clear hb1
    go_wp2_with fail
    refine (upper_any t _ (by omega)).mono ?_
    rintro e w2 ⟨rfl, hb2⟩
    have HB2 := Lib.hid (HB1.out.trans (hb2.mono HB1.out.size))
    clear hb2
    have hsm : ((upB s).toList == (upB t).toList) = false := HSAME.out
    go_wp2_with fail
    clear hsm
    refine (implCompare2_no a s b t _ HS.out HT.out (HE.out.below HB2.out) HSAME.out).mono ?_
    rintro e w3 ⟨rfl, hb3⟩
    have HB3 := Lib.hid (HB2.out.trans (hb3.mono HB2.out.size))
    clear hb3
    go_wp2_with fail
    refine (alive_any _ (HE.out.below HB3.out)).mono ?_
    rintro e w4 ⟨rfl, hb4⟩
    have HB4 := Lib.hid (HB3.out.trans (hb4.mono HB3.out.size))
    clear hb4
    go_wp2_with fail
    go_ret
    exact ⟨rfl, HB4.out⟩

set_option maxRecDepth 100000 in
set_option maxHeartbeats 2000000 in
theorem fnCompare3_yes (n : Nat) (a : Int) (s : ByteArray) (b : Int) (t : ByteArray) (w : World) (hn : n ≤ 255) (hk : (n : Int) % 5 = 3) (hs : plainB s = true) (ht : plainB t = true) (hE : ErrAt w) (hsame : sameB s t = true) :
    Calls Tryd.prog 12 #[.int .u8 n, .int .i64 a, .string s, .int .i64 b, .string t] w fun e w' => e = .returned (.bool true) ∧ Below w.heap.size w w' := by
  have s20 := plainB_size hs
  have t20 := plainB_size ht
  have HS := Lib.hid hs
  have HT := Lib.hid ht
  have HE := Lib.hid hE
  have HSAME := Lib.hid hsame
  clear hs ht hE hsame
  cases hx : (decide (a < b))
  all_goals
    go_enter Tryd.func12, Tryd.ntmps12
    go_wp2_with fail
    refine (plain_any s _ (by unfold maxLen; omega)).mono ?_
    rintro e _ ⟨rfl, rfl⟩
    rw [HS.out]
    go_wp2_with fail
    refine (plain_any t _ (by unfold maxLen; omega)).mono ?_
    rintro e _ ⟨rfl, rfl⟩
    rw [HT.out]
    go_wp2_with fail
    refine (upper_any s _ (by omega)).mono ?_
    rintro e w1 ⟨rfl, hb1⟩
    have HB1 := Lib.hid (((Below.refl _ w).alloc (Nat.le_refl _) _).trans (hb1.mono (by simp)))
    clear hb1
    go_wp2_with fail
    refine (upper_any t _ (by omega)).mono ?_
    rintro e w2 ⟨rfl, hb2⟩
    have HB2 := Lib.hid (HB1.out.trans (hb2.mono HB1.out.size))
    clear hb2
    have hsm : ((upB s).toList == (upB t).toList) = true := HSAME.out
    go_wp2_with fail
    clear hsm
    refine (implCompare3_yes a s b t _ HS.out HT.out (HE.out.below HB2.out) HSAME.out).mono ?_
    rintro e w3 ⟨rfl, hb3⟩
    have HB3 := Lib.hid (HB2.out.trans (hb3.mono HB2.out.size))
    clear hb3
    go_wp2_with fail
    refine (alive_any _ (HE.out.below HB3.out)).mono ?_
    rintro e w4 ⟨rfl, hb4⟩
    have HB4 := Lib.hid (HB3.out.trans (hb4.mono HB3.out.size))
    clear hb4
    go_wp2_with fail
    go_ret
    exact ⟨rfl, HB4.out⟩

set_option maxRecDepth 100000 in
set_option maxHeartbeats 2000000 in
theorem fnCompare3_no (n : Nat) (a : Int) (s : ByteArray) (b : Int) (t : ByteArray) (w : World) (hn : n ≤ 255) (hk : (n : Int) % 5 = 3) (hs : plainB s = true) (ht : plainB t = true) (hE : ErrAt w) (hsame : sameB s t = false) :
    Calls Tryd.prog 12 #[.int .u8 n, .int .i64 a, .string s, .int .i64 b, .string t] w fun e w' => e = .returned (.bool true) ∧ Below w.heap.size w w' := by
  have s20 := plainB_size hs
  have t20 := plainB_size ht
  have HS := Lib.hid hs
  have HT := Lib.hid ht
  have HE := Lib.hid hE
  have HSAME := Lib.hid hsame
  clear hs ht hE hsame
  cases hx : (decide (a < b))
  all_goals
    go_enter Tryd.func12, Tryd.ntmps12
    go_wp2_with fail
    refine (plain_any s _ (by unfold maxLen; omega)).mono ?_
    rintro e _ ⟨rfl, rfl⟩
    rw [HS.out]
    go_wp2_with fail
    refine (plain_any t _ (by unfold maxLen; omega)).mono ?_
    rintro e _ ⟨rfl, rfl⟩
    rw [HT.out]
    go_wp2_with fail
    refine (upper_any s _ (by omega)).mono ?_
    rintro e w1 ⟨rfl, hb1⟩
    have HB1 := Lib.hid (((Below.refl _ w).alloc (Nat.le_refl _) _).trans (hb1.mono (by simp)))
    clear hb1
    go_wp2_with fail
    refine (upper_any t _ (by omega)).mono ?_
    rintro e w2 ⟨rfl, hb2⟩
    have HB2 := Lib.hid (HB1.out.trans (hb2.mono HB1.out.size))
    clear hb2
    have hsm : ((upB s).toList == (upB t).toList) = false := HSAME.out
    go_wp2_with fail
    clear hsm
    refine (implCompare3_no a s b t _ HS.out HT.out (HE.out.below HB2.out) HSAME.out).mono ?_
    rintro e w3 ⟨rfl, hb3⟩
    have HB3 := Lib.hid (HB2.out.trans (hb3.mono HB2.out.size))
    clear hb3
    go_wp2_with fail
    refine (alive_any _ (HE.out.below HB3.out)).mono ?_
    rintro e w4 ⟨rfl, hb4⟩
    have HB4 := Lib.hid (HB3.out.trans (hb4.mono HB3.out.size))
    clear hb4
    go_wp2_with fail
    go_ret
    exact ⟨rfl, HB4.out⟩

set_option maxRecDepth 100000 in
set_option maxHeartbeats 2000000 in
theorem fnCompare4_yes (n : Nat) (a : Int) (s : ByteArray) (b : Int) (t : ByteArray) (w : World) (hn : n ≤ 255) (hk : (n : Int) % 5 = 4) (hs : plainB s = true) (ht : plainB t = true) (hE : ErrAt w) (hsame : sameB s t = true) :
    Calls Tryd.prog 12 #[.int .u8 n, .int .i64 a, .string s, .int .i64 b, .string t] w fun e w' => e = .returned (.bool true) ∧ Below w.heap.size w w' := by
  have s20 := plainB_size hs
  have t20 := plainB_size ht
  have HS := Lib.hid hs
  have HT := Lib.hid ht
  have HE := Lib.hid hE
  have HSAME := Lib.hid hsame
  clear hs ht hE hsame
  cases hx : (decide (a ≤ b))
  all_goals
    go_enter Tryd.func12, Tryd.ntmps12
    go_wp2_with fail
    refine (plain_any s _ (by unfold maxLen; omega)).mono ?_
    rintro e _ ⟨rfl, rfl⟩
    rw [HS.out]
    go_wp2_with fail
    refine (plain_any t _ (by unfold maxLen; omega)).mono ?_
    rintro e _ ⟨rfl, rfl⟩
    rw [HT.out]
    go_wp2_with fail
    refine (upper_any s _ (by omega)).mono ?_
    rintro e w1 ⟨rfl, hb1⟩
    have HB1 := Lib.hid (((Below.refl _ w).alloc (Nat.le_refl _) _).trans (hb1.mono (by simp)))
    clear hb1
    go_wp2_with fail
    refine (upper_any t _ (by omega)).mono ?_
    rintro e w2 ⟨rfl, hb2⟩
    have HB2 := Lib.hid (HB1.out.trans (hb2.mono HB1.out.size))
    clear hb2
    have hsm : ((upB s).toList == (upB t).toList) = true := HSAME.out
    go_wp2_with fail
    clear hsm
    refine (implCompare4_yes a s b t _ HS.out HT.out (HE.out.below HB2.out) HSAME.out).mono ?_
    rintro e w3 ⟨rfl, hb3⟩
    have HB3 := Lib.hid (HB2.out.trans (hb3.mono HB2.out.size))
    clear hb3
    go_wp2_with fail
    refine (alive_any _ (HE.out.below HB3.out)).mono ?_
    rintro e w4 ⟨rfl, hb4⟩
    have HB4 := Lib.hid (HB3.out.trans (hb4.mono HB3.out.size))
    clear hb4
    go_wp2_with fail
    go_ret
    exact ⟨rfl, HB4.out⟩

set_option maxRecDepth 100000 in
set_option maxHeartbeats 2000000 in
theorem fnCompare4_no (n : Nat) (a : Int) (s : ByteArray) (b : Int) (t : ByteArray) (w : World) (hn : n ≤ 255) (hk : (n : Int) % 5 = 4) (hs : plainB s = true) (ht : plainB t = true) (hE : ErrAt w) (hsame : sameB s t = false) :
    Calls Tryd.prog 12 #[.int .u8 n, .int .i64 a, .string s, .int .i64 b, .string t] w fun e w' => e = .returned (.bool true) ∧ Below w.heap.size w w' := by
  have s20 := plainB_size hs
  have t20 := plainB_size ht
  have HS := Lib.hid hs
  have HT := Lib.hid ht
  have HE := Lib.hid hE
  have HSAME := Lib.hid hsame
  clear hs ht hE hsame
  cases hx : (decide (a ≤ b))
  all_goals
    go_enter Tryd.func12, Tryd.ntmps12
    go_wp2_with fail
    refine (plain_any s _ (by unfold maxLen; omega)).mono ?_
    rintro e _ ⟨rfl, rfl⟩
    rw [HS.out]
    go_wp2_with fail
    refine (plain_any t _ (by unfold maxLen; omega)).mono ?_
    rintro e _ ⟨rfl, rfl⟩
    rw [HT.out]
    go_wp2_with fail
    refine (upper_any s _ (by omega)).mono ?_
    rintro e w1 ⟨rfl, hb1⟩
    have HB1 := Lib.hid (((Below.refl _ w).alloc (Nat.le_refl _) _).trans (hb1.mono (by simp)))
    clear hb1
    go_wp2_with fail
    refine (upper_any t _ (by omega)).mono ?_
    rintro e w2 ⟨rfl, hb2⟩
    have HB2 := Lib.hid (HB1.out.trans (hb2.mono HB1.out.size))
    clear hb2
    have hsm : ((upB s).toList == (upB t).toList) = false := HSAME.out
    go_wp2_with fail
    clear hsm
    refine (implCompare4_no a s b t _ HS.out HT.out (HE.out.below HB2.out) HSAME.out).mono ?_
    rintro e w3 ⟨rfl, hb3⟩
    have HB3 := Lib.hid (HB2.out.trans (hb3.mono HB2.out.size))
    clear hb3
    go_wp2_with fail
    refine (alive_any _ (HE.out.below HB3.out)).mono ?_
    rintro e w4 ⟨rfl, hb4⟩
    have HB4 := Lib.hid (HB3.out.trans (hb4.mono HB3.out.size))
    clear hb4
    go_wp2_with fail
    go_ret
    exact ⟨rfl, HB4.out⟩

theorem fnCompare_in (n : Nat) (a : Int) (s : ByteArray) (b : Int) (t : ByteArray) (w : World) (hn : n ≤ 255) (hs : plainB s = true) (ht : plainB t = true) (hE : ErrAt w) :
    Calls Tryd.prog 12 #[.int .u8 n, .int .i64 a, .string s, .int .i64 b, .string t] w fun e w' => e = .returned (.bool true) ∧ Below w.heap.size w w' := by
  cases hsame : sameB s t with
  | true =>
    by_cases h0 : (n : Int) % 5 = 0
    · exact fnCompare0_yes n a s b t w hn h0 hs ht hE hsame
    by_cases h1 : (n : Int) % 5 = 1
    · exact fnCompare1_yes n a s b t w hn h1 hs ht hE hsame
    by_cases h2 : (n : Int) % 5 = 2
    · exact fnCompare2_yes n a s b t w hn h2 hs ht hE hsame
    by_cases h3 : (n : Int) % 5 = 3
    · exact fnCompare3_yes n a s b t w hn h3 hs ht hE hsame
    · exact fnCompare4_yes n a s b t w hn (by omega) hs ht hE hsame
  | false =>
    by_cases h0 : (n : Int) % 5 = 0
    · exact fnCompare0_no n a s b t w hn h0 hs ht hE hsame
    by_cases h1 : (n : Int) % 5 = 1
    · exact fnCompare1_no n a s b t w hn h1 hs ht hE hsame
    by_cases h2 : (n : Int) % 5 = 2
    · exact fnCompare2_no n a s b t w hn h2 hs ht hE hsame
    by_cases h3 : (n : Int) % 5 = 3
    · exact fnCompare3_no n a s b t w hn h3 hs ht hE hsame
    · exact fnCompare4_no n a s b t w hn (by omega) hs ht hE hsame

set_option maxHeartbeats 1000000 in
theorem fnCompare_law (op a : Int) (s : ByteArray) (b : Int) (t : ByteArray) (w : World) (ho0 : 0 ≤ op) (ho1 : op ≤ 255) (_ha0 : -9223372036854775808 ≤ a) (_ha1 : a ≤ 9223372036854775807) (hs : s.size ≤ maxLen) (_hb0 : -9223372036854775808 ≤ b) (_hb1 : b ≤ 9223372036854775807) (ht : t.size ≤ maxLen) (hE : ErrAt w) :
    Calls Tryd.prog 12 #[.int .u8 op, .int .i64 a, .string s, .int .i64 b, .string t] w fun e w' => e = .returned (.bool true) ∧ Below w.heap.size w w' := by
  obtain ⟨n, rfl⟩ : ∃ n : Nat, op = n := ⟨op.toNat, by omega⟩
  by_cases hin : plainB s = true ∧ plainB t = true
  · exact fnCompare_in n a s b t w (by omega) hin.1 hin.2 hE
  · have hs' : s.size ≤ 9223372036854775807 := by unfold maxLen at hs; omega
    have ht' : t.size ≤ 9223372036854775807 := by unfold maxLen at ht; omega
    have HS := Lib.hid hs
    have HT := Lib.hid ht
    clear hs ht hE _ha0 _ha1 _hb0 _hb1
    by_cases hbig : 2147483647 < s.size
    · clear hin
      go_enter Tryd.func12, Tryd.ntmps12
      go_wp2_with fail
      go_ret
      exact ⟨rfl, Below.refl _ _⟩
    · by_cases hbig2 : 2147483647 < t.size
      · clear hin
        go_enter Tryd.func12, Tryd.ntmps12
        go_wp2_with fail
        go_ret
        exact ⟨rfl, Below.refl _ _⟩
      · cases hp : plainB s with
        | false =>
          have HP := Lib.hid hp
          clear hp hin
          go_enter Tryd.func12, Tryd.ntmps12
          go_wp2_with fail
          refine (plain_any s _ HS.out).mono ?_
          rintro e _ ⟨rfl, rfl⟩
          rw [HP.out]
          go_wp2_with fail
          go_ret
          exact ⟨rfl, Below.refl _ _⟩
        | true =>
          have HP := Lib.hid hp
          have HQ : Hid (plainB t = false) := Bool.eq_false_iff.2 fun h => hin ⟨hp, h⟩
          clear hp hin
          go_enter Tryd.func12, Tryd.ntmps12
          go_wp2_with fail
          refine (plain_any s _ HS.out).mono ?_
          rintro e _ ⟨rfl, rfl⟩
          rw [HP.out]
          go_wp2_with fail
          refine (plain_any t _ HT.out).mono ?_
          rintro e _ ⟨rfl, rfl⟩
          rw [HQ.out]
          go_wp2_with fail
          go_ret
          exact ⟨rfl, Below.refl _ _⟩
end Go.Proofs.YteanfkmchfhfpaaDoor
