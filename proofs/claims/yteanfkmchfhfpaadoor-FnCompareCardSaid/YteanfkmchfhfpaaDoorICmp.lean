/- impl.Compare: what each comparison tells, of one currency and of two. -/
import Derived.Test.YteanfkmchfhfpaaDoorLOrd
namespace Go.Proofs.YteanfkmchfhfpaaDoor
open Go.RowKit

theorem below_cell {w w' : World} {p : Addr} {v : Value} (h : w.cell? p = some v) (hb : Below w.heap.size w w') : w'.cell? p = some v := by
  rw [hb.cell (cell_lt h)]; exact h

set_option maxRecDepth 100000 in
set_option maxHeartbeats 1000000 in
theorem implCompare0_yes (a : Int) (s : ByteArray) (b : Int) (t : ByteArray) (w : World) (hs : plainB s = true) (ht : plainB t = true) (hE : ErrAt w) (hsame : sameB s t = true) :
    Calls Tryd.prog 29 #[.int .i64 0, .int .i64 a, .string s, .int .i64 b, .string t] w fun e w' => e = .returned (.tuple #[.bool (a == b), .bool true]) ∧ Below w.heap.size w w' := by
  have s20 := plainB_size hs
  have t20 := plainB_size ht
  have HS := Lib.hid hs
  have HT := Lib.hid ht
  have HE := Lib.hid hE
  have HSAME := Lib.hid hsame
  clear hs ht hE hsame
  go_enter Tryd.func29, Tryd.ntmps29
  go_wp2_with fail
  refine (short_yes s _ (by omega)).mono ?_
  rintro e _ ⟨rfl, rfl⟩
  go_wp2_with fail
  refine (short_yes t _ (by omega)).mono ?_
  rintro e _ ⟨rfl, rfl⟩
  go_wp2_with fail
  refine (new_any a s _ (by omega) (plainB_asc HS.out)).mono ?_
  rintro e w1 ⟨g1, rfl, hm1, hg1, hb1⟩
  have HM1 := Lib.hid hm1
  have HB1 := Lib.hid hb1
  clear hm1 hb1
  go_wp2_with fail
  refine (new_any b t _ (by omega) (plainB_asc HT.out)).mono ?_
  rintro e w2' ⟨g2, rfl, hm2, hg2, hb2⟩
  have HM2' := Lib.hid hm2
  have HM1'' := Lib.hid (HM1.out.below hb2)
  have HB2' := Lib.hid (HB1.out.trans (hb2.mono HB1.out.size))
  clear hm2 hb2
  obtain ⟨te, ve, hce⟩ := HE.out.below HB2'.out
  go_wp2_with fail
  go_quiet (fail)
  clear hce

  have HM2 := Lib.hid (MoneyAt.drewN HM2'.out nq)
  have HM1' := Lib.hid (MoneyAt.drewN HM1''.out nq)
  have HB2 := Lib.hid (below_drewN HB2'.out nq)
  go_wp2_with fail

  refine (equals3_yes a b _ _ g1 g2 _ HM1'.out HM2.out (sameB_code HSAME.out)).mono ?_
  rintro e w3 ⟨rfl, n3, rfl⟩
  go_wp2_with fail
  go_quiet (fail)
  go_wp2_with fail
  go_ret2
  exact ⟨rfl, below_drewN (below_drewN HB2'.out _) _⟩

set_option maxRecDepth 100000 in
set_option maxHeartbeats 1000000 in
theorem implCompare0_no (a : Int) (s : ByteArray) (b : Int) (t : ByteArray) (w : World) (hs : plainB s = true) (ht : plainB t = true) (hE : ErrAt w) (hsame : sameB s t = false) :
    Calls Tryd.prog 29 #[.int .i64 0, .int .i64 a, .string s, .int .i64 b, .string t] w fun e w' => e = .returned (.tuple #[.bool false, .bool false]) ∧ Below w.heap.size w w' := by
  have s20 := plainB_size hs
  have t20 := plainB_size ht
  have HS := Lib.hid hs
  have HT := Lib.hid ht
  have HE := Lib.hid hE
  have HSAME := Lib.hid hsame
  clear hs ht hE hsame
  go_enter Tryd.func29, Tryd.ntmps29
  go_wp2_with fail
  refine (short_yes s _ (by omega)).mono ?_
  rintro e _ ⟨rfl, rfl⟩
  go_wp2_with fail
  refine (short_yes t _ (by omega)).mono ?_
  rintro e _ ⟨rfl, rfl⟩
  go_wp2_with fail
  refine (new_any a s _ (by omega) (plainB_asc HS.out)).mono ?_
  rintro e w1 ⟨g1, rfl, hm1, hg1, hb1⟩
  have HM1 := Lib.hid hm1
  have HB1 := Lib.hid hb1
  clear hm1 hb1
  go_wp2_with fail
  refine (new_any b t _ (by omega) (plainB_asc HT.out)).mono ?_
  rintro e w2' ⟨g2, rfl, hm2, hg2, hb2⟩
  have HM2' := Lib.hid hm2
  have HM1'' := Lib.hid (HM1.out.below hb2)
  have HB2' := Lib.hid (HB1.out.trans (hb2.mono HB1.out.size))
  clear hm2 hb2
  obtain ⟨te, ve, hce⟩ := HE.out.below HB2'.out
  go_wp2_with fail
  go_quiet (fail)
  clear hce

  have HM2 := Lib.hid (MoneyAt.drewN HM2'.out nq)
  have HM1' := Lib.hid (MoneyAt.drewN HM1''.out nq)
  have HB2 := Lib.hid (below_drewN HB2'.out nq)
  go_wp2_with fail

  refine (equals3_no a b _ _ g1 g2 _ HM1'.out HM2.out (sameB_code_ne HSAME.out) (HE.out.below HB2.out)).mono ?_
  rintro e w3 ⟨tt, vv, rfl, n3, rfl⟩
  go_wp2_with fail
  go_quiet (fail)
  go_wp2_with fail
  go_ret2
  exact ⟨rfl, below_drewN (below_drewN HB2'.out _) _⟩

set_option maxRecDepth 100000 in
set_option maxHeartbeats 1000000 in
theorem implCompare1_yes (a : Int) (s : ByteArray) (b : Int) (t : ByteArray) (w : World) (hs : plainB s = true) (ht : plainB t = true) (hE : ErrAt w) (hsame : sameB s t = true) :
    Calls Tryd.prog 29 #[.int .i64 1, .int .i64 a, .string s, .int .i64 b, .string t] w fun e w' => e = .returned (.tuple #[.bool (decide (b < a)), .bool true]) ∧ Below w.heap.size w w' := by
  have s20 := plainB_size hs
  have t20 := plainB_size ht
  have HS := Lib.hid hs
  have HT := Lib.hid ht
  have HE := Lib.hid hE
  have HSAME := Lib.hid hsame
  clear hs ht hE hsame
  go_enter Tryd.func29, Tryd.ntmps29
  go_wp2_with fail
  refine (short_yes s _ (by omega)).mono ?_
  rintro e _ ⟨rfl, rfl⟩
  go_wp2_with fail
  refine (short_yes t _ (by omega)).mono ?_
  rintro e _ ⟨rfl, rfl⟩
  go_wp2_with fail
  refine (new_any a s _ (by omega) (plainB_asc HS.out)).mono ?_
  rintro e w1 ⟨g1, rfl, hm1, hg1, hb1⟩
  have HM1 := Lib.hid hm1
  have HB1 := Lib.hid hb1
  clear hm1 hb1
  go_wp2_with fail
  refine (new_any b t _ (by omega) (plainB_asc HT.out)).mono ?_
  rintro e w2' ⟨g2, rfl, hm2, hg2, hb2⟩
  have HM2' := Lib.hid hm2
  have HM1'' := Lib.hid (HM1.out.below hb2)
  have HB2' := Lib.hid (HB1.out.trans (hb2.mono HB1.out.size))
  clear hm2 hb2
  obtain ⟨te, ve, hce⟩ := HE.out.below HB2'.out
  go_wp2_with fail
  go_quiet (fail)
  clear hce

  have HM2 := Lib.hid (MoneyAt.drewN HM2'.out nq)
  have HM1' := Lib.hid (MoneyAt.drewN HM1''.out nq)
  have HB2 := Lib.hid (below_drewN HB2'.out nq)
  go_wp2_with fail

  refine (greater_yes a b _ _ g1 g2 _ HM1'.out HM2.out (sameB_code HSAME.out)).mono ?_
  rintro e w3 ⟨rfl, n3, rfl⟩
  go_wp2_with fail
  go_quiet (fail)
  go_wp2_with fail
  go_ret2
  exact ⟨rfl, below_drewN (below_drewN HB2'.out _) _⟩

set_option maxRecDepth 100000 in
set_option maxHeartbeats 1000000 in
theorem implCompare1_no (a : Int) (s : ByteArray) (b : Int) (t : ByteArray) (w : World) (hs : plainB s = true) (ht : plainB t = true) (hE : ErrAt w) (hsame : sameB s t = false) :
    Calls Tryd.prog 29 #[.int .i64 1, .int .i64 a, .string s, .int .i64 b, .string t] w fun e w' => e = .returned (.tuple #[.bool false, .bool false]) ∧ Below w.heap.size w w' := by
  have s20 := plainB_size hs
  have t20 := plainB_size ht
  have HS := Lib.hid hs
  have HT := Lib.hid ht
  have HE := Lib.hid hE
  have HSAME := Lib.hid hsame
  clear hs ht hE hsame
  go_enter Tryd.func29, Tryd.ntmps29
  go_wp2_with fail
  refine (short_yes s _ (by omega)).mono ?_
  rintro e _ ⟨rfl, rfl⟩
  go_wp2_with fail
  refine (short_yes t _ (by omega)).mono ?_
  rintro e _ ⟨rfl, rfl⟩
  go_wp2_with fail
  refine (new_any a s _ (by omega) (plainB_asc HS.out)).mono ?_
  rintro e w1 ⟨g1, rfl, hm1, hg1, hb1⟩
  have HM1 := Lib.hid hm1
  have HB1 := Lib.hid hb1
  clear hm1 hb1
  go_wp2_with fail
  refine (new_any b t _ (by omega) (plainB_asc HT.out)).mono ?_
  rintro e w2' ⟨g2, rfl, hm2, hg2, hb2⟩
  have HM2' := Lib.hid hm2
  have HM1'' := Lib.hid (HM1.out.below hb2)
  have HB2' := Lib.hid (HB1.out.trans (hb2.mono HB1.out.size))
  clear hm2 hb2
  obtain ⟨te, ve, hce⟩ := HE.out.below HB2'.out
  go_wp2_with fail
  go_quiet (fail)
  clear hce

  have HM2 := Lib.hid (MoneyAt.drewN HM2'.out nq)
  have HM1' := Lib.hid (MoneyAt.drewN HM1''.out nq)
  have HB2 := Lib.hid (below_drewN HB2'.out nq)
  go_wp2_with fail

  refine (greater_no a b _ _ g1 g2 _ HM1'.out HM2.out (sameB_code_ne HSAME.out) (HE.out.below HB2.out)).mono ?_
  rintro e w3 ⟨tt, vv, rfl, n3, rfl⟩
  go_wp2_with fail
  go_quiet (fail)
  go_wp2_with fail
  go_ret2
  exact ⟨rfl, below_drewN (below_drewN HB2'.out _) _⟩

set_option maxRecDepth 100000 in
set_option maxHeartbeats 1000000 in
theorem implCompare2_yes (a : Int) (s : ByteArray) (b : Int) (t : ByteArray) (w : World) (hs : plainB s = true) (ht : plainB t = true) (hE : ErrAt w) (hsame : sameB s t = true) :
    Calls Tryd.prog 29 #[.int .i64 2, .int .i64 a, .string s, .int .i64 b, .string t] w fun e w' => e = .returned (.tuple #[.bool (decide (b ≤ a)), .bool true]) ∧ Below w.heap.size w w' := by
  have s20 := plainB_size hs
  have t20 := plainB_size ht
  have HS := Lib.hid hs
  have HT := Lib.hid ht
  have HE := Lib.hid hE
  have HSAME := Lib.hid hsame
  clear hs ht hE hsame
  go_enter Tryd.func29, Tryd.ntmps29
  go_wp2_with fail
  refine (short_yes s _ (by omega)).mono ?_
  rintro e _ ⟨rfl, rfl⟩
  go_wp2_with fail
  refine (short_yes t _ (by omega)).mono ?_
  rintro e _ ⟨rfl, rfl⟩
  go_wp2_with fail
  refine (new_any a s _ (by omega) (plainB_asc HS.out)).mono ?_
  rintro e w1 ⟨g1, rfl, hm1, hg1, hb1⟩
  have HM1 := Lib.hid hm1
  have HB1 := Lib.hid hb1
  clear hm1 hb1
  go_wp2_with fail
  refine (new_any b t _ (by omega) (plainB_asc HT.out)).mono ?_
  rintro e w2' ⟨g2, rfl, hm2, hg2, hb2⟩
  have HM2' := Lib.hid hm2
  have HM1'' := Lib.hid (HM1.out.below hb2)
  have HB2' := Lib.hid (HB1.out.trans (hb2.mono HB1.out.size))
  clear hm2 hb2
  obtain ⟨te, ve, hce⟩ := HE.out.below HB2'.out
  go_wp2_with fail
  go_quiet (fail)
  clear hce

  have HM2 := Lib.hid (MoneyAt.drewN HM2'.out nq)
  have HM1' := Lib.hid (MoneyAt.drewN HM1''.out nq)
  have HB2 := Lib.hid (below_drewN HB2'.out nq)
  go_wp2_with fail

  refine (greaterEq_yes a b _ _ g1 g2 _ HM1'.out HM2.out (sameB_code HSAME.out)).mono ?_
  rintro e w3 ⟨rfl, n3, rfl⟩
  go_wp2_with fail
  go_quiet (fail)
  go_wp2_with fail
  go_ret2
  exact ⟨rfl, below_drewN (below_drewN HB2'.out _) _⟩

set_option maxRecDepth 100000 in
set_option maxHeartbeats 1000000 in
theorem implCompare2_no (a : Int) (s : ByteArray) (b : Int) (t : ByteArray) (w : World) (hs : plainB s = true) (ht : plainB t = true) (hE : ErrAt w) (hsame : sameB s t = false) :
    Calls Tryd.prog 29 #[.int .i64 2, .int .i64 a, .string s, .int .i64 b, .string t] w fun e w' => e = .returned (.tuple #[.bool false, .bool false]) ∧ Below w.heap.size w w' := by
  have s20 := plainB_size hs
  have t20 := plainB_size ht
  have HS := Lib.hid hs
  have HT := Lib.hid ht
  have HE := Lib.hid hE
  have HSAME := Lib.hid hsame
  clear hs ht hE hsame
  go_enter Tryd.func29, Tryd.ntmps29
  go_wp2_with fail
  refine (short_yes s _ (by omega)).mono ?_
  rintro e _ ⟨rfl, rfl⟩
  go_wp2_with fail
  refine (short_yes t _ (by omega)).mono ?_
  rintro e _ ⟨rfl, rfl⟩
  go_wp2_with fail
  refine (new_any a s _ (by omega) (plainB_asc HS.out)).mono ?_
  rintro e w1 ⟨g1, rfl, hm1, hg1, hb1⟩
  have HM1 := Lib.hid hm1
  have HB1 := Lib.hid hb1
  clear hm1 hb1
  go_wp2_with fail
  refine (new_any b t _ (by omega) (plainB_asc HT.out)).mono ?_
  rintro e w2' ⟨g2, rfl, hm2, hg2, hb2⟩
  have HM2' := Lib.hid hm2
  have HM1'' := Lib.hid (HM1.out.below hb2)
  have HB2' := Lib.hid (HB1.out.trans (hb2.mono HB1.out.size))
  clear hm2 hb2
  obtain ⟨te, ve, hce⟩ := HE.out.below HB2'.out
  go_wp2_with fail
  go_quiet (fail)
  clear hce

  have HM2 := Lib.hid (MoneyAt.drewN HM2'.out nq)
  have HM1' := Lib.hid (MoneyAt.drewN HM1''.out nq)
  have HB2 := Lib.hid (below_drewN HB2'.out nq)
  go_wp2_with fail

  refine (greaterEq_no a b _ _ g1 g2 _ HM1'.out HM2.out (sameB_code_ne HSAME.out) (HE.out.below HB2.out)).mono ?_
  rintro e w3 ⟨tt, vv, rfl, n3, rfl⟩
  go_wp2_with fail
  go_quiet (fail)
  go_wp2_with fail
  go_ret2
  exact ⟨rfl, below_drewN (below_drewN HB2'.out _) _⟩

set_option maxRecDepth 100000 in
set_option maxHeartbeats 1000000 in
theorem implCompare3_yes (a : Int) (s : ByteArray) (b : Int) (t : ByteArray) (w : World) (hs : plainB s = true) (ht : plainB t = true) (hE : ErrAt w) (hsame : sameB s t = true) :
    Calls Tryd.prog 29 #[.int .i64 3, .int .i64 a, .string s, .int .i64 b, .string t] w fun e w' => e = .returned (.tuple #[.bool (decide (a < b)), .bool true]) ∧ Below w.heap.size w w' := by
  have s20 := plainB_size hs
  have t20 := plainB_size ht
  have HS := Lib.hid hs
  have HT := Lib.hid ht
  have HE := Lib.hid hE
  have HSAME := Lib.hid hsame
  clear hs ht hE hsame
  go_enter Tryd.func29, Tryd.ntmps29
  go_wp2_with fail
  refine (short_yes s _ (by omega)).mono ?_
  rintro e _ ⟨rfl, rfl⟩
  go_wp2_with fail
  refine (short_yes t _ (by omega)).mono ?_
  rintro e _ ⟨rfl, rfl⟩
  go_wp2_with fail
  refine (new_any a s _ (by omega) (plainB_asc HS.out)).mono ?_
  rintro e w1 ⟨g1, rfl, hm1, hg1, hb1⟩
  have HM1 := Lib.hid hm1
  have HB1 := Lib.hid hb1
  clear hm1 hb1
  go_wp2_with fail
  refine (new_any b t _ (by omega) (plainB_asc HT.out)).mono ?_
  rintro e w2' ⟨g2, rfl, hm2, hg2, hb2⟩
  have HM2' := Lib.hid hm2
  have HM1'' := Lib.hid (HM1.out.below hb2)
  have HB2' := Lib.hid (HB1.out.trans (hb2.mono HB1.out.size))
  clear hm2 hb2
  obtain ⟨te, ve, hce⟩ := HE.out.below HB2'.out
  go_wp2_with fail
  go_quiet (fail)
  clear hce

  have HM2 := Lib.hid (MoneyAt.drewN HM2'.out nq)
  have HM1' := Lib.hid (MoneyAt.drewN HM1''.out nq)
  have HB2 := Lib.hid (below_drewN HB2'.out nq)
  go_wp2_with fail

  refine (less_yes a b _ _ g1 g2 _ HM1'.out HM2.out (sameB_code HSAME.out)).mono ?_
  rintro e w3 ⟨rfl, n3, rfl⟩
  go_wp2_with fail
  go_quiet (fail)
  go_wp2_with fail
  go_ret2
  exact ⟨rfl, below_drewN (below_drewN HB2'.out _) _⟩

set_option maxRecDepth 100000 in
set_option maxHeartbeats 1000000 in
theorem implCompare3_no (a : Int) (s : ByteArray) (b : Int) (t : ByteArray) (w : World) (hs : plainB s = true) (ht : plainB t = true) (hE : ErrAt w) (hsame : sameB s t = false) :
    Calls Tryd.prog 29 #[.int .i64 3, .int .i64 a, .string s, .int .i64 b, .string t] w fun e w' => e = .returned (.tuple #[.bool false, .bool false]) ∧ Below w.heap.size w w' := by
  have s20 := plainB_size hs
  have t20 := plainB_size ht
  have HS := Lib.hid hs
  have HT := Lib.hid ht
  have HE := Lib.hid hE
  have HSAME := Lib.hid hsame
  clear hs ht hE hsame
  go_enter Tryd.func29, Tryd.ntmps29
  go_wp2_with fail
  refine (short_yes s _ (by omega)).mono ?_
  rintro e _ ⟨rfl, rfl⟩
  go_wp2_with fail
  refine (short_yes t _ (by omega)).mono ?_
  rintro e _ ⟨rfl, rfl⟩
  go_wp2_with fail
  refine (new_any a s _ (by omega) (plainB_asc HS.out)).mono ?_
  rintro e w1 ⟨g1, rfl, hm1, hg1, hb1⟩
  have HM1 := Lib.hid hm1
  have HB1 := Lib.hid hb1
  clear hm1 hb1
  go_wp2_with fail
  refine (new_any b t _ (by omega) (plainB_asc HT.out)).mono ?_
  rintro e w2' ⟨g2, rfl, hm2, hg2, hb2⟩
  have HM2' := Lib.hid hm2
  have HM1'' := Lib.hid (HM1.out.below hb2)
  have HB2' := Lib.hid (HB1.out.trans (hb2.mono HB1.out.size))
  clear hm2 hb2
  obtain ⟨te, ve, hce⟩ := HE.out.below HB2'.out
  go_wp2_with fail
  go_quiet (fail)
  clear hce

  have HM2 := Lib.hid (MoneyAt.drewN HM2'.out nq)
  have HM1' := Lib.hid (MoneyAt.drewN HM1''.out nq)
  have HB2 := Lib.hid (below_drewN HB2'.out nq)
  go_wp2_with fail

  refine (less_no a b _ _ g1 g2 _ HM1'.out HM2.out (sameB_code_ne HSAME.out) (HE.out.below HB2.out)).mono ?_
  rintro e w3 ⟨tt, vv, rfl, n3, rfl⟩
  go_wp2_with fail
  go_quiet (fail)
  go_wp2_with fail
  go_ret2
  exact ⟨rfl, below_drewN (below_drewN HB2'.out _) _⟩

set_option maxRecDepth 100000 in
set_option maxHeartbeats 1000000 in
theorem implCompare4_yes (a : Int) (s : ByteArray) (b : Int) (t : ByteArray) (w : World) (hs : plainB s = true) (ht : plainB t = true) (hE : ErrAt w) (hsame : sameB s t = true) :
    Calls Tryd.prog 29 #[.int .i64 4, .int .i64 a, .string s, .int .i64 b, .string t] w fun e w' => e = .returned (.tuple #[.bool (decide (a ≤ b)), .bool true]) ∧ Below w.heap.size w w' := by
  have s20 := plainB_size hs
  have t20 := plainB_size ht
  have HS := Lib.hid hs
  have HT := Lib.hid ht
  have HE := Lib.hid hE
  have HSAME := Lib.hid hsame
  clear hs ht hE hsame
  go_enter Tryd.func29, Tryd.ntmps29
  go_wp2_with fail
  refine (short_yes s _ (by omega)).mono ?_
  rintro e _ ⟨rfl, rfl⟩
  go_wp2_with fail
  refine (short_yes t _ (by omega)).mono ?_
  rintro e _ ⟨rfl, rfl⟩
  go_wp2_with fail
  refine (new_any a s _ (by omega) (plainB_asc HS.out)).mono ?_
  rintro e w1 ⟨g1, rfl, hm1, hg1, hb1⟩
  have HM1 := Lib.hid hm1
  have HB1 := Lib.hid hb1
  clear hm1 hb1
  go_wp2_with fail
  refine (new_any b t _ (by omega) (plainB_asc HT.out)).mono ?_
  rintro e w2' ⟨g2, rfl, hm2, hg2, hb2⟩
  have HM2' := Lib.hid hm2
  have HM1'' := Lib.hid (HM1.out.below hb2)
  have HB2' := Lib.hid (HB1.out.trans (hb2.mono HB1.out.size))
  clear hm2 hb2
  obtain ⟨te, ve, hce⟩ := HE.out.below HB2'.out
  go_wp2_with fail
  go_quiet (fail)
  clear hce

  have HM2 := Lib.hid (MoneyAt.drewN HM2'.out nq)
  have HM1' := Lib.hid (MoneyAt.drewN HM1''.out nq)
  have HB2 := Lib.hid (below_drewN HB2'.out nq)
  go_wp2_with fail

  refine (lessEq_yes a b _ _ g1 g2 _ HM1'.out HM2.out (sameB_code HSAME.out)).mono ?_
  rintro e w3 ⟨rfl, n3, rfl⟩
  go_wp2_with fail
  go_quiet (fail)
  go_wp2_with fail
  go_ret2
  exact ⟨rfl, below_drewN (below_drewN HB2'.out _) _⟩

set_option maxRecDepth 100000 in
set_option maxHeartbeats 1000000 in
theorem implCompare4_no (a : Int) (s : ByteArray) (b : Int) (t : ByteArray) (w : World) (hs : plainB s = true) (ht : plainB t = true) (hE : ErrAt w) (hsame : sameB s t = false) :
    Calls Tryd.prog 29 #[.int .i64 4, .int .i64 a, .string s, .int .i64 b, .string t] w fun e w' => e = .returned (.tuple #[.bool false, .bool false]) ∧ Below w.heap.size w w' := by
  have s20 := plainB_size hs
  have t20 := plainB_size ht
  have HS := Lib.hid hs
  have HT := Lib.hid ht
  have HE := Lib.hid hE
  have HSAME := Lib.hid hsame
  clear hs ht hE hsame
  go_enter Tryd.func29, Tryd.ntmps29
  go_wp2_with fail
  refine (short_yes s _ (by omega)).mono ?_
  rintro e _ ⟨rfl, rfl⟩
  go_wp2_with fail
  refine (short_yes t _ (by omega)).mono ?_
  rintro e _ ⟨rfl, rfl⟩
  go_wp2_with fail
  refine (new_any a s _ (by omega) (plainB_asc HS.out)).mono ?_
  rintro e w1 ⟨g1, rfl, hm1, hg1, hb1⟩
  have HM1 := Lib.hid hm1
  have HB1 := Lib.hid hb1
  clear hm1 hb1
  go_wp2_with fail
  refine (new_any b t _ (by omega) (plainB_asc HT.out)).mono ?_
  rintro e w2' ⟨g2, rfl, hm2, hg2, hb2⟩
  have HM2' := Lib.hid hm2
  have HM1'' := Lib.hid (HM1.out.below hb2)
  have HB2' := Lib.hid (HB1.out.trans (hb2.mono HB1.out.size))
  clear hm2 hb2
  obtain ⟨te, ve, hce⟩ := HE.out.below HB2'.out
  go_wp2_with fail
  go_quiet (fail)
  clear hce

  have HM2 := Lib.hid (MoneyAt.drewN HM2'.out nq)
  have HM1' := Lib.hid (MoneyAt.drewN HM1''.out nq)
  have HB2 := Lib.hid (below_drewN HB2'.out nq)
  go_wp2_with fail

  refine (lessEq_no a b _ _ g1 g2 _ HM1'.out HM2.out (sameB_code_ne HSAME.out) (HE.out.below HB2.out)).mono ?_
  rintro e w3 ⟨tt, vv, rfl, n3, rfl⟩
  go_wp2_with fail
  go_quiet (fail)
  go_wp2_with fail
  go_ret2
  exact ⟨rfl, below_drewN (below_drewN HB2'.out _) _⟩
end Go.Proofs.YteanfkmchfhfpaaDoor
