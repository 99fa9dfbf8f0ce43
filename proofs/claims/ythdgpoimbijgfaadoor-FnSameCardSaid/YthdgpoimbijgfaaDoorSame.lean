/- FnSame, walked: whatever the two codes, the law returns true and leaves what was there. -/
import Derived.Test.YthdgpoimbijgfaaDoorSmall
namespace Go.Proofs.YthdgpoimbijgfaaDoor
open Go.RowKit

theorem short_yes (s : ByteArray) (w : World) (h : s.size ≤ 100) : Calls Tryd.prog 10 #[.string s] w fun e w' => e = .returned (.bool true) ∧ w = w' :=
  (short_any s w).mono fun e w' ⟨he, hw⟩ => ⟨by rw [he, decide_eq_true h], hw⟩

theorem plainB_size {s : ByteArray} (h : plainB s = true) : s.size ≤ 20 := by
  unfold plainB at h; simp only [Bool.and_eq_true, decide_eq_true_eq] at h; exact h.1
theorem plainB_asc {s : ByteArray} (h : plainB s = true) : ascB s = true := by
  unfold plainB at h; simp only [Bool.and_eq_true] at h; exact h.2

set_option maxHeartbeats 400000 in
theorem implSame_any (a b : ByteArray) (w : World) (sa : a.size ≤ 100) (sb : b.size ≤ 100) (ha : ascB a = true) (hb : ascB b = true) :
    Calls Tryd.prog 6 #[.string a, .string b] w fun e w' => e = .returned (.bool ((upB a).toList == (upB b).toList)) ∧ Below w.heap.size w w' := by
  have HA := Lib.hid ha
  have HB := Lib.hid hb
  clear ha hb
  go_enter Tryd.func6, Tryd.ntmps6
  go_wp2_with fail
  refine (short_yes a _ sa).mono ?_
  rintro e _ ⟨rfl, rfl⟩
  go_wp2_with fail
  refine (short_yes b _ sb).mono ?_
  rintro e _ ⟨rfl, rfl⟩
  go_wp2_with fail
  refine (new_any 0 a _ (by omega) HA.out).mono ?_
  rintro e w1 ⟨g1, rfl, hm1, hg1, hb1⟩
  have HM1 := Lib.hid hm1
  have HB1 := Lib.hid hb1
  clear hm1 hb1
  go_wp2_with fail
  refine (new_any 0 b _ (by omega) HB.out).mono ?_
  rintro e w2 ⟨g2, rfl, hm2, hg2, hb2⟩
  have HM2 := Lib.hid hm2
  have HB2 := Lib.hid hb2
  clear hm2 hb2
  go_wp2_with fail
  refine (same_any 0 0 _ _ g1 g2 _ (HM1.out.below HB2.out) HM2.out).mono ?_
  rintro e w3 ⟨rfl, n, rfl⟩
  go_wp2_with fail
  go_ret
  exact ⟨ret_bool (by rw [code_curFor, code_curFor]), below_drewN (HB1.out.trans (HB2.out.mono HB1.out.size)) n⟩

set_option maxHeartbeats 400000 in
theorem fnSame_in (a b : ByteArray) (w : World) (ha : plainB a = true) (hb : plainB b = true) :
    Calls Tryd.prog 3 #[.string a, .string b] w fun e w' => e = .returned (.bool true) ∧ Below w.heap.size w w' := by
  have sa := plainB_size ha
  have sb := plainB_size hb
  have PA := Lib.hid ha
  have PB := Lib.hid hb
  clear ha hb
  go_enter Tryd.func3, Tryd.ntmps3
  go_wp2_with fail
  refine (plain_any a _ (by unfold maxLen; omega)).mono ?_
  rintro e _ ⟨rfl, rfl⟩
  rw [PA.out]
  go_wp2_with fail
  refine (plain_any b _ (by unfold maxLen; omega)).mono ?_
  rintro e _ ⟨rfl, rfl⟩
  rw [PB.out]
  go_wp2_with fail
  refine (implSame_any a b _ (by omega) (by omega) (plainB_asc PA.out) (plainB_asc PB.out)).mono ?_
  rintro e w1 ⟨rfl, hb1⟩
  have HB1 := Lib.hid hb1
  clear hb1
  go_wp2_with fail
  refine (upper_any a _ (by omega)).mono ?_
  rintro e w2 ⟨rfl, hb2⟩
  have HB2 := Lib.hid hb2
  clear hb2
  go_wp2_with fail
  refine (upper_any b _ (by omega)).mono ?_
  rintro e w3 ⟨rfl, hb3⟩
  have HB3 := Lib.hid hb3
  clear hb3
  go_wp2_with fail
  refine (implSame_any ⟨#[69, 85, 82]⟩ ⟨#[101, 117, 114]⟩ _ (by decide) (by decide) (by decide) (by decide)).mono ?_
  rintro e w4 ⟨rfl, hb4⟩
  have e4 : ((upB ⟨#[69, 85, 82]⟩).toList == (upB ⟨#[101, 117, 114]⟩).toList) = true := by kernel_rfl
  rw [e4]
  have HB4 := Lib.hid hb4
  clear hb4 e4
  go_wp2_with fail
  go_ret
  exact ⟨rfl, ((HB1.out.trans (HB2.out.mono HB1.out.size)).trans (HB3.out.mono (Nat.le_trans HB1.out.size HB2.out.size))).trans (HB4.out.mono (Nat.le_trans HB1.out.size (Nat.le_trans HB2.out.size HB3.out.size)))⟩

set_option maxHeartbeats 400000 in
theorem fnSame_no1 (a b : ByteArray) (w : World) (ha : plainB a = false) (sa : a.size ≤ 2147483647) (sb : b.size ≤ 2147483647) :
    Calls Tryd.prog 3 #[.string a, .string b] w fun e w' => e = .returned (.bool true) ∧ Below w.heap.size w w' := by
  have PA := Lib.hid ha
  clear ha
  go_enter Tryd.func3, Tryd.ntmps3
  go_wp2_with fail
  refine (plain_any a _ (by unfold maxLen; omega)).mono ?_
  rintro e _ ⟨rfl, rfl⟩
  rw [PA.out]
  go_wp2_with fail
  go_ret
  exact ⟨rfl, Below.refl _ _⟩
set_option maxHeartbeats 400000 in
theorem fnSame_no2 (a b : ByteArray) (w : World) (ha : plainB a = true) (hb : plainB b = false) (sb : b.size ≤ 2147483647) :
    Calls Tryd.prog 3 #[.string a, .string b] w fun e w' => e = .returned (.bool true) ∧ Below w.heap.size w w' := by
  have sa := plainB_size ha
  have PA := Lib.hid ha
  have PB := Lib.hid hb
  clear ha hb
  go_enter Tryd.func3, Tryd.ntmps3
  go_wp2_with fail
  refine (plain_any a _ (by unfold maxLen; omega)).mono ?_
  rintro e _ ⟨rfl, rfl⟩
  rw [PA.out]
  go_wp2_with fail
  refine (plain_any b _ (by unfold maxLen; omega)).mono ?_
  rintro e _ ⟨rfl, rfl⟩
  rw [PB.out]
  go_wp2_with fail
  go_ret
  exact ⟨rfl, Below.refl _ _⟩
set_option maxHeartbeats 400000 in
theorem fnSame_big (a b : ByteArray) (w : World) (sa : a.size ≤ maxLen) (sb : b.size ≤ maxLen) (h : 2147483647 < a.size ∨ 2147483647 < b.size) :
    Calls Tryd.prog 3 #[.string a, .string b] w fun e w' => e = .returned (.bool true) ∧ Below w.heap.size w w' := by
  unfold maxLen at sa sb
  by_cases h1 : 2147483647 < a.size
  · go_enter Tryd.func3, Tryd.ntmps3
    go_wp2_with fail
    go_ret
    exact ⟨rfl, Below.refl _ _⟩
  · have h2 : 2147483647 < b.size := by omega
    clear h
    go_enter Tryd.func3, Tryd.ntmps3
    go_wp2_with fail
    go_ret
    exact ⟨rfl, Below.refl _ _⟩

theorem fnSame_law (a b : ByteArray) (w : World) (sa : a.size ≤ maxLen) (sb : b.size ≤ maxLen) :
    Calls Tryd.prog 3 #[.string a, .string b] w fun e w' => e = .returned (.bool true) ∧ Below w.heap.size w w' := by
  by_cases h : 2147483647 < a.size ∨ 2147483647 < b.size
  · exact fnSame_big a b w sa sb h
  · cases ha : plainB a with
    | false => exact fnSame_no1 a b w ha (by omega) (by omega)
    | true =>
      cases hb : plainB b with
      | false => exact fnSame_no2 a b w ha hb (by omega)
      | true => exact fnSame_in a b w ha hb
end Go.Proofs.YthdgpoimbijgfaaDoor
