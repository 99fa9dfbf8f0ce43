/- FnNegative, walked: at every code and amount the law returns true and leaves what was there. -/
import Derived.Test.YteanfkmchfhfpaaDoorAlive
namespace Go.Proofs.YteanfkmchfhfpaaDoor
open Go.RowKit

def negativeI (a : Int) : Int := if 0 < a then -a else a
set_option maxHeartbeats 400000 in
theorem negative_calc (p : Option Addr) (a : Int) (w : World) (h0 : -9223372036854775807 ≤ a) (h1 : a ≤ 9223372036854775807) :
    Calls Tryd.prog 59 #[.pointer p, .int .i64 a] w fun e w' => e = .returned (.int .i64 (negativeI a)) ∧ w = w' := by
  by_cases h : 0 < a
  · have HR := Lib.hid (show negativeI a = -a from if_pos h)
    go_enter Tryd.func59, Tryd.ntmps59
    go_wp2
    go_ret
    exact ⟨ret_int HR.out.symm, rfl⟩
  · have HR := Lib.hid (show negativeI a = a from if_neg h)
    go_enter Tryd.func59, Tryd.ntmps59
    go_wp2
    go_ret
    exact ⟨ret_int HR.out.symm, rfl⟩

set_option maxHeartbeats 1000000 in
theorem mnegative_any (a : Int) (c : Cur) (g : Nat) (w : World) (h : MoneyAt w g a c) (h0 : -9223372036854775807 ≤ a) (h1 : a ≤ 9223372036854775807) :
    Calls Tryd.prog 40 #[.pointer (some ⟨g, 0, none⟩)] w (GotMoney (negativeI a) c w) := by
  obtain ⟨k, m, q⟩ := h
  have e1 : w.cell? ⟨g, 0, none⟩ = some (.int .i64 a) := m.cell 0
  have e2 : w.cell? ⟨g, 1, none⟩ = some (.pointer (some ⟨k, 0, none⟩)) := m.cell 1
  have Q := Lib.hid q
  have l1 : g < w.heap.size := m.lt
  clear m q
  go_enter Tryd.func40, Tryd.ntmps40
  go_wp2_with fail
  go_region_held3 (fun w' => w'.cell? ⟨g, 0, none⟩ = some (.int .i64 a) ∧ w'.cell? ⟨g, 1, none⟩ = some (.pointer (some ⟨k, 0, none⟩))) (go_keep) (first
    | (go_at_call 54; refine (calc_any _).mono ?_; rintro e w' ⟨rfl, rfl⟩)
    | (go_at_call 59; refine (negative_calc _ _ _ h0 h1).mono ?_; rintro e w' ⟨rfl, rfl⟩))
  all_goals
    go_wp2
    go_ret
    have hz : w.heap.size + 1 = (w.alloc (.cells #[] 99)).heap.size := by simp
    refine ⟨_, rfl, ⟨k, ?_, ((Q.out.alloc _).alloc _).drew⟩, by omega, (((Below.refl _ _).alloc (Nat.le_refl _) _).alloc (by simp) _).drew⟩
    rw [hz]
    exact (Blk.new _ _ _).drew

set_option maxHeartbeats 400000 in
theorem implNegative_any (s : ByteArray) (a : Int) (w : World) (hs : s.size ≤ 100) (ha : ascB s = true) (h0 : -9223372036854775807 ≤ a) (h1 : a ≤ 9223372036854775807) :
    Calls Tryd.prog 23 #[.string s, .int .i64 a] w fun e w' => e = .returned (.int .i64 (negativeI a)) ∧ Below w.heap.size w w' := by
  have HA := Lib.hid ha
  clear ha
  go_enter Tryd.func23, Tryd.ntmps23
  go_wp2_with fail
  refine (short_yes s _ hs).mono ?_
  rintro e _ ⟨rfl, rfl⟩
  go_wp2_with fail
  refine (new_any a s _ (by omega) HA.out).mono ?_
  rintro e w1 ⟨g1, rfl, hm1, hg1, hb1⟩
  have HM1 := Lib.hid hm1
  have HB1 := Lib.hid hb1
  clear hm1 hb1
  go_wp2_with fail
  refine (mnegative_any a _ g1 _ HM1.out h0 h1).mono ?_
  rintro e w2 ⟨g2, rfl, hm2, hg2, hb2⟩
  have HM2 := Lib.hid hm2
  have HB2 := Lib.hid hb2
  clear hm2 hb2
  go_wp2_with fail
  refine (amount_any _ _ g2 _ HM2.out).mono ?_
  rintro e w3 ⟨rfl, rfl⟩
  go_wp2_with fail
  go_ret
  exact ⟨rfl, HB1.out.trans (HB2.out.mono HB1.out.size)⟩

set_option maxHeartbeats 1000000 in
theorem fnNegative_in (s : ByteArray) (a : Int) (w : World) (hp : plainB s = true) (h0 : -9223372036854775807 ≤ a) (h1 : a ≤ 9223372036854775807) (hE : ErrAt w) :
    Calls Tryd.prog 6 #[.string s, .int .i64 a] w fun e w' => e = .returned (.bool true) ∧ Below w.heap.size w w' := by
  have hs := plainB_size hp
  have HP := Lib.hid hp
  have HE := Lib.hid hE
  have hne : (a == -9223372036854775808) = false := by rw [beq_eq_false_iff_ne]; omega
  clear hp hE
  by_cases h : 0 < a
  all_goals
    go_enter Tryd.func6, Tryd.ntmps6
    go_wp2_with fail
    refine (plain_any s _ (by unfold maxLen; omega)).mono ?_
    rintro e _ ⟨rfl, rfl⟩
    rw [HP.out]
    go_wp2_with fail
    clear hne
    refine (implNegative_any s a _ (by omega) (plainB_asc HP.out) h0 h1).mono ?_
    rintro e w1 ⟨rfl, hb1⟩
    have HB1 := Lib.hid hb1
    clear hb1
    have e1 : negativeI a = (if 0 < a then -a else a) := rfl
    first | rw [if_pos (show 0 < a by omega)] at e1 | rw [if_neg (show ¬ (0 < a) by omega)] at e1
    rw [e1]
    clear e1
    have hmax : min a (-a) = if 0 < a then -a else a := by split <;> omega
    first | rw [if_pos (show 0 < a by omega)] at hmax | rw [if_neg (show ¬ (0 < a) by omega)] at hmax
    go_wp2_with fail
    clear hmax
    refine (alive_any _ (HE.out.below HB1.out)).mono ?_
    rintro e w2 ⟨rfl, hb2⟩
    have HB2 := Lib.hid (HB1.out.trans (hb2.mono HB1.out.size))
    clear hb2
    go_wp2_with fail
    go_ret
    exact ⟨rfl, HB2.out⟩

set_option maxHeartbeats 400000 in
theorem fnNegative_law (s : ByteArray) (a : Int) (w : World) (hs : s.size ≤ maxLen) (h0 : -9223372036854775808 ≤ a) (h1 : a ≤ 9223372036854775807) (hE : ErrAt w) :
    Calls Tryd.prog 6 #[.string s, .int .i64 a] w fun e w' => e = .returned (.bool true) ∧ Below w.heap.size w w' := by
  have hs' : s.size ≤ 9223372036854775807 := by unfold maxLen at hs; omega
  have HS := Lib.hid hs
  clear hs
  by_cases hbig : 2147483647 < s.size
  · clear hE
    go_enter Tryd.func6, Tryd.ntmps6
    go_wp2_with fail
    go_ret
    exact ⟨rfl, Below.refl _ _⟩
  · cases hp : plainB s with
    | false =>
      have HP := Lib.hid hp
      clear hp hE
      go_enter Tryd.func6, Tryd.ntmps6
      go_wp2_with fail
      refine (plain_any s _ HS.out).mono ?_
      rintro e _ ⟨rfl, rfl⟩
      rw [HP.out]
      go_wp2_with fail
      go_ret
      exact ⟨rfl, Below.refl _ _⟩
    | true =>
      by_cases hm : a = -9223372036854775808
      · have HP := Lib.hid hp
        subst hm
        clear hp hE
        go_enter Tryd.func6, Tryd.ntmps6
        go_wp2_with fail
        refine (plain_any s _ HS.out).mono ?_
        rintro e _ ⟨rfl, rfl⟩
        rw [HP.out]
        go_wp2_with fail
        go_ret
        exact ⟨rfl, Below.refl _ _⟩
      · exact fnNegative_in s a w hp (by omega) h1 hE
end Go.Proofs.YteanfkmchfhfpaaDoor
