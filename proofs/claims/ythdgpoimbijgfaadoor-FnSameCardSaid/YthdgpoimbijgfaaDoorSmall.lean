/- Amounts, asked: whether two are of one currency; zero, above, below. -/
import Derived.Test.YthdgpoimbijgfaaDoorMoney
namespace Go.Proofs.YthdgpoimbijgfaaDoor
open Go.RowKit

theorem bytes_eq {a b : ByteArray} (h : (a.toList == b.toList) = true) : a = b := by
  have h1 : a.toList = b.toList := by simpa using h
  rw [Lib.toList_data, Lib.toList_data] at h1
  obtain ⟨x⟩ := a
  obtain ⟨y⟩ := b
  exact congrArg ByteArray.mk (Array.toList_inj.1 h1)

theorem curOf_code {u : ByteArray} {c : Cur} (h : curOf u = some c) : c.code = u := by
  have := List.find?_some h
  exact (bytes_eq this).symm
theorem code_curFor (u : ByteArray) : (curFor u).code = u := by
  unfold curFor
  cases h : curOf u with
  | none => rfl
  | some c => exact curOf_code h

set_option maxHeartbeats 400000 in
theorem equals_any (c1 c2 : Cur) (g1 g2 : Nat) (w : World) (h1 : Blk w g1 40 c1.cells) (h2 : Blk w g2 40 c2.cells) :
    Calls Tryd.prog 18 #[.pointer (some ⟨g1, 0, none⟩), .pointer (some ⟨g2, 0, none⟩)] w fun e w' => e = .returned (.bool (c1.code.toList == c2.code.toList)) ∧ ∃ n, w' = w.drewN n := by
  have e1 : w.cell? ⟨g1, 0, none⟩ = some (.string c1.code) := h1.cell 0
  have e2 : w.cell? ⟨g2, 0, none⟩ = some (.string c2.code) := h2.cell 0
  clear h1 h2
  go_enter Tryd.func18, Tryd.ntmps18
  go_wp2
  go_region
  go_wp2
  go_ret
  exact ⟨rfl, 1, rfl⟩

set_option maxHeartbeats 400000 in
theorem same_any (a1 a2 : Int) (c1 c2 : Cur) (g1 g2 : Nat) (w : World) (h1 : MoneyAt w g1 a1 c1) (h2 : MoneyAt w g2 a2 c2) :
    Calls Tryd.prog 12 #[.pointer (some ⟨g1, 0, none⟩), .pointer (some ⟨g2, 0, none⟩)] w fun e w' => e = .returned (.bool (c1.code.toList == c2.code.toList)) ∧ ∃ n, w' = w.drewN n := by
  obtain ⟨k1, m1, q1⟩ := h1
  obtain ⟨k2, m2, q2⟩ := h2
  have e1 : w.cell? ⟨g1, 1, none⟩ = some (.pointer (some ⟨k1, 0, none⟩)) := m1.cell 1
  have e2 : w.cell? ⟨g2, 1, none⟩ = some (.pointer (some ⟨k2, 0, none⟩)) := m2.cell 1
  have Q1 := Lib.hid q1
  have Q2 := Lib.hid q2
  clear m1 m2 q1 q2
  go_enter Tryd.func12, Tryd.ntmps12
  go_wp2
  go_quiet ((go_at_call 18; exact Calls.quiet_of (equals_any c1 c2 k1 k2 _ (Q1.out.drewN _) (Q2.out.drewN _))))
  go_wp2
  go_ret
  exact ⟨rfl, _, rfl⟩

set_option maxHeartbeats 400000 in
theorem isZero_any (a : Int) (c : Cur) (g : Nat) (w : World) (h : MoneyAt w g a c) :
    Calls Tryd.prog 13 #[.pointer (some ⟨g, 0, none⟩)] w fun e w' => e = .returned (.bool (a == 0)) ∧ w = w' := by
  obtain ⟨k, m, q⟩ := h
  have e1 : w.cell? ⟨g, 0, none⟩ = some (.int .i64 a) := m.cell 0
  clear m q
  go_enter Tryd.func13, Tryd.ntmps13
  go_wp2
  go_ret
  exact ⟨rfl, rfl⟩
set_option maxHeartbeats 400000 in
theorem isPositive_any (a : Int) (c : Cur) (g : Nat) (w : World) (h : MoneyAt w g a c) :
    Calls Tryd.prog 14 #[.pointer (some ⟨g, 0, none⟩)] w fun e w' => e = .returned (.bool (decide (0 < a))) ∧ w = w' := by
  obtain ⟨k, m, q⟩ := h
  have e1 : w.cell? ⟨g, 0, none⟩ = some (.int .i64 a) := m.cell 0
  clear m q
  go_enter Tryd.func14, Tryd.ntmps14
  go_wp2
  go_ret
  exact ⟨rfl, rfl⟩
set_option maxHeartbeats 400000 in
theorem isNegative_any (a : Int) (c : Cur) (g : Nat) (w : World) (h : MoneyAt w g a c) :
    Calls Tryd.prog 15 #[.pointer (some ⟨g, 0, none⟩)] w fun e w' => e = .returned (.bool (decide (a < 0))) ∧ w = w' := by
  obtain ⟨k, m, q⟩ := h
  have e1 : w.cell? ⟨g, 0, none⟩ = some (.int .i64 a) := m.cell 0
  clear m q
  go_enter Tryd.func15, Tryd.ntmps15
  go_wp2
  go_ret
  exact ⟨rfl, rfl⟩

set_option maxHeartbeats 400000 in
theorem signs_any (a : Int) (w : World) :
    Calls Tryd.prog 8 #[.int .i64 a] w fun e w' => e = .returned (.tuple #[.bool (a == 0), .bool (decide (0 < a)), .bool (decide (a < 0))]) ∧ Below w.heap.size w w' := by
  go_enter Tryd.func8, Tryd.ntmps8
  go_wp2_with fail
  refine (new_any a ⟨#[69, 85, 82]⟩ _ (by decide) (by decide)).mono ?_
  rintro e w1 ⟨g, rfl, hm, hg, hb⟩
  have HM := Lib.hid hm
  have HB := Lib.hid hb
  clear hm hb
  go_wp2_with fail
  refine (isZero_any a _ g _ HM.out).mono ?_
  rintro e _ ⟨rfl, rfl⟩
  go_wp2_with fail
  refine (isPositive_any a _ g _ HM.out).mono ?_
  rintro e _ ⟨rfl, rfl⟩
  go_wp2_with fail
  refine (isNegative_any a _ g _ HM.out).mono ?_
  rintro e _ ⟨rfl, rfl⟩
  go_wp2_with fail
  go_ret3
  exact ⟨rfl, HB.out⟩

set_option maxHeartbeats 400000 in
theorem fnSigns_law (a : Int) (w : World) (_h0 : -9223372036854775808 ≤ a) (_h1 : a ≤ 9223372036854775807) :
    Calls Tryd.prog 4 #[.int .i64 a] w fun e w' => e = .returned (.bool true) ∧ Below w.heap.size w w' := by
  go_enter Tryd.func4, Tryd.ntmps4
  go_wp2_with fail
  refine (signs_any a _).mono ?_
  rintro e w1 ⟨rfl, hb⟩
  go_wp2_with fail
  go_ret
  exact ⟨rfl, hb⟩
end Go.Proofs.YthdgpoimbijgfaaDoor
