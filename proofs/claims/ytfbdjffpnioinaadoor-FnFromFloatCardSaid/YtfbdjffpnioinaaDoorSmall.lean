/- Amounts, asked: whether two are of one currency; zero, above, below. -/
import Derived.Test.YtfbdjffpnioinaaDoorMoney
namespace Go.Proofs.YtfbdjffpnioinaaDoor
open Go.RowKit

theorem bytes_eq {a b : ByteArray} (h : (a.toList == b.toList) = true) : a = b := by
  have h1 : a.toList = b.toList := by simpa using h
  rw [Lib.toList_data, Lib.toList_data] at h1
  obtain ⟨x⟩ := a
  obtain ⟨y⟩ := b
  exact congrArg ByteArray.mk (Array.toList_inj.1 h1)

theorem curOf_code {u : ByteArray} {c : Cur} (h : curOf u = some c) : c.code = u := by
  have := List.find?_some h
  exact (bytes_eq this).symm
theorem code_curFor (u : ByteArray) : (curFor u).code = u := by
  unfold curFor
  cases h : curOf u with
  | none => rfl
  | some c => exact curOf_code h

set_option maxHeartbeats 400000 in
theorem equals_any (c1 c2 : Cur) (g1 g2 : Nat) (w : World) (h1 : Blk w g1 42 c1.cells) (h2 : Blk w g2 42 c2.cells) :
    Calls Tryd.prog 59 #[.pointer (some ⟨g1, 0, none⟩), .pointer (some ⟨g2, 0, none⟩)] w fun e w' => e = .returned (.bool (c1.code.toList == c2.code.toList)) ∧ ∃ n, w' = w.drewN n := by
  have e1 : w.cell? ⟨g1, 0, none⟩ = some (.string c1.code) := h1.cell 0
  have e2 : w.cell? ⟨g2, 0, none⟩ = some (.string c2.code) := h2.cell 0
  clear h1 h2
  go_enter Tryd.func59, Tryd.ntmps59
  go_wp2
  go_region
  go_wp2
  go_ret
  exact ⟨rfl, 1, rfl⟩

set_option maxHeartbeats 400000 in
theorem same_any (a1 a2 : Int) (c1 c2 : Cur) (g1 g2 : Nat) (w : World) (h1 : MoneyAt w g1 a1 c1) (h2 : MoneyAt w g2 a2 c2) :
    Calls Tryd.prog 51 #[.pointer (some ⟨g1, 0, none⟩), .pointer (some ⟨g2, 0, none⟩)] w fun e w' => e = .returned (.bool (c1.code.toList == c2.code.toList)) ∧ ∃ n, w' = w.drewN n := by
  obtain ⟨k1, m1, q1⟩ := h1
  obtain ⟨k2, m2, q2⟩ := h2
  have e1 : w.cell? ⟨g1, 1, none⟩ = some (.pointer (some ⟨k1, 0, none⟩)) := m1.cell 1
  have e2 : w.cell? ⟨g2, 1, none⟩ = some (.pointer (some ⟨k2, 0, none⟩)) := m2.cell 1
  have Q1 := Lib.hid q1
  have Q2 := Lib.hid q2
  clear m1 m2 q1 q2
  go_enter Tryd.func51, Tryd.ntmps51
  go_wp2
  go_quiet ((go_at_call 59; exact Calls.quiet_of (equals_any c1 c2 k1 k2 _ (Q1.out.drewN _) (Q2.out.drewN _))))
  go_wp2
  go_ret
  exact ⟨rfl, _, rfl⟩

theorem short_yes (s : ByteArray) (w : World) (h : s.size ≤ 100) : Calls Tryd.prog 18 #[.string s] w fun e w' => e = .returned (.bool true) ∧ w = w' :=
  (short_any s w).mono fun e w' ⟨he, hw⟩ => ⟨by rw [he, decide_eq_true h], hw⟩

theorem plainB_size {s : ByteArray} (h : plainB s = true) : s.size ≤ 20 := by
  unfold plainB at h; simp only [Bool.and_eq_true, decide_eq_true_eq] at h; exact h.1
theorem plainB_asc {s : ByteArray} (h : plainB s = true) : ascB s = true := by
  unfold plainB at h; simp only [Bool.and_eq_true] at h; exact h.2

end Go.Proofs.YtfbdjffpnioinaaDoor
