/- Comparisons of amounts: compare, the five comparisons, Compare: of one currency, of two. -/
import Derived.Test.YteanfkmchfhfpaaDoorAlive
namespace Go.Proofs.YteanfkmchfhfpaaDoor
open Go.RowKit

def cmpI (a b : Int) : Int := if b < a then 1 else if a < b then -1 else 0
set_option maxHeartbeats 400000 in
theorem compare_any (a b : Int) (c d : Cur) (g h : Nat) (w : World) (h1 : MoneyAt w g a c) (h2 : MoneyAt w h b d) :
    Calls Tryd.prog 61 #[.pointer (some ⟨g, 0, none⟩), .pointer (some ⟨h, 0, none⟩)] w fun e w' => e = .returned (.int .i64 (cmpI a b)) ∧ ∃ n, w' = w.drewN n := by
  obtain ⟨k1, m1, _⟩ := h1
  obtain ⟨k2, m2, _⟩ := h2
  have e1 : w.cell? ⟨g, 0, none⟩ = some (.int .i64 a) := m1.cell 0
  have e2 : w.cell? ⟨h, 0, none⟩ = some (.int .i64 b) := m2.cell 0
  clear m1 m2
  by_cases h3 : b < a
  · have HC := Lib.hid (show cmpI a b = 1 from if_pos h3)
    go_enter Tryd.func61, Tryd.ntmps61
    go_wp2_with fail
    go_quiet (fail)
    go_wp2_with fail
    go_ret
    exact ⟨ret_int HC.out.symm, _, rfl⟩
  · by_cases h4 : a < b
    · have HC := Lib.hid (show cmpI a b = -1 by unfold cmpI; rw [if_neg h3, if_pos h4])
      have h5 : decide (b < a) = false := by simp; omega
      go_enter Tryd.func61, Tryd.ntmps61
      go_wp2_with fail
      go_quiet (fail)
      go_wp2_with fail
      go_quiet (fail)
      go_wp2_with fail
      go_ret
      exact ⟨ret_int HC.out.symm, _, World.drewN_drewN _ _ _⟩
    · have HC := Lib.hid (show cmpI a b = 0 by unfold cmpI; rw [if_neg h3, if_neg h4])
      go_enter Tryd.func61, Tryd.ntmps61
      go_wp2_with fail
      go_quiet (fail)
      go_wp2_with fail
      go_quiet (fail)
      go_wp2_with fail
      go_ret
      exact ⟨ret_int HC.out.symm, _, World.drewN_drewN _ _ _⟩

theorem ret_bn {a b : Bool} (h : a = b) : Ending.returned (.tuple #[.bool a, .nilIface]) = .returned (.tuple #[.bool b, .nilIface]) := by rw [h]
theorem below_drewN_of {w w' : World} (h : ∃ n, w' = w.drewN n) : Below w.heap.size w w' := by obtain ⟨n, rfl⟩ := h; exact below_drewN (Below.refl _ _) n

set_option maxHeartbeats 400000 in
theorem order_yes (a b : Int) (c d : Cur) (g h : Nat) (w : World) (h1 : MoneyAt w g a c) (h2 : MoneyAt w h b d) (he : c.code = d.code) :
    Calls Tryd.prog 43 #[.pointer (some ⟨g, 0, none⟩), .pointer (some ⟨h, 0, none⟩)] w fun e w' => e = .returned (.tuple #[.int .i64 (cmpI a b), .nilIface]) ∧ ∃ n, w' = w.drewN n := by
  have H1 := Lib.hid h1
  have H2 := Lib.hid h2
  have HE := Lib.hid he
  clear h1 h2 he
  go_enter Tryd.func43, Tryd.ntmps43
  go_wp2_with fail
  refine (assert_yes a b c d g h _ H1.out H2.out HE.out).mono ?_
  rintro e w1 ⟨rfl, n, rfl⟩
  go_wp2_with fail
  refine (compare_any a b c d g h _ (H1.out.drewN n) (H2.out.drewN n)).mono ?_
  rintro e w1 ⟨rfl, m, rfl⟩
  go_wp2_with fail
  go_ret2
  exact ⟨rfl, _, rfl⟩
set_option maxHeartbeats 400000 in
theorem order_no (a b : Int) (c d : Cur) (g h : Nat) (w : World) (h1 : MoneyAt w g a c) (h2 : MoneyAt w h b d) (he : c.code ≠ d.code) (hE : ErrAt w) :
    Calls Tryd.prog 43 #[.pointer (some ⟨g, 0, none⟩), .pointer (some ⟨h, 0, none⟩)] w fun e w' => ∃ t v, e = .returned (.tuple #[.int .i64 a, .iface t v]) ∧ ∃ n, w' = w.drewN n := by
  have H1 := Lib.hid h1
  have H2 := Lib.hid h2
  have HE := Lib.hid he
  have HX := Lib.hid hE
  obtain ⟨k1, m1, _⟩ := h1
  have e1 : w.cell? ⟨g, 0, none⟩ = some (.int .i64 a) := m1.cell 0
  clear m1 h2 he hE
  go_enter Tryd.func43, Tryd.ntmps43
  go_wp2_with fail
  refine (assert_no a b c d g h _ H1.out H2.out HE.out HX.out).mono ?_
  rintro e w1 ⟨⟨t, v, rfl⟩, n, rfl⟩
  go_wp2_with fail
  go_ret2
  exact ⟨t, v, rfl, n, rfl⟩

set_option maxHeartbeats 400000 in
theorem equals3_yes (a b : Int) (c d : Cur) (g h : Nat) (w : World) (h1 : MoneyAt w g a c) (h2 : MoneyAt w h b d) (he : c.code = d.code) :
    Calls Tryd.prog 46 #[.pointer (some ⟨g, 0, none⟩), .pointer (some ⟨h, 0, none⟩)] w fun e w' => e = .returned (.tuple #[.bool (a == b), .nilIface]) ∧ ∃ n, w' = w.drewN n := by
  have H1 := Lib.hid h1
  have H2 := Lib.hid h2
  have HE := Lib.hid he
  have HR := Lib.hid (show (cmpI a b == 0) = (a == b) by unfold cmpI; split <;> (try split) <;> simp <;> omega)
  clear h1 h2 he
  go_enter Tryd.func46, Tryd.ntmps46
  go_wp2_with fail
  refine (assert_yes a b c d g h _ H1.out H2.out HE.out).mono ?_
  rintro e w1 ⟨rfl, n, rfl⟩
  go_wp2_with fail
  refine (compare_any a b c d g h _ (H1.out.drewN n) (H2.out.drewN n)).mono ?_
  rintro e w1 ⟨rfl, m, rfl⟩
  go_wp2_with fail
  go_ret2
  exact ⟨ret_bn HR.out, _, rfl⟩
set_option maxHeartbeats 400000 in
theorem equals3_no (a b : Int) (c d : Cur) (g h : Nat) (w : World) (h1 : MoneyAt w g a c) (h2 : MoneyAt w h b d) (he : c.code ≠ d.code) (hE : ErrAt w) :
    Calls Tryd.prog 46 #[.pointer (some ⟨g, 0, none⟩), .pointer (some ⟨h, 0, none⟩)] w fun e w' => ∃ t v, e = .returned (.tuple #[.bool false, .iface t v]) ∧ ∃ n, w' = w.drewN n := by
  have H1 := Lib.hid h1
  have H2 := Lib.hid h2
  have HE := Lib.hid he
  have HX := Lib.hid hE
  obtain ⟨k1, m1, _⟩ := h1
  have e1 : w.cell? ⟨g, 0, none⟩ = some (.int .i64 a) := m1.cell 0
  clear m1 h2 he hE
  go_enter Tryd.func46, Tryd.ntmps46
  go_wp2_with fail
  refine (assert_no a b c d g h _ H1.out H2.out HE.out HX.out).mono ?_
  rintro e w1 ⟨⟨t, v, rfl⟩, n, rfl⟩
  go_wp2_with fail
  go_ret2
  exact ⟨t, v, rfl, n, rfl⟩

set_option maxHeartbeats 400000 in
theorem greater_yes (a b : Int) (c d : Cur) (g h : Nat) (w : World) (h1 : MoneyAt w g a c) (h2 : MoneyAt w h b d) (he : c.code = d.code) :
    Calls Tryd.prog 47 #[.pointer (some ⟨g, 0, none⟩), .pointer (some ⟨h, 0, none⟩)] w fun e w' => e = .returned (.tuple #[.bool (decide (b < a)), .nilIface]) ∧ ∃ n, w' = w.drewN n := by
  have H1 := Lib.hid h1
  have H2 := Lib.hid h2
  have HE := Lib.hid he
  have HR := Lib.hid (show (cmpI a b == 1) = (decide (b < a)) by unfold cmpI; split <;> (try split) <;> simp <;> omega)
  clear h1 h2 he
  go_enter Tryd.func47, Tryd.ntmps47
  go_wp2_with fail
  refine (assert_yes a b c d g h _ H1.out H2.out HE.out).mono ?_
  rintro e w1 ⟨rfl, n, rfl⟩
  go_wp2_with fail
  refine (compare_any a b c d g h _ (H1.out.drewN n) (H2.out.drewN n)).mono ?_
  rintro e w1 ⟨rfl, m, rfl⟩
  go_wp2_with fail
  go_ret2
  exact ⟨ret_bn HR.out, _, rfl⟩
set_option maxHeartbeats 400000 in
theorem greater_no (a b : Int) (c d : Cur) (g h : Nat) (w : World) (h1 : MoneyAt w g a c) (h2 : MoneyAt w h b d) (he : c.code ≠ d.code) (hE : ErrAt w) :
    Calls Tryd.prog 47 #[.pointer (some ⟨g, 0, none⟩), .pointer (some ⟨h, 0, none⟩)] w fun e w' => ∃ t v, e = .returned (.tuple #[.bool false, .iface t v]) ∧ ∃ n, w' = w.drewN n := by
  have H1 := Lib.hid h1
  have H2 := Lib.hid h2
  have HE := Lib.hid he
  have HX := Lib.hid hE
  obtain ⟨k1, m1, _⟩ := h1
  have e1 : w.cell? ⟨g, 0, none⟩ = some (.int .i64 a) := m1.cell 0
  clear m1 h2 he hE
  go_enter Tryd.func47, Tryd.ntmps47
  go_wp2_with fail
  refine (assert_no a b c d g h _ H1.out H2.out HE.out HX.out).mono ?_
  rintro e w1 ⟨⟨t, v, rfl⟩, n, rfl⟩
  go_wp2_with fail
  go_ret2
  exact ⟨t, v, rfl, n, rfl⟩

set_option maxHeartbeats 400000 in
theorem greaterEq_yes (a b : Int) (c d : Cur) (g h : Nat) (w : World) (h1 : MoneyAt w g a c) (h2 : MoneyAt w h b d) (he : c.code = d.code) :
    Calls Tryd.prog 48 #[.pointer (some ⟨g, 0, none⟩), .pointer (some ⟨h, 0, none⟩)] w fun e w' => e = .returned (.tuple #[.bool (decide (b ≤ a)), .nilIface]) ∧ ∃ n, w' = w.drewN n := by
  have H1 := Lib.hid h1
  have H2 := Lib.hid h2
  have HE := Lib.hid he
  have HR := Lib.hid (show (decide (0 ≤ cmpI a b)) = (decide (b ≤ a)) by unfold cmpI; split <;> (try split) <;> simp <;> omega)
  clear h1 h2 he
  go_enter Tryd.func48, Tryd.ntmps48
  go_wp2_with fail
  refine (assert_yes a b c d g h _ H1.out H2.out HE.out).mono ?_
  rintro e w1 ⟨rfl, n, rfl⟩
  go_wp2_with fail
  refine (compare_any a b c d g h _ (H1.out.drewN n) (H2.out.drewN n)).mono ?_
  rintro e w1 ⟨rfl, m, rfl⟩
  go_wp2_with fail
  go_ret2
  exact ⟨ret_bn HR.out, _, rfl⟩
set_option maxHeartbeats 400000 in
theorem greaterEq_no (a b : Int) (c d : Cur) (g h : Nat) (w : World) (h1 : MoneyAt w g a c) (h2 : MoneyAt w h b d) (he : c.code ≠ d.code) (hE : ErrAt w) :
    Calls Tryd.prog 48 #[.pointer (some ⟨g, 0, none⟩), .pointer (some ⟨h, 0, none⟩)] w fun e w' => ∃ t v, e = .returned (.tuple #[.bool false, .iface t v]) ∧ ∃ n, w' = w.drewN n := by
  have H1 := Lib.hid h1
  have H2 := Lib.hid h2
  have HE := Lib.hid he
  have HX := Lib.hid hE
  obtain ⟨k1, m1, _⟩ := h1
  have e1 : w.cell? ⟨g, 0, none⟩ = some (.int .i64 a) := m1.cell 0
  clear m1 h2 he hE
  go_enter Tryd.func48, Tryd.ntmps48
  go_wp2_with fail
  refine (assert_no a b c d g h _ H1.out H2.out HE.out HX.out).mono ?_
  rintro e w1 ⟨⟨t, v, rfl⟩, n, rfl⟩
  go_wp2_with fail
  go_ret2
  exact ⟨t, v, rfl, n, rfl⟩

set_option maxHeartbeats 400000 in
theorem less_yes (a b : Int) (c d : Cur) (g h : Nat) (w : World) (h1 : MoneyAt w g a c) (h2 : MoneyAt w h b d) (he : c.code = d.code) :
    Calls Tryd.prog 49 #[.pointer (some ⟨g, 0, none⟩), .pointer (some ⟨h, 0, none⟩)] w fun e w' => e = .returned (.tuple #[.bool (decide (a < b)), .nilIface]) ∧ ∃ n, w' = w.drewN n := by
  have H1 := Lib.hid h1
  have H2 := Lib.hid h2
  have HE := Lib.hid he
  have HR := Lib.hid (show (cmpI a b == -1) = (decide (a < b)) by unfold cmpI; split <;> (try split) <;> simp <;> omega)
  clear h1 h2 he
  go_enter Tryd.func49, Tryd.ntmps49
  go_wp2_with fail
  refine (assert_yes a b c d g h _ H1.out H2.out HE.out).mono ?_
  rintro e w1 ⟨rfl, n, rfl⟩
  go_wp2_with fail
  refine (compare_any a b c d g h _ (H1.out.drewN n) (H2.out.drewN n)).mono ?_
  rintro e w1 ⟨rfl, m, rfl⟩
  go_wp2_with fail
  go_ret2
  exact ⟨ret_bn HR.out, _, rfl⟩
set_option maxHeartbeats 400000 in
theorem less_no (a b : Int) (c d : Cur) (g h : Nat) (w : World) (h1 : MoneyAt w g a c) (h2 : MoneyAt w h b d) (he : c.code ≠ d.code) (hE : ErrAt w) :
    Calls Tryd.prog 49 #[.pointer (some ⟨g, 0, none⟩), .pointer (some ⟨h, 0, none⟩)] w fun e w' => ∃ t v, e = .returned (.tuple #[.bool false, .iface t v]) ∧ ∃ n, w' = w.drewN n := by
  have H1 := Lib.hid h1
  have H2 := Lib.hid h2
  have HE := Lib.hid he
  have HX := Lib.hid hE
  obtain ⟨k1, m1, _⟩ := h1
  have e1 : w.cell? ⟨g, 0, none⟩ = some (.int .i64 a) := m1.cell 0
  clear m1 h2 he hE
  go_enter Tryd.func49, Tryd.ntmps49
  go_wp2_with fail
  refine (assert_no a b c d g h _ H1.out H2.out HE.out HX.out).mono ?_
  rintro e w1 ⟨⟨t, v, rfl⟩, n, rfl⟩
  go_wp2_with fail
  go_ret2
  exact ⟨t, v, rfl, n, rfl⟩

set_option maxHeartbeats 400000 in
theorem lessEq_yes (a b : Int) (c d : Cur) (g h : Nat) (w : World) (h1 : MoneyAt w g a c) (h2 : MoneyAt w h b d) (he : c.code = d.code) :
    Calls Tryd.prog 50 #[.pointer (some ⟨g, 0, none⟩), .pointer (some ⟨h, 0, none⟩)] w fun e w' => e = .returned (.tuple #[.bool (decide (a ≤ b)), .nilIface]) ∧ ∃ n, w' = w.drewN n := by
  have H1 := Lib.hid h1
  have H2 := Lib.hid h2
  have HE := Lib.hid he
  have HR := Lib.hid (show (decide (cmpI a b ≤ 0)) = (decide (a ≤ b)) by unfold cmpI; split <;> (try split) <;> simp <;> omega)
  clear h1 h2 he
  go_enter Tryd.func50, Tryd.ntmps50
  go_wp2_with fail
  refine (assert_yes a b c d g h _ H1.out H2.out HE.out).mono ?_
  rintro e w1 ⟨rfl, n, rfl⟩
  go_wp2_with fail
  refine (compare_any a b c d g h _ (H1.out.drewN n) (H2.out.drewN n)).mono ?_
  rintro e w1 ⟨rfl, m, rfl⟩
  go_wp2_with fail
  go_ret2
  exact ⟨ret_bn HR.out, _, rfl⟩
set_option maxHeartbeats 400000 in
theorem lessEq_no (a b : Int) (c d : Cur) (g h : Nat) (w : World) (h1 : MoneyAt w g a c) (h2 : MoneyAt w h b d) (he : c.code ≠ d.code) (hE : ErrAt w) :
    Calls Tryd.prog 50 #[.pointer (some ⟨g, 0, none⟩), .pointer (some ⟨h, 0, none⟩)] w fun e w' => ∃ t v, e = .returned (.tuple #[.bool false, .iface t v]) ∧ ∃ n, w' = w.drewN n := by
  have H1 := Lib.hid h1
  have H2 := Lib.hid h2
  have HE := Lib.hid he
  have HX := Lib.hid hE
  obtain ⟨k1, m1, _⟩ := h1
  have e1 : w.cell? ⟨g, 0, none⟩ = some (.int .i64 a) := m1.cell 0
  clear m1 h2 he hE
  go_enter Tryd.func50, Tryd.ntmps50
  go_wp2_with fail
  refine (assert_no a b c d g h _ H1.out H2.out HE.out HX.out).mono ?_
  rintro e w1 ⟨⟨t, v, rfl⟩, n, rfl⟩
  go_wp2_with fail
  go_ret2
  exact ⟨t, v, rfl, n, rfl⟩
end Go.Proofs.YteanfkmchfhfpaaDoor
