/- Coins as arguments: whether they fit, the formatter of a coin. -/
import Derived.Test.YtfbdjffpnioinaaDoorSmall
namespace Go.Proofs.YtfbdjffpnioinaaDoor
open Go.RowKit

def fmtCells (f : Nat) (D T G M : ByteArray) : Array Value := #[.int .i64 f, .string D, .string T, .string G, .string M]
/-- No text is longer than the most that a statement speaks of. -/
def fits1B (c0 c1 c3 c4 c5 c6 : ByteArray) : Bool :=
  decide (c0.size ≤ 2147483647 ∧ c1.size ≤ 2147483647 ∧ c3.size ≤ 2147483647 ∧ c4.size ≤ 2147483647 ∧ c5.size ≤ 2147483647 ∧ c6.size ≤ 2147483647)
/-- At most 18 figures, texts of at most 20 bytes. -/
def fairB (f : Int) (c3 c4 c5 c6 : ByteArray) : Bool :=
  decide (0 ≤ f ∧ f ≤ 18 ∧ c3.size ≤ 20 ∧ c4.size ≤ 20 ∧ c5.size ≤ 20 ∧ c6.size ≤ 20)

set_option maxRecDepth 100000 in
set_option maxHeartbeats 1000000 in
theorem fits1_any (c0 c1 c3 c4 c5 c6 : ByteArray) (f : Int) (w : World) (h0 : c0.size ≤ maxLen) (h1 : c1.size ≤ maxLen) (h3 : c3.size ≤ maxLen) (h4 : c4.size ≤ maxLen) (h5 : c5.size ≤ maxLen) (h6 : c6.size ≤ maxLen) :
    Calls Tryd.prog 12 #[.agg #[.string c0, .string c1, .int .i64 f, .string c3, .string c4, .string c5, .string c6]] w fun e w' => e = .returned (.bool (fits1B c0 c1 c3 c4 c5 c6)) ∧ Below w.heap.size w w' := by
  unfold maxLen at *
  go_enter Tryd.func12, Tryd.ntmps12
  go_wp2
  all_goals
    go_ret
    refine ⟨ret_bool ?_, (Below.refl _ _).alloc (Nat.le_refl _) _⟩
    unfold fits1B
    first | exact (decide_eq_true (by omega)).symm | exact (decide_eq_false (by omega)).symm

set_option maxRecDepth 100000 in
set_option maxHeartbeats 1000000 in
theorem fair_any (c0 c1 c3 c4 c5 c6 : ByteArray) (f : Int) (w : World) (h3 : c3.size ≤ maxLen) (h4 : c4.size ≤ maxLen) (h5 : c5.size ≤ maxLen) (h6 : c6.size ≤ maxLen) :
    Calls Tryd.prog 13 #[.agg #[.string c0, .string c1, .int .i64 f, .string c3, .string c4, .string c5, .string c6]] w fun e w' => e = .returned (.bool (fairB f c3 c4 c5 c6)) ∧ Below w.heap.size w w' := by
  unfold maxLen at *
  go_enter Tryd.func13, Tryd.ntmps13
  go_wp2
  all_goals
    go_ret
    refine ⟨ret_bool ?_, (Below.refl _ _).alloc (Nat.le_refl _) _⟩
    unfold fairB
    first | exact (decide_eq_true (by omega)).symm | exact (decide_eq_false (by omega)).symm | (rw [decide_eq_decide]; omega)

set_option maxRecDepth 100000 in
set_option maxHeartbeats 1000000 in
theorem fits_yes (c0 c1 c3 c4 c5 c6 : ByteArray) (f : Nat) (w : World) (hf : f ≤ 18) (h3 : c3.size ≤ 100) (h4 : c4.size ≤ 100) (h5 : c5.size ≤ 100) (h6 : c6.size ≤ 100) :
    Calls Tryd.prog 27 #[.agg #[.string c0, .string c1, .int .i64 f, .string c3, .string c4, .string c5, .string c6]] w fun e w' => e = .returned (.bool true) ∧ Below w.heap.size w w' := by
  go_enter Tryd.func27, Tryd.ntmps27
  go_wp2_with (first
    | (go_at_call 18; refine (short_yes c3 _ h3).mono ?_; rintro e _ ⟨rfl, rfl⟩)
    | (go_at_call 18; refine (short_yes c4 _ h4).mono ?_; rintro e _ ⟨rfl, rfl⟩)
    | (go_at_call 18; refine (short_yes c5 _ h5).mono ?_; rintro e _ ⟨rfl, rfl⟩)
    | (go_at_call 18; refine (short_yes c6 _ h6).mono ?_; rintro e _ ⟨rfl, rfl⟩))
  go_ret
  exact ⟨rfl, (Below.refl _ _).alloc (Nat.le_refl _) _⟩

/-- A formatter in new memory. -/
def GotFmt (f : Nat) (D T G M : ByteArray) (w : World) (e : Ending) (w' : World) : Prop :=
  ∃ g, e = .returned (.pointer (some ⟨g, 0, none⟩)) ∧ Blk w' g 74 (fmtCells f D T G M) ∧ Below w.heap.size w w'

set_option maxHeartbeats 400000 in
theorem newFormatter_any (f : Nat) (D T G M : ByteArray) (w : World) :
    Calls Tryd.prog 37 #[.int .i64 f, .string D, .string T, .string G, .string M] w (GotFmt f D T G M w) := by
  go_enter Tryd.func37, Tryd.ntmps37
  go_wp2
  go_ret
  exact ⟨_, rfl, Blk.new _ _ _, (Below.refl _ _).alloc (Nat.le_refl _) _⟩

set_option maxRecDepth 100000 in
set_option maxHeartbeats 1000000 in
theorem formatter_any (c0 c1 c3 c4 c5 c6 : ByteArray) (f : Nat) (w : World) :
    Calls Tryd.prog 28 #[.agg #[.string c0, .string c1, .int .i64 f, .string c3, .string c4, .string c5, .string c6]] w (GotFmt f c5 c6 c3 c4 w) := by
  go_enter Tryd.func28, Tryd.ntmps28
  go_wp2_with fail
  refine (newFormatter_any f c5 c6 c3 c4 _).mono ?_
  rintro e w1 ⟨g, rfl, hg, hb⟩
  have HG := Lib.hid hg
  have HB := Lib.hid (((Below.refl w.heap.size w).alloc (Nat.le_refl _) _).trans (hb.mono (by simp)))
  clear hg hb
  go_wp2_with fail
  go_ret
  exact ⟨g, rfl, HG.out, HB.out⟩

end Go.Proofs.YtfbdjffpnioinaaDoor
