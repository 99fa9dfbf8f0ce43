/- Coins as arguments: whether they fit, the formatter of a coin, impl.Format. -/
import Derived.Test.YteejhpoddpcahaaDoorFmt
import Derived.Test.YteejhpoddpcahaaDoorSmall
namespace Go.Proofs.YteejhpoddpcahaaDoor
open Go.RowKit

/-- No text is longer than the most that a statement speaks of. -/
def fits1B (c0 c1 c3 c4 c5 c6 : ByteArray) : Bool :=
  decide (c0.size ≤ 2147483647 ∧ c1.size ≤ 2147483647 ∧ c3.size ≤ 2147483647 ∧ c4.size ≤ 2147483647 ∧ c5.size ≤ 2147483647 ∧ c6.size ≤ 2147483647)
/-- At most 18 figures, texts of at most 20 bytes. -/
def fairB (f : Int) (c3 c4 c5 c6 : ByteArray) : Bool :=
  decide (0 ≤ f ∧ f ≤ 18 ∧ c3.size ≤ 20 ∧ c4.size ≤ 20 ∧ c5.size ≤ 20 ∧ c6.size ≤ 20)

set_option maxRecDepth 100000 in
set_option maxHeartbeats 1000000 in
theorem fits1_any (c0 c1 c3 c4 c5 c6 : ByteArray) (f : Int) (w : World) (h0 : c0.size ≤ maxLen) (h1 : c1.size ≤ maxLen) (h3 : c3.size ≤ maxLen) (h4 : c4.size ≤ maxLen) (h5 : c5.size ≤ maxLen) (h6 : c6.size ≤ maxLen) :
    Calls Tryd.prog 11 #[.agg #[.string c0, .string c1, .int .i64 f, .string c3, .string c4, .string c5, .string c6]] w fun e w' => e = .returned (.bool (fits1B c0 c1 c3 c4 c5 c6)) ∧ Below w.heap.size w w' := by
  unfold maxLen at *
  go_enter Tryd.func11, Tryd.ntmps11
  go_wp2
  all_goals
    go_ret
    refine ⟨ret_bool ?_, (Below.refl _ _).alloc (Nat.le_refl _) _⟩
    unfold fits1B
    first | exact (decide_eq_true (by omega)).symm | exact (decide_eq_false (by omega)).symm

set_option maxRecDepth 100000 in
set_option maxHeartbeats 1000000 in
theorem fair_any (c0 c1 c3 c4 c5 c6 : ByteArray) (f : Int) (w : World) (h3 : c3.size ≤ maxLen) (h4 : c4.size ≤ maxLen) (h5 : c5.size ≤ maxLen) (h6 : c6.size ≤ maxLen) :
    Calls Tryd.prog 12 #[.agg #[.string c0, .string c1, .int .i64 f, .string c3, .string c4, .string c5, .string c6]] w fun e w' => e = .returned (.bool (fairB f c3 c4 c5 c6)) ∧ Below w.heap.size w w' := by
  unfold maxLen at *
  go_enter Tryd.func12, Tryd.ntmps12
  go_wp2
  all_goals
    go_ret
    refine ⟨ret_bool ?_, (Below.refl _ _).alloc (Nat.le_refl _) _⟩
    unfold fairB
    first | exact (decide_eq_true (by omega)).symm | exact (decide_eq_false (by omega)).symm | (rw [decide_eq_decide]; omega)

set_option maxRecDepth 100000 in
set_option maxHeartbeats 1000000 in
theorem fits_yes (c0 c1 c3 c4 c5 c6 : ByteArray) (f : Nat) (w : World) (hf : f ≤ 18) (h3 : c3.size ≤ 100) (h4 : c4.size ≤ 100) (h5 : c5.size ≤ 100) (h6 : c6.size ≤ 100) :
    Calls Tryd.prog 29 #[.agg #[.string c0, .string c1, .int .i64 f, .string c3, .string c4, .string c5, .string c6]] w fun e w' => e = .returned (.bool true) ∧ Below w.heap.size w w' := by
  go_enter Tryd.func29, Tryd.ntmps29
  go_wp2_with (first
    | (go_at_call 35; refine (short_yes c3 _ h3).mono ?_; rintro e _ ⟨rfl, rfl⟩)
    | (go_at_call 35; refine (short_yes c4 _ h4).mono ?_; rintro e _ ⟨rfl, rfl⟩)
    | (go_at_call 35; refine (short_yes c5 _ h5).mono ?_; rintro e _ ⟨rfl, rfl⟩)
    | (go_at_call 35; refine (short_yes c6 _ h6).mono ?_; rintro e _ ⟨rfl, rfl⟩))
  go_ret
  exact ⟨rfl, (Below.refl _ _).alloc (Nat.le_refl _) _⟩

/-- A formatter in new memory. -/
def GotFmt (f : Nat) (D T G M : ByteArray) (w : World) (e : Ending) (w' : World) : Prop :=
  ∃ g, e = .returned (.pointer (some ⟨g, 0, none⟩)) ∧ Blk w' g 79 (fmtCells f D T G M) ∧ Below w.heap.size w w'

set_option maxHeartbeats 400000 in
theorem newFormatter_any (f : Nat) (D T G M : ByteArray) (w : World) :
    Calls Tryd.prog 44 #[.int .i64 f, .string D, .string T, .string G, .string M] w (GotFmt f D T G M w) := by
  go_enter Tryd.func44, Tryd.ntmps44
  go_wp2
  go_ret
  exact ⟨_, rfl, Blk.new _ _ _, (Below.refl _ _).alloc (Nat.le_refl _) _⟩

set_option maxRecDepth 100000 in
set_option maxHeartbeats 1000000 in
theorem formatter_any (c0 c1 c3 c4 c5 c6 : ByteArray) (f : Nat) (w : World) :
    Calls Tryd.prog 30 #[.agg #[.string c0, .string c1, .int .i64 f, .string c3, .string c4, .string c5, .string c6]] w (GotFmt f c5 c6 c3 c4 w) := by
  go_enter Tryd.func30, Tryd.ntmps30
  go_wp2_with fail
  refine (newFormatter_any f c5 c6 c3 c4 _).mono ?_
  rintro e w1 ⟨g, rfl, hg, hb⟩
  have HG := Lib.hid hg
  have HB := Lib.hid (((Below.refl w.heap.size w).alloc (Nat.le_refl _) _).trans (hb.mono (by simp)))
  clear hg hb
  go_wp2_with fail
  go_ret
  exact ⟨g, rfl, HG.out, HB.out⟩

set_option maxRecDepth 100000 in
set_option maxHeartbeats 1000000 in
theorem implFormat_yes (c0 c1 c3 c4 c5 c6 : ByteArray) (f : Nat) (a : Int) (w : World) (hf : f ≤ 18) (h3 : c3.size ≤ 20) (h4 : c4.size ≤ 20) (h5 : c5.size ≤ 20) (h6 : c6.size ≤ 20) (h0 : -9223372036854775807 ≤ a) (h1 : a ≤ 9223372036854775807) (hT : TabAt w) :
    Calls Tryd.prog 13 #[.agg #[.string c0, .string c1, .int .i64 f, .string c3, .string c4, .string c5, .string c6], .int .i64 a] w fun e w' => e = .returned (.string (ofL (fmtL f c5.data.toList c6.data.toList c3.data.toList c4.data.toList a))) ∧ Below w.heap.size w w' := by
  have HT := Lib.hid hT
  clear hT
  go_enter Tryd.func13, Tryd.ntmps13
  go_wp2_with fail
  have hblk := Blk.new w 23 #[.string c0, .string c1, .int .i64 f, .string c3, .string c4, .string c5, .string c6]
  have hB0 := (Below.refl w.heap.size w).alloc (Nat.le_refl _) (.cells #[.string c0, .string c1, .int .i64 f, .string c3, .string c4, .string c5, .string c6] 23)
  have hz : w.heap.size < (w.alloc (.cells #[.string c0, .string c1, .int .i64 f, .string c3, .string c4, .string c5, .string c6] 23)).heap.size := by simp
  generalize w.alloc _ = w1 at *
  have HB1 := Lib.hid hB0
  have HBK := Lib.hid hblk
  clear hB0 hblk
  refine (fits_yes c0 c1 c3 c4 c5 c6 f _ hf (by omega) (by omega) (by omega) (by omega)).mono ?_
  rintro e w2 ⟨rfl, hb2⟩
  have HB2 := Lib.hid (HB1.out.trans (hb2.mono HB1.out.size))
  have HBK2 := Lib.hid (HBK.out.below hb2 hz)
  have e0 := HBK2.out.cell 0
  have e1 := HBK2.out.cell 1
  have e2 := HBK2.out.cell 2
  have e3 := HBK2.out.cell 3
  have e4 := HBK2.out.cell 4
  have e5 := HBK2.out.cell 5
  have e6 := HBK2.out.cell 6
  simp only [List.getElem?_toArray, List.getElem?_cons_zero, List.getElem?_cons_succ] at e0 e1 e2 e3 e4 e5 e6
  clear hb2 HB1 HBK hz
  go_wp2_with fail
  refine (formatter_any c0 c1 c3 c4 c5 c6 f _).mono ?_
  rintro e w3 ⟨g, rfl, hg, hb3⟩
  have HB3 := Lib.hid (HB2.out.trans (hb3.mono HB2.out.size))
  have HG := Lib.hid hg
  clear hg hb3 HB2 HBK2 e0 e1 e2 e3 e4 e5 e6
  go_wp2_with fail
  refine (format_any f c5 c6 c3 c4 a g _ HG.out hf (by omega) (by omega) (by omega) (by omega) h0 h1 (HT.out.below HB3.out)).mono ?_
  rintro e w4 ⟨rfl, hb4⟩
  have HB4 := Lib.hid (HB3.out.trans (hb4.mono HB3.out.size))
  clear hb4 HB3 HG
  go_wp2_with fail
  go_ret
  exact ⟨rfl, HB4.out⟩
end Go.Proofs.YteejhpoddpcahaaDoor
