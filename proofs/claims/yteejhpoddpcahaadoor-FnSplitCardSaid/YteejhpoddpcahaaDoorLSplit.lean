/- FnSplit, walked. -/
import Derived.Test.YteejhpoddpcahaaDoorListed
namespace Go.Proofs.YteejhpoddpcahaaDoor
open Go.RowKit

set_option maxRecDepth 100000 in
set_option maxHeartbeats 4000000 in
theorem fnSplit_yes (s : ByteArray) (a : Int) (n : Nat) (w : World) (hp : plainB s = true) (hn : 0 < n) (hn1 : n ≤ 60) (h0 : -9223372036854775807 ≤ a) (h1 : a ≤ 9223372036854775807) (hE : ErrAt w) :
    Calls Tryd.prog 5 #[.string s, .int .i64 a, .int .i64 n] w fun e w' => e = .returned (.bool true) ∧ Below w.heap.size w w' := by
  have hs := plainB_size hp
  have HP := Lib.hid hp
  have HE := Lib.hid hE
  have hne : (a == -9223372036854775808) = false := by rw [beq_eq_false_iff_ne]; omega
  clear hp hE
  go_enter Tryd.func5, Tryd.ntmps5
  go_wp2_with fail
  refine (plain_any s _ (by unfold maxLen; omega)).mono ?_
  rintro e _ ⟨rfl, rfl⟩
  rw [HP.out]
  go_wp2_with fail
  clear hne
  refine (implSplit_yes s a n _ (by omega) (plainB_asc HP.out) hn (by omega) h0 h1).mono ?_
  rintro e w1 ⟨A, B, c, d, rfl, hc1, hc2, hb1⟩
  have HC1 := Lib.hid hc1
  have HC2 := Lib.hid hc2
  have HB1 := Lib.hid hb1
  clear hc1 hc2 hb1
  go_wp2_with fail
  refine (specSplit_any a n _ hn (by omega) h0 h1).mono ?_
  rintro e w2 ⟨v, rfl, ho, hb2⟩
  obtain ⟨D, f, rfl, hc3⟩ := own_slice ho
  have HB2 := Lib.hid (HB1.out.trans (hb2.mono HB1.out.size))
  have HC1b := Lib.hid (HC1.out.below hb2)
  have HC2b := Lib.hid (HC2.out.below hb2)
  have HC3 := Lib.hid hc3
  clear HC1 HC2 hc3 ho hb2 HB1
  go_wp2_with fail
  refine (listed_yes A B D c d f n _ s _ _ HC1b.out HC2b.out HC3.out (intsF_length _ _) (by omega) (by omega) rfl).mono ?_
  rintro e w3 ⟨rfl, hb3⟩
  have HB3 := Lib.hid (HB2.out.trans (hb3.mono HB2.out.size))
  clear hb3
  go_wp2_with fail
  refine (alive_any _ (HE.out.below HB3.out)).mono ?_
  rintro e w4 ⟨rfl, hb4⟩
  have HB4 := Lib.hid (HB3.out.trans (hb4.mono HB3.out.size))
  clear hb4
  go_wp2_with fail
  go_ret
  exact ⟨rfl, HB4.out⟩

set_option maxRecDepth 100000 in
set_option maxHeartbeats 4000000 in
theorem fnSplit_bad (s : ByteArray) (a n : Int) (w : World) (hp : plainB s = true) (hn : n ≤ 0) (hn1 : -9223372036854775808 ≤ n) (h0 : -9223372036854775807 ≤ a) (hE : ErrAt w) :
    Calls Tryd.prog 5 #[.string s, .int .i64 a, .int .i64 n] w fun e w' => e = .returned (.bool true) ∧ Below w.heap.size w w' := by
  have hs := plainB_size hp
  have HP := Lib.hid hp
  have HE := Lib.hid hE
  have hne : (a == -9223372036854775808) = false := by rw [beq_eq_false_iff_ne]; omega
  clear hp hE
  go_enter Tryd.func5, Tryd.ntmps5
  go_wp2_with fail
  refine (plain_any s _ (by unfold maxLen; omega)).mono ?_
  rintro e _ ⟨rfl, rfl⟩
  rw [HP.out]
  go_wp2_with fail
  clear hne
  refine (implSplit_bad s a n _ (by omega) (plainB_asc HP.out) hn).mono ?_
  rintro e w1 ⟨rfl, hb1⟩
  have HB1 := Lib.hid hb1
  clear hb1
  go_wp2_with fail
  refine (alive_any _ (HE.out.below HB1.out)).mono ?_
  rintro e w4 ⟨rfl, hb4⟩
  have HB4 := Lib.hid (HB1.out.trans (hb4.mono HB1.out.size))
  clear hb4
  go_wp2_with fail
  go_ret
  exact ⟨rfl, HB4.out⟩

set_option maxRecDepth 100000 in
set_option maxHeartbeats 1000000 in
theorem fnSplit_law (s : ByteArray) (a n : Int) (w : World) (hs : s.size ≤ maxLen) (h0 : -9223372036854775808 ≤ a) (h1 : a ≤ 9223372036854775807) (hn0 : -9223372036854775808 ≤ n) (hn1 : n ≤ 9223372036854775807) (hE : ErrAt w) :
    Calls Tryd.prog 5 #[.string s, .int .i64 a, .int .i64 n] w fun e w' => e = .returned (.bool true) ∧ Below w.heap.size w w' := by
  have hs' : s.size ≤ 9223372036854775807 := by unfold maxLen at hs; omega
  have HS := Lib.hid hs
  clear hs
  by_cases hbig : 2147483647 < s.size
  · clear hE
    go_enter Tryd.func5, Tryd.ntmps5
    go_wp2_with fail
    go_ret
    exact ⟨rfl, Below.refl _ _⟩
  · cases hp : plainB s with
    | false =>
      have HP := Lib.hid hp
      clear hp hE
      go_enter Tryd.func5, Tryd.ntmps5
      go_wp2_with fail
      refine (plain_any s _ HS.out).mono ?_
      rintro e _ ⟨rfl, rfl⟩
      rw [HP.out]
      go_wp2_with fail
      go_ret
      exact ⟨rfl, Below.refl _ _⟩
    | true =>
      by_cases h60 : 60 < n
      · have HP := Lib.hid hp
        clear hp hE
        go_enter Tryd.func5, Tryd.ntmps5
        go_wp2_with fail
        refine (plain_any s _ HS.out).mono ?_
        rintro e _ ⟨rfl, rfl⟩
        rw [HP.out]
        go_wp2_with fail
        go_ret
        exact ⟨rfl, Below.refl _ _⟩
      · by_cases hm : a = -9223372036854775808
        · have HP := Lib.hid hp
          subst hm
          clear hp hE
          go_enter Tryd.func5, Tryd.ntmps5
          go_wp2_with fail
          refine (plain_any s _ HS.out).mono ?_
          rintro e _ ⟨rfl, rfl⟩
          rw [HP.out]
          go_wp2_with fail
          go_ret
          exact ⟨rfl, Below.refl _ _⟩
        · by_cases hpos : 0 < n
          · obtain ⟨k, rfl⟩ : ∃ k : Nat, n = k := ⟨n.toNat, by omega⟩
            exact fnSplit_yes s a k w hp (by omega) (by omega) (by omega) h1 hE
          · exact fnSplit_bad s a n w hp (by omega) hn0 (by omega) hE
end Go.Proofs.YteejhpoddpcahaaDoor
