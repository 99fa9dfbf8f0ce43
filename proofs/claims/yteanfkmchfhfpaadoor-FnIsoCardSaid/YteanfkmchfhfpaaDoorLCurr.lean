/- FnCurrency, walked. -/
import Derived.Test.YteanfkmchfhfpaaDoorKnown
namespace Go.Proofs.YteanfkmchfhfpaaDoor
open Go.RowKit

theorem implCurrency_someV (s : ByteArray) (c : Cur) (w : World) (hs : s.size ≤ 100) (ha : ascB s = true) (hc : curOf (upB s) = some c) :
    Calls Tryd.prog 14 #[.string s] w fun e w' => e = .returned (.tuple #[.agg #[.string (upB s), .string c.num, .int .i64 c.frac, .string c.graph, .string c.tmpl, .string c.dec, .string c.thou], .bool true]) ∧ Below w.heap.size w w' :=
  (implCurrency_some s c w hs ha hc).mono fun e w' ⟨he, hb⟩ => ⟨by rw [he, Cur.val, Cur.cells, curOf_code hc], hb⟩

set_option maxRecDepth 100000 in
set_option maxHeartbeats 2000000 in
theorem fnCurrency_some (s : ByteArray) (c : Cur) (w : World) (hp : plainB s = true) (hc : curOf (upB s) = some c) (hE : ErrAt w) :
    Calls Tryd.prog 7 #[.string s] w fun e w' => e = .returned (.bool true) ∧ Below w.heap.size w w' := by
  have hs := plainB_size hp
  have HA := Lib.hid (plainB_asc hp)
  have HP := Lib.hid hp
  have HC := Lib.hid hc
  have HE := Lib.hid hE
  have HK := Lib.hid (show knownB (upB s) = true by rw [known_cur, hc]; rfl)
  clear hp hc hE
  go_enter Tryd.func7, Tryd.ntmps7
  go_wp2_with fail
  refine (plain_any s _ (by unfold maxLen; omega)).mono ?_
  rintro e _ ⟨rfl, rfl⟩
  rw [HP.out]
  go_wp2_with fail
  refine (upper_any s _ (by omega)).mono ?_
  rintro e w1 ⟨rfl, hb1⟩
  have HB1 := Lib.hid hb1
  clear hb1
  go_wp2_with fail
  refine (implCurrency_someV s c _ (by omega) HA.out HC.out).mono ?_
  rintro e w2 ⟨rfl, hb2⟩
  have HB2 := Lib.hid (HB1.out.trans (hb2.mono HB1.out.size))
  clear hb2
  go_wp2_with fail
  have HF := Lib.hid (Blk.new w2 26 #[.string (upB s), .string c.num, .int .i64 c.frac, .string c.graph, .string c.tmpl, .string c.dec, .string c.thou])
  have HB := Lib.hid (HB2.out.alloc HB2.out.size (.cells #[.string (upB s), .string c.num, .int .i64 c.frac, .string c.graph, .string c.tmpl, .string c.dec, .string c.thou] 26))
  have hlt := HF.out.lt
  generalize w2.alloc _ = w3 at *
  refine (known_any (upB s) _).mono ?_
  rintro e w4 ⟨rfl, hb4⟩
  have e0 : w4.cell? ⟨w2.heap.size, 0, none⟩ = some (.string (upB s)) := (HF.out.below hb4 hlt).cell 0
  have HB4 := Lib.hid (HB.out.trans (hb4.mono HB.out.size))
  rw [HK.out]
  clear HF HB hlt hb4
  go_wp2_with fail
  refine (alive_any _ (HE.out.below HB4.out)).mono ?_
  rintro e w5 ⟨rfl, hb5⟩
  have HB5 := Lib.hid (HB4.out.trans (hb5.mono HB4.out.size))
  clear hb5
  go_wp2_with fail
  go_ret
  exact ⟨rfl, HB5.out⟩

set_option maxRecDepth 100000 in
set_option maxHeartbeats 2000000 in
theorem fnCurrency_none (s : ByteArray) (w : World) (hp : plainB s = true) (hc : curOf (upB s) = none) (hE : ErrAt w) :
    Calls Tryd.prog 7 #[.string s] w fun e w' => e = .returned (.bool true) ∧ Below w.heap.size w w' := by
  have hs := plainB_size hp
  have HA := Lib.hid (plainB_asc hp)
  have HP := Lib.hid hp
  have HC := Lib.hid hc
  have HE := Lib.hid hE
  have HK := Lib.hid (show knownB (upB s) = false by rw [known_cur, hc]; rfl)
  clear hp hc hE
  go_enter Tryd.func7, Tryd.ntmps7
  go_wp2_with fail
  refine (plain_any s _ (by unfold maxLen; omega)).mono ?_
  rintro e _ ⟨rfl, rfl⟩
  rw [HP.out]
  go_wp2_with fail
  refine (upper_any s _ (by omega)).mono ?_
  rintro e w1 ⟨rfl, hb1⟩
  have HB1 := Lib.hid hb1
  clear hb1
  go_wp2_with fail
  refine (implCurrency_none s _ (by omega) HA.out HC.out).mono ?_
  rintro e w2 ⟨he, hb2⟩
  unfold noCur Cur.val Cur.cells at he
  subst he
  have HB2 := Lib.hid (HB1.out.trans (hb2.mono HB1.out.size))
  clear hb2
  go_wp2_with fail
  have HB := Lib.hid (HB2.out.alloc HB2.out.size (.cells #[.string ⟨#[]⟩, .string ⟨#[]⟩, .int .i64 0, .string ⟨#[]⟩, .string ⟨#[]⟩, .string ⟨#[]⟩, .string ⟨#[]⟩] 26))
  generalize w2.alloc _ = w3 at *
  refine (known_any (upB s) _).mono ?_
  rintro e w4 ⟨rfl, hb4⟩
  have HB4 := Lib.hid (HB.out.trans (hb4.mono HB.out.size))
  rw [HK.out]
  clear HB hb4
  go_wp2_with fail
  refine (alive_any _ (HE.out.below HB4.out)).mono ?_
  rintro e w5 ⟨rfl, hb5⟩
  have HB5 := Lib.hid (HB4.out.trans (hb5.mono HB4.out.size))
  clear hb5
  go_wp2_with fail
  go_ret
  exact ⟨rfl, HB5.out⟩

set_option maxRecDepth 100000 in
set_option maxHeartbeats 1000000 in
theorem fnCurrency_out (s : ByteArray) (w : World) (hs : s.size ≤ maxLen) (hp : plainB s = false) :
    Calls Tryd.prog 7 #[.string s] w fun e w' => e = .returned (.bool true) ∧ Below w.heap.size w w' := by
  have HP := Lib.hid hp
  have HS := Lib.hid hs
  unfold maxLen at hs
  clear hp
  by_cases hbig : 2147483647 < s.size
  · go_enter Tryd.func7, Tryd.ntmps7
    go_wp2_with fail
    go_ret
    exact ⟨rfl, Below.refl _ _⟩
  · go_enter Tryd.func7, Tryd.ntmps7
    go_wp2_with fail
    refine (plain_any s _ HS.out).mono ?_
    rintro e _ ⟨rfl, rfl⟩
    rw [HP.out]
    go_wp2_with fail
    go_ret
    exact ⟨rfl, Below.refl _ _⟩

theorem fnCurrency_law (s : ByteArray) (w : World) (hs : s.size ≤ maxLen) (hE : ErrAt w) :
    Calls Tryd.prog 7 #[.string s] w fun e w' => e = .returned (.bool true) ∧ Below w.heap.size w w' := by
  cases hp : plainB s with
  | false => exact fnCurrency_out s w hs hp
  | true =>
    cases hc : curOf (upB s) with
    | none => exact fnCurrency_none s w hp hc hE
    | some c => exact fnCurrency_some s c w hp hc hE
end Go.Proofs.YteanfkmchfhfpaaDoor
