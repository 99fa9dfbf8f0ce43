/- Amounts: newCurrency, getDefault, get, New: a new amount of a code has the currency of its code in capital letters, or the default one. (Codes of ASCII.) -/
import Derived.Test.YtfbdjffpnioinaaDoorUp
import Derived.Test.YtfbdjffpnioinaaDoorShelf
import Derived.Deep.QuietTactic
import Derived.BigQuiet
namespace Go.Proofs.YtfbdjffpnioinaaDoor
open Go.RowKit

theorem toUpper_any (s : ByteArray) (w : World) (hs : s.size ≤ 1000) (ha : ascB s = true) :
    Calls Tryd.prog 39 #[.string s] w fun e w' => e = .returned (.string (upB s)) ∧ Below w.heap.size w w' :=
  Tryd.strings_ToUpper_ascii s w (by omega) (fun j b h => ascB_get ha j b h)

/-- The currency of a code that the table lacks. -/
def defCur (u : ByteArray) : Cur := ⟨u, ⟨#[]⟩, 2, u, ⟨#[49, 36]⟩, ⟨#[46]⟩, ⟨#[44]⟩⟩
/-- The currency that an amount of the code u (in capital letters) has. -/
def curFor (u : ByteArray) : Cur := (curOf u).getD (defCur u)

def bareCur (u : ByteArray) : Cur := ⟨u, ⟨#[]⟩, 0, ⟨#[]⟩, ⟨#[]⟩, ⟨#[]⟩, ⟨#[]⟩⟩

set_option maxHeartbeats 400000 in
theorem newCurrency_any (s : ByteArray) (w : World) (hs : s.size ≤ 1000) (ha : ascB s = true) :
    Calls Tryd.prog 32 #[.string s] w fun e w' => ∃ w1, e = .returned (.pointer (some ⟨w1.heap.size, 0, none⟩)) ∧ w' = w1.alloc (.cells (bareCur (upB s)).cells 42) ∧ Below w.heap.size w w1 := by
  go_enter Tryd.func32, Tryd.ntmps32
  go_wp2_with fail
  refine (toUpper_any s _ hs ha).mono ?_
  rintro e w1 ⟨rfl, hb⟩
  go_wp2
  go_ret
  exact ⟨w1, rfl, rfl, hb⟩

set_option maxHeartbeats 400000 in
theorem getDefault_any (c : Cur) (g : Nat) (w : World) (h : Blk w g 42 c.cells) :
    Calls Tryd.prog 41 #[.pointer (some ⟨g, 0, none⟩)] w fun e w' => ∃ n, e = .returned (.pointer (some ⟨w.heap.size, 0, none⟩)) ∧ w' = (w.alloc (.cells (defCur c.code).cells 42)).drewN n := by
  have h0 : w.cell? ⟨g, 0, none⟩ = some (.string c.code) := h.cell 0
  clear h
  go_enter Tryd.func41, Tryd.ntmps41
  go_wp2
  go_region
  go_wp2
  go_ret
  exact ⟨1, rfl, rfl⟩

/-- A currency in new memory. -/
def GotCur (c : Cur) (w : World) (e : Ending) (w' : World) : Prop := ∃ gc, e = .returned (.pointer (some ⟨gc, 0, none⟩)) ∧ Blk w' gc 42 c.cells ∧ w.heap.size ≤ gc ∧ Below w.heap.size w w'

set_option maxHeartbeats 400000 in
theorem get_any (c : Cur) (g : Nat) (w : World) (h : Blk w g 42 c.cells) :
    Calls Tryd.prog 33 #[.pointer (some ⟨g, 0, none⟩)] w (GotCur (curFor c.code) w) := by
  have h0 : w.cell? ⟨g, 0, none⟩ = some (.string c.code) := h.cell 0
  cases hc : curOf c.code with
  | none =>
    have hD := Lib.hid (show curFor c.code = defCur c.code by simp [curFor, hc])
    have HN := Lib.hid hc
    have HB := Lib.hid h
    clear hc h
    go_enter Tryd.func33, Tryd.ntmps33
    go_wp2_with fail
    refine (currencyOf_none c.code _ HN.out).mono ?_
    rintro e w1 ⟨rfl, rfl⟩
    go_wp2_with fail
    refine (getDefault_any c g _ HB.out).mono ?_
    rintro e w1 ⟨n, rfl, rfl⟩
    go_wp2_with fail
    go_ret
    refine ⟨_, rfl, ?_, Nat.le_refl _, below_drewN ((Below.refl _ _).alloc (Nat.le_refl _) _) n⟩
    rw [hD.out]
    exact (Blk.new _ _ _).drewN n
  | some d =>
    have hD := Lib.hid (show curFor c.code = d by simp [curFor, hc])
    have HN := Lib.hid hc
    clear hc h
    go_enter Tryd.func33, Tryd.ntmps33
    go_wp2_with fail
    refine (currencyOf_some c.code d _ HN.out).mono ?_
    rintro e w1 ⟨rfl, rfl⟩
    go_wp2_with fail
    go_ret
    refine ⟨w.heap.size, rfl, ?_, Nat.le_refl _, (Below.refl _ _).alloc (Nat.le_refl _) _⟩
    rw [hD.out]
    exact Blk.new _ _ _

/-- Block g is an amount of a currency. -/
def MoneyAt (w : World) (g : Nat) (a : Int) (c : Cur) : Prop := ∃ gc, Blk w g 64 #[.int .i64 a, .pointer (some ⟨gc, 0, none⟩)] ∧ Blk w gc 42 c.cells
theorem MoneyAt.lt {w : World} {g : Nat} {a : Int} {c : Cur} (h : MoneyAt w g a c) : g < w.heap.size := by obtain ⟨gc, h1, h2⟩ := h; exact h1.lt
theorem MoneyAt.below {w w' : World} {g : Nat} {a : Int} {c : Cur} (h : MoneyAt w g a c) (hb : Below w.heap.size w w') : MoneyAt w' g a c := by
  obtain ⟨gc, h1, h2⟩ := h
  exact ⟨gc, h1.below hb h1.lt, h2.below hb h2.lt⟩
theorem MoneyAt.drewN {w : World} {g : Nat} {a : Int} {c : Cur} (h : MoneyAt w g a c) (n : Nat) : MoneyAt (w.drewN n) g a c := h
/-- An amount in new memory. -/
def GotMoney (a : Int) (c : Cur) (w : World) (e : Ending) (w' : World) : Prop := ∃ g, e = .returned (.pointer (some ⟨g, 0, none⟩)) ∧ MoneyAt w' g a c ∧ w.heap.size ≤ g ∧ Below w.heap.size w w'

set_option maxHeartbeats 400000 in
theorem new_any (a : Int) (s : ByteArray) (w : World) (hs : s.size ≤ 1000) (ha : ascB s = true) :
    Calls Tryd.prog 21 #[.int .i64 a, .string s] w (GotMoney a (curFor (upB s)) w) := by
  go_enter Tryd.func21, Tryd.ntmps21
  go_wp2_with fail
  refine (newCurrency_any s _ hs ha).mono ?_
  rintro e w' ⟨w1, rfl, rfl, hb1⟩
  have HB1 := Lib.hid hb1
  clear hb1
  go_wp2_with fail
  refine (get_any (bareCur (upB s)) _ _ (Blk.new _ _ _)).mono ?_
  rintro e w2 ⟨gc, rfl, hc, hg, hb2⟩
  have HC := Lib.hid hc
  have HB2 := Lib.hid hb2
  clear hc hb2
  go_wp2
  go_ret
  have hB : Below w.heap.size w w2 := (HB1.out.alloc HB1.out.size _).trans (HB2.out.mono (by have := HB1.out.size; simp; omega))
  refine ⟨w2.heap.size, rfl, ⟨gc, Blk.new _ _ _, HC.out.alloc _⟩, hB.size, hB.alloc hB.size _⟩
end Go.Proofs.YtfbdjffpnioinaaDoor
