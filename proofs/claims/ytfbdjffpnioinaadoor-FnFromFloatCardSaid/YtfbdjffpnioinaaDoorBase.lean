/- Small contracts: short, Ascii, plain: what each returns, at every text; it leaves the world as it was. -/
import Derived.Test.YtfbdjffpnioinaaDoorCur
import Derived.Test.YtfbdjffpnioinaaDoorMem
import Derived.Lib.Case
import Derived.Lib.Hide
import Derived.PlainAid
import Derived.WalkLawsBesides
namespace Go.Proofs.YtfbdjffpnioinaaDoor
open Go.RowKit

/-- All bytes of a text are ASCII. -/
def ascB (s : ByteArray) : Bool := s.data.toList.all fun b => decide (b.toNat ≤ 127)
/-- A text in capital letters. -/
def upB (s : ByteArray) : ByteArray := ⟨(Lib.toUpperA s.data.toList).toArray⟩

theorem ascB_get {s : ByteArray} (h : ascB s = true) (j : Nat) (b : UInt8) (hb : s.data.toList[j]? = some b) : b.toNat < 128 := by
  unfold ascB at h
  have := List.all_eq_true.1 h b (List.mem_of_getElem? hb)
  have := of_decide_eq_true this
  omega

theorem short_any (s : ByteArray) (w : World) : Calls Tryd.prog 18 #[.string s] w fun e w' => e = .returned (.bool (decide (s.size ≤ 100))) ∧ w = w' := by
  go_enter Tryd.func18, Tryd.ntmps18
  go_wp2
  go_ret
  exact ⟨ret_bool (by rw [decide_eq_decide]; omega), rfl⟩

theorem asc_no (s : ByteArray) (k : Nat) (h : k < s.size) (hk : 127 < (s[k].toNat : Int)) : ascB s = false := by
  cases e : ascB s with
  | false => rfl
  | true => have := ascB_get e k s[k] (get_data s k h); omega
def ascTo (s : ByteArray) (k : Nat) : Bool := (s.data.toList.take k).all fun b => decide (b.toNat ≤ 127)
theorem ascTo_succ (s : ByteArray) (k : Nat) (h : k < s.size) (ht : ascTo s k = true) (hk : (s[k].toNat : Int) ≤ 127) : ascTo s (k + 1) = true := by
  unfold ascTo at *
  rw [take_snoc s k h, List.all_append, ht]
  simp; omega
theorem ascTo_size (s : ByteArray) (k : Nat) (hk : s.size ≤ k) (ht : ascTo s k = true) : ascB s = true := by
  unfold ascTo at ht
  rw [List.take_of_length_le (by simpa using hk)] at ht
  exact ht

set_option maxHeartbeats 400000 in
theorem ascii_any (s : ByteArray) (w : World) (hs : s.size ≤ maxLen) :
    Calls Tryd.prog 17 #[.string s] w fun e w' => e = .returned (.bool (ascB s)) ∧ w = w' := by
  unfold maxLen at hs
  go_enter Tryd.func17, Tryd.ntmps17
  go_wp2
  go_loop [6] (fun i => ∃ k : Nat, k ≤ s.size ∧ i = .int .i64 k ∧ Hid (ascTo s k = true)) (fun i => s.size - (intOf i).toNat)
  case atStart => exact ⟨0, Nat.zero_le _, rfl, show ascTo s 0 = true by simp [ascTo]⟩
  case round =>
    obtain ⟨k, hk, rfl, HA⟩ := hrel
    by_cases hlt : k < s.size
    · go_wp2
      · have h : 127 < (s[k].toNat : Int) := by assumption
        go_ret
        exact ⟨ret_bool (asc_no s k hlt h).symm, rfl⟩
      · have h : (s[k].toNat : Int) ≤ 127 := by assumption
        exact ⟨⟨k + 1, by omega, by go_num, ascTo_succ s k hlt HA.out h⟩, by simp [intOf]; omega⟩
    · go_wp2
      go_ret
      exact ⟨ret_bool (ascTo_size s k (by omega) HA.out).symm, rfl⟩

theorem plain_no_size (s : ByteArray) (w : World) (hs : s.size ≤ maxLen) (h : ¬ s.size ≤ 20) :
    Calls Tryd.prog 7 #[.string s] w fun e w' => e = .returned (.bool false) ∧ w = w' := by
  unfold maxLen at hs
  go_enter Tryd.func7, Tryd.ntmps7
  go_wp2
  go_ret
  exact ⟨rfl, rfl⟩
theorem plain_in (s : ByteArray) (w : World) (h : s.size ≤ 20) :
    Calls Tryd.prog 7 #[.string s] w fun e w' => e = .returned (.bool (ascB s)) ∧ w = w' := by
  have hs : s.size ≤ maxLen := by unfold maxLen; omega
  go_enter Tryd.func7, Tryd.ntmps7
  go_wp2_with (go_at_call 17; refine (ascii_any _ _ hs).mono ?_; rintro e w' ⟨rfl, rfl⟩)
  go_ret
  exact ⟨rfl, rfl⟩
/-- At most 20 bytes, all ASCII. -/
def plainB (s : ByteArray) : Bool := decide (s.size ≤ 20) && ascB s
theorem plain_any (s : ByteArray) (w : World) (hs : s.size ≤ maxLen) :
    Calls Tryd.prog 7 #[.string s] w fun e w' => e = .returned (.bool (plainB s)) ∧ w = w' := by
  by_cases h : s.size ≤ 20
  · have e : plainB s = ascB s := by simp [plainB, h]
    rw [e]; exact plain_in s w h
  · have e : plainB s = false := by simp [plainB, h]
    rw [e]; exact plain_no_size s w hs h
end Go.Proofs.YtfbdjffpnioinaaDoor
