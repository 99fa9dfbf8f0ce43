/- Words for memory and for texts that the walks use: a block known whole, an amount with its currency; capital letters; small contracts (short, Ascii, Upper, plain). -/
import Derived.Test.YthdgpoimbijgfaaDoorCur
import Derived.Lib.Case
import Derived.Lib.Hide
import Derived.PlainAid
import Derived.WalkLawsBesides
namespace Go.Proofs.YthdgpoimbijgfaaDoor
open Go.RowKit

/-- Block g is just these cells. -/
def Blk (w : World) (g : Nat) (t : TypeId) (cs : Array Value) : Prop := w.heap[g]? = some (.cells cs t)
section
variable {w w' : World} {g : Nat} {t : TypeId} {cs : Array Value}
theorem Blk.lt (h : Blk w g t cs) : g < w.heap.size := by
  rcases Nat.lt_or_ge g w.heap.size with hlt | hge
  · exact hlt
  · unfold Blk at h; rw [Array.getElem?_eq_none hge] at h; cases h
theorem Blk.cell (h : Blk w g t cs) (i : Nat) : w.cell? ⟨g, i, none⟩ = cs[i]? := by
  unfold Blk at h; simp [World.cell?, h]
theorem Blk.frozen (h : Blk w g t cs) (i : Nat) : w.frozen? ⟨g, i, none⟩ = false := by
  unfold Blk at h; simp [World.frozen?, h]
theorem Blk.new (w : World) (t : TypeId) (cs : Array Value) : Blk (w.alloc (.cells cs t)) w.heap.size t cs := by
  show (w.heap.push _)[w.heap.size]? = _
  simp
theorem Blk.alloc (h : Blk w g t cs) (o : Obj) : Blk (w.alloc o) g t cs := (Below.heap_alloc w o g h.lt).trans h
theorem Blk.drew (h : Blk w g t cs) : Blk w.drew g t cs := h
theorem Blk.drewN (h : Blk w g t cs) (n : Nat) : Blk (w.drewN n) g t cs := h
theorem Blk.set_ (h : Blk w g t cs) (i : Nat) (u : Value) : Blk (w.setCell ⟨g, i, none⟩ u) g t (cs.setIfInBounds i u) := by
  unfold Blk at h ⊢
  simp [World.setCell, Array.getElem?_modify, h]
theorem Blk.far (h : Blk w g t cs) {p : Addr} (hp : g ≠ p.block) (u : Value) : Blk (w.setCell p u) g t cs := (Below.heap_setCell w p u g hp).trans h
theorem Blk.below {B : Nat} (h : Blk w g t cs) (hb : Below B w w') (hg : g < B) : Blk w' g t cs := (hb.block g hg).trans h
theorem Blk.ne_ {g' : Nat} {t' : TypeId} {cs' : Array Value} (h : Blk w g t cs) (h' : Blk w g' t' cs') (hne : t ≠ t') : g ≠ g' := by
  rintro rfl
  unfold Blk at h h'
  rw [h] at h'
  injection h' with h'
  injection h' with _ ht
  exact hne ht
end

theorem below_drewN {B : Nat} {a w : World} (h : Below B a w) (n : Nat) : Below B a (w.drewN n) := ⟨h.os, h.tape, h.output, h.size, h.block⟩

/-- All bytes of a text are ASCII. -/
def ascB (s : ByteArray) : Bool := s.data.toList.all fun b => decide (b.toNat ≤ 127)
/-- A text in capital letters. -/
def upB (s : ByteArray) : ByteArray := ⟨(Lib.toUpperA s.data.toList).toArray⟩

theorem ascB_get {s : ByteArray} (h : ascB s = true) (j : Nat) (b : UInt8) (hb : s.data.toList[j]? = some b) : b.toNat < 128 := by
  unfold ascB at h
  have := List.all_eq_true.1 h b (List.mem_of_getElem? hb)
  have := of_decide_eq_true this
  omega

theorem ret_bool {a b : Bool} (h : a = b) : Ending.returned (.bool a) = .returned (.bool b) := by rw [h]
theorem ret_int {k : IntKind} {a b : Int} (h : a = b) : Ending.returned (.int k a) = .returned (.int k b) := by rw [h]
theorem ret_str {a b : ByteArray} (h : a = b) : Ending.returned (.string a) = .returned (.string b) := by rw [h]

theorem short_any (s : ByteArray) (w : World) : Calls Tryd.prog 10 #[.string s] w fun e w' => e = .returned (.bool (decide (s.size ≤ 100))) ∧ w = w' := by
  go_enter Tryd.func10, Tryd.ntmps10
  go_wp2
  go_ret
  exact ⟨ret_bool (by rw [decide_eq_decide]; omega), rfl⟩

theorem get_data (s : ByteArray) (k : Nat) (h : k < s.size) : s.data.toList[k]? = some s[k] := by
  simp [ByteArray.getElem_eq_getElem_data, h]
theorem asc_no (s : ByteArray) (k : Nat) (h : k < s.size) (hk : 127 < (s[k].toNat : Int)) : ascB s = false := by
  cases e : ascB s with
  | false => rfl
  | true => have := ascB_get e k s[k] (get_data s k h); omega
theorem take_snoc (s : ByteArray) (k : Nat) (h : k < s.size) : s.data.toList.take (k + 1) = s.data.toList.take k ++ [s[k]] := by
  rw [List.take_succ_eq_append_getElem (by simpa using h)]; rfl
def ascTo (s : ByteArray) (k : Nat) : Bool := (s.data.toList.take k).all fun b => decide (b.toNat ≤ 127)
theorem ascTo_succ (s : ByteArray) (k : Nat) (h : k < s.size) (ht : ascTo s k = true) (hk : (s[k].toNat : Int) ≤ 127) : ascTo s (k + 1) = true := by
  unfold ascTo at *
  rw [take_snoc s k h, List.all_append, ht]
  simp; omega
theorem ascTo_size (s : ByteArray) (k : Nat) (hk : s.size ≤ k) (ht : ascTo s k = true) : ascB s = true := by
  unfold ascTo at ht
  rw [List.take_of_length_le (by simpa using hk)] at ht
  exact ht

set_option maxHeartbeats 400000 in
theorem ascii_any (s : ByteArray) (w : World) (hs : s.size ≤ maxLen) :
    Calls Tryd.prog 9 #[.string s] w fun e w' => e = .returned (.bool (ascB s)) ∧ w = w' := by
  unfold maxLen at hs
  go_enter Tryd.func9, Tryd.ntmps9
  go_wp2
  go_loop [6] (fun i => ∃ k : Nat, k ≤ s.size ∧ i = .int .i64 k ∧ Hid (ascTo s k = true)) (fun i => s.size - (intOf i).toNat)
  case atStart => exact ⟨0, Nat.zero_le _, rfl, show ascTo s 0 = true by simp [ascTo]⟩
  case round =>
    obtain ⟨k, hk, rfl, HA⟩ := hrel
    by_cases hlt : k < s.size
    · go_wp2
      · have h : 127 < (s[k].toNat : Int) := by assumption
        go_ret
        exact ⟨ret_bool (asc_no s k hlt h).symm, rfl⟩
      · have h : (s[k].toNat : Int) ≤ 127 := by assumption
        exact ⟨⟨k + 1, by omega, by go_num, ascTo_succ s k hlt HA.out h⟩, by simp [intOf]; omega⟩
    · go_wp2
      go_ret
      exact ⟨ret_bool (ascTo_size s k (by omega) HA.out).symm, rfl⟩

theorem plain_no_size (s : ByteArray) (w : World) (hs : s.size ≤ maxLen) (h : ¬ s.size ≤ 20) :
    Calls Tryd.prog 5 #[.string s] w fun e w' => e = .returned (.bool false) ∧ w = w' := by
  unfold maxLen at hs
  go_enter Tryd.func5, Tryd.ntmps5
  go_wp2
  go_ret
  exact ⟨rfl, rfl⟩
theorem plain_in (s : ByteArray) (w : World) (h : s.size ≤ 20) :
    Calls Tryd.prog 5 #[.string s] w fun e w' => e = .returned (.bool (ascB s)) ∧ w = w' := by
  have hs : s.size ≤ maxLen := by unfold maxLen; omega
  go_enter Tryd.func5, Tryd.ntmps5
  go_wp2_with (go_at_call 9; refine (ascii_any _ _ hs).mono ?_; rintro e w' ⟨rfl, rfl⟩)
  go_ret
  exact ⟨rfl, rfl⟩
/-- At most 20 bytes, all ASCII. -/
def plainB (s : ByteArray) : Bool := decide (s.size ≤ 20) && ascB s
theorem plain_any (s : ByteArray) (w : World) (hs : s.size ≤ maxLen) :
    Calls Tryd.prog 5 #[.string s] w fun e w' => e = .returned (.bool (plainB s)) ∧ w = w' := by
  by_cases h : s.size ≤ 20
  · have e : plainB s = ascB s := by simp [plainB, h]
    rw [e]; exact plain_in s w h
  · have e : plainB s = false := by simp [plainB, h]
    rw [e]; exact plain_no_size s w hs h
end Go.Proofs.YthdgpoimbijgfaaDoor
