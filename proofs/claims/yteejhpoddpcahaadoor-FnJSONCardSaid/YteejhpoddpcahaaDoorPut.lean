/- spec.put, replaced: the first of one byte put for a text. -/
import Derived.Test.YteejhpoddpcahaaDoorFmtL
import Derived.Test.YteejhpoddpcahaaDoorBase
import Derived.RegionTactic
import Derived.Deep.QuietTactic
import Derived.BigQuiet
import Derived.Lib.Strings
import Derived.Outline
namespace Go.Proofs.YteejhpoddpcahaaDoor
open Go.RowKit

/-- x for the first c of s. -/
def putB (s : ByteArray) (c : UInt8) (x : ByteArray) : ByteArray := ofL (putL c x.data.toList s.data.toList)
/-- The first k bytes hold no c. -/
def NoB (s : ByteArray) (c : UInt8) (k : Nat) : Prop := ∀ i, i < k → s.data.toList[i]? ≠ some c
theorem NoB.zero (s : ByteArray) (c : UInt8) : NoB s c 0 := fun i h => by omega
theorem NoB.succ {s : ByteArray} {c : UInt8} {k : Nat} (h : NoB s c k) (hk : k < s.size) (hne : ¬ s[k] = c) : NoB s c (k + 1) := fun i hi he => by
  by_cases hik : i = k
  · subst hik
    rw [get_data s i hk] at he
    exact hne (Option.some.inj he)
  · exact h i (by omega) he
theorem putB_hit {s : ByteArray} {c : UInt8} {k : Nat} (x : ByteArray) (h : NoB s c k) (hk : k < s.size) (he : s[k] = c) : putB s c x = s.extract 0 k ++ x ++ s.extract (k + 1) s.size := by
  apply ba_ext
  unfold putB
  rw [ofL_data, putL_hit c _ _ k (by rw [get_data s k hk, he]) h, ByteArray.data_append, Array.toList_append, ByteArray.data_append, Array.toList_append, Lib.extract_data, Lib.extract_data, List.drop_zero, Nat.sub_zero]
  congr 1
  rw [List.take_of_length_le]
  rw [List.length_drop]
  have : s.data.toList.length = s.size := by simp
  omega
theorem putB_miss {s : ByteArray} {c : UInt8} {k : Nat} (x : ByteArray) (h : NoB s c k) (hk : s.size ≤ k) : putB s c x = s := by
  apply ba_ext
  unfold putB
  rw [ofL_data, putL_miss c _ _ (fun i hi => h i (by have : s.data.toList.length = s.size := by simp
                                                     omega))]
theorem byte_ne {b c : UInt8} {n : Int} (hn : (c.toNat : Int) = n) (h : ¬ b = c) : ((b.toNat : Int) == n) = false := by
  rw [beq_eq_false_iff_ne]
  intro e
  exact h (UInt8.toNat_inj.1 (by omega))
theorem byte_eq {b c : UInt8} {n : Int} (hn : (c.toNat : Int) = n) (h : b = c) : ((b.toNat : Int) == n) = true := by
  rw [beq_iff_eq, h]; exact hn

set_option maxHeartbeats 1000000 in
theorem put_any (s x : ByteArray) (c : UInt8) (n : Int) (w : World) (hs : s.size ≤ 1000000) (hx : x.size ≤ 1000000) (hn : (c.toNat : Int) = n) :
    Calls Tryd.prog 32 #[.string s, .int .u8 n, .string x] w fun e w' => e = .returned (.string (putB s c x)) ∧ Below w.heap.size w w' := by
  have HN := Lib.hid hn
  clear hn
  go_enter Tryd.func32, Tryd.ntmps32
  go_wp2
  go_loop [10] (fun i => ∃ k : Nat, k ≤ s.size ∧ i = .int .i64 k ∧ Hid (NoB s c k)) (fun i => s.size - (intOf i).toNat)
  case atStart => exact ⟨0, Nat.zero_le _, rfl, NoB.zero s c⟩
  case round =>
    obtain ⟨k, hk, rfl, HA⟩ := hrel
    by_cases hlt : k < s.size
    · by_cases heq : s[k] = c
      · have ht := byte_eq HN.out heq
        have HP := Lib.hid (putB_hit x HA.out hlt heq)
        have h1 : (0 : Int) ≤ k := by omega
        have h2 : (k : Int) ≤ s.size := by omega
        have h3 : (0 : Int) ≤ (k : Int) + 1 := by omega
        have h4 : (k : Int) + 1 ≤ s.size := by omega
        have h5 : IntKind.i64.wrap ((k : Int) + 1) = (k : Int) + 1 := IntWalk.i64_in _ (by omega)
        have h6 : ((k : Int) + 1).toNat = k + 1 := by omega
        clear heq
        go_wp2
        go_quiet (fail)
        go_wp2
        go_ret
        exact ⟨ret_str HP.out.symm, below_drewN (Below.refl _ _) _⟩
      · have ht := byte_ne HN.out heq
        have HA2 := Lib.hid (HA.out.succ hlt heq)
        clear heq
        go_wp2
        exact ⟨⟨k + 1, by omega, by go_num, HA2⟩, by simp [intOf]; omega⟩
    · have HP := Lib.hid (putB_miss x HA.out (by omega))
      go_wp2
      go_ret
      exact ⟨ret_str HP.out.symm, Below.refl _ _⟩

theorem ext_one {s : ByteArray} {k : Nat} (hk : k < s.size) : (s.extract k (k + 1)).toList = [s[k]] := by
  rw [Lib.extract_toList, show k + 1 - k = 1 by omega]
  have h := get_data s k hk
  obtain ⟨hl, he⟩ := List.getElem?_eq_some_iff.1 h
  rw [List.drop_eq_getElem_cons hl, he]
  rfl
theorem one_eq {s : ByteArray} {k : Nat} {c : UInt8} (hk : k < s.size) (h : s[k] = c) : ((s.extract k (k + 1)).toList == [c]) = true := by
  rw [ext_one hk, h]; simp
theorem one_ne {s : ByteArray} {k : Nat} {c : UInt8} (hk : k < s.size) (h : ¬ s[k] = c) : ((s.extract k (k + 1)).toList == [c]) = false := by
  rw [ext_one hk]; simp [h]

set_option maxHeartbeats 1000000 in
theorem replaced_any (s x : ByteArray) (c : UInt8) (w : World) (hs : s.size ≤ 1000000) (hx : x.size ≤ 1000000) :
    Calls Tryd.prog 48 #[.string s, .string ⟨#[c]⟩, .string x] w fun e w' => e = .returned (.string (putB s c x)) ∧ Below w.heap.size w w' := by
  have hz : (⟨#[c]⟩ : ByteArray).size = 1 := rfl
  go_enter Tryd.func48, Tryd.ntmps48
  go_wp2
  go_loop [7] (fun i => ∃ k : Nat, k ≤ s.size ∧ i = .int .i64 k ∧ Hid (NoB s c k)) (fun i => s.size - (intOf i).toNat)
  case atStart => exact ⟨0, Nat.zero_le _, rfl, NoB.zero s c⟩
  case round =>
    obtain ⟨k, hk, rfl, HA⟩ := hrel
    by_cases hlt : k < s.size
    · have h1 : (0 : Int) ≤ k := by omega
      have h2 : (k : Int) ≤ s.size := by omega
      have h3 : (0 : Int) ≤ (k : Int) + 1 := by omega
      have h4 : (k : Int) + 1 ≤ s.size := by omega
      have h5 : IntKind.i64.wrap ((k : Int) + 1) = (k : Int) + 1 := IntWalk.i64_in _ (by omega)
      have h6 : ((k : Int) + 1).toNat = k + 1 := by omega
      by_cases heq : s[k] = c
      · have ht := one_eq hlt heq
        have HP := Lib.hid (putB_hit x HA.out hlt heq)
        clear heq
        go_wp2
        go_quiet (fail)
        go_wp2
        go_ret
        exact ⟨ret_str HP.out.symm, below_drewN (Below.refl _ _) _⟩
      · have ht := one_ne hlt heq
        have HA2 := Lib.hid (HA.out.succ hlt heq)
        clear heq
        go_wp2
        exact ⟨⟨k + 1, by omega, by go_num, HA2⟩, by simp [intOf]; omega⟩
    · have HP := Lib.hid (putB_miss x HA.out (by omega))
      go_wp2
      go_ret
      exact ⟨ret_str HP.out.symm, Below.refl _ _⟩
end Go.Proofs.YteejhpoddpcahaaDoor
