/- Lists of texts and numbers that came in; laws.together, laws.zzFits2. -/
import Derived.Test.YteanfkmchfhfpaaDoorSmall
import Derived.Deep.QuietTactic
import Derived.BigQuiet
import Derived.Deep.RegionHeld3
namespace Go.Proofs.YteanfkmchfhfpaaDoor
open Go.RowKit

/-- A slice's cells, nil let in. -/
def Cells (w : World) (A : Option Addr) (vs : List Value) : Prop :=
  0 < vs.length → ∃ b off, A = some ⟨b, off, none⟩ ∧ ∀ i v, vs[i]? = some v → w.cell? ⟨b, off + i, none⟩ = some v
theorem Cells.below {w w' : World} {A : Option Addr} {vs : List Value} (h : Cells w A vs) (hb : Below w.heap.size w w') : Cells w' A vs := fun h0 => by
  obtain ⟨b, off, rfl, hc⟩ := h h0
  exact ⟨b, off, rfl, fun i v hv => by rw [hb.cell (cell_lt (hc i v hv))]; exact hc i v hv⟩
theorem Cells.at_ {w : World} {b off : Nat} {vs : List Value} (h : Cells w (some ⟨b, off, none⟩) vs) (i : Nat) (v : Value) (hv : vs[i]? = some v) : w.cell? ⟨b, off + i, none⟩ = some v := by
  obtain ⟨b', off', h1, hc⟩ := h (by have := (List.getElem?_eq_some_iff.1 hv).1; omega)
  cases h1
  exact hc i v hv
theorem Cells.addr {w : World} {A : Option Addr} {vs : List Value} (h : Cells w A vs) (h0 : 0 < vs.length) : ∃ b off, A = some ⟨b, off, none⟩ := by
  obtain ⟨b, off, h1, _⟩ := h h0
  exact ⟨b, off, h1⟩
def strV (ss : List ByteArray) : List Value := ss.map Value.string
def intV (k : IntKind) (zs : List Int) : List Value := zs.map (Value.int k)
theorem strV_get (ss : List ByteArray) (i : Nat) (h : i < ss.length) : (strV ss)[i]? = some (.string ss[i]) := by simp [strV, h]
theorem intV_get (k : IntKind) (zs : List Int) (i : Nat) (h : i < zs.length) : (intV k zs)[i]? = some (.int k zs[i]) := by simp [intV, h]

/-- No text of the list is longer than the law's bound. -/
def fitsB (ss : List ByteArray) : Bool := ss.all fun s => decide (s.size ≤ 2147483647)
def fitsTo (ss : List ByteArray) (k : Nat) : Prop := fitsB (ss.take k) = true
theorem fitsTo_succ (ss : List ByteArray) (k : Nat) (h : k < ss.length) (hf : fitsTo ss k) (hs : (ss[k].size : Int) ≤ 2147483647) : fitsTo ss (k + 1) := by
  unfold fitsTo fitsB at *
  rw [List.take_succ_eq_append_getElem h, List.all_append, hf]
  simp; omega
theorem fitsTo_all (ss : List ByteArray) (k : Nat) (h : ss.length ≤ k) (hf : fitsTo ss k) : fitsB ss = true := by
  unfold fitsTo at hf
  rwa [List.take_of_length_le h] at hf
theorem fits_no (ss : List ByteArray) (k : Nat) (h : k < ss.length) (hs : 2147483647 < (ss[k].size : Int)) : fitsB ss = false := by
  rw [Bool.eq_false_iff]
  intro hf
  have := List.all_eq_true.1 hf ss[k] (List.getElem_mem h)
  have := of_decide_eq_true this
  omega

set_option maxHeartbeats 400000 in
theorem fits2_big (A : Option Addr) (n cap : Nat) (w : World) (hn : 2147483647 < n) (hm : n ≤ 9223372036854775807) :
    Calls Tryd.prog 16 #[.slice A n cap] w fun e w' => e = .returned (.bool false) ∧ w = w' := by
  go_enter Tryd.func16, Tryd.ntmps16
  go_wp2
  go_ret
  exact ⟨rfl, rfl⟩
set_option maxHeartbeats 400000 in
theorem fits2_any (A : Option Addr) (cap : Nat) (ss : List ByteArray) (w : World) (hc : Cells w A (strV ss)) (hn : ss.length ≤ 2147483647) (hs : ∀ s ∈ ss, s.size ≤ maxLen) :
    Calls Tryd.prog 16 #[.slice A ss.length cap] w fun e w' => e = .returned (.bool (fitsB ss)) ∧ w = w' := by
  have HC := Lib.hid hc
  have HS := Lib.hid hs
  clear hc hs
  go_enter Tryd.func16, Tryd.ntmps16
  go_wp2
  go_loop [10] (fun i => ∃ k : Nat, k ≤ ss.length ∧ i = .int .i64 k ∧ Hid (fitsTo ss k)) (fun i => ss.length - (intOf i).toNat)
  case atStart => exact ⟨0, Nat.zero_le _, rfl, show fitsTo ss 0 by simp [fitsTo, fitsB]⟩
  case round =>
    obtain ⟨k, hk, rfl, HF⟩ := hrel
    by_cases hlt : k < ss.length
    · obtain ⟨b, off, rfl⟩ := HC.out.addr (by simp [strV]; omega)
      have e1 := HC.out.at_ k _ (strV_get ss k hlt)
      have hb : ss[k].size ≤ 9223372036854775807 := by have := HS.out _ (List.getElem_mem hlt); unfold maxLen at this; omega
      by_cases h : (ss[k].size : Int) ≤ 2147483647
      · go_wp2
        exact ⟨⟨k + 1, by omega, by go_num, fitsTo_succ ss k hlt HF.out h⟩, by simp [intOf]; omega⟩
      · go_wp2
        go_ret
        exact ⟨ret_bool (fits_no ss k hlt (by omega)).symm, rfl⟩
    · go_wp2
      go_ret
      exact ⟨ret_bool (fitsTo_all ss k (by omega) HF.out).symm, rfl⟩

/-- Whether all texts are plain. -/
def plainsB (ss : List ByteArray) : Bool := ss.all plainB
def plainsTo (ss : List ByteArray) (k : Nat) : Prop := plainsB (ss.take k) = true
theorem plainsTo_succ (ss : List ByteArray) (k : Nat) (h : k < ss.length) (hf : plainsTo ss k) (hs : plainB ss[k] = true) : plainsTo ss (k + 1) := by
  unfold plainsTo plainsB at *
  rw [List.take_succ_eq_append_getElem h, List.all_append, hf]
  simp [hs]
theorem plainsTo_all (ss : List ByteArray) (k : Nat) (h : ss.length ≤ k) (hf : plainsTo ss k) : plainsB ss = true := by
  unfold plainsTo at hf
  rwa [List.take_of_length_le h] at hf
theorem plains_get (ss : List ByteArray) (h : plainsB ss = true) (k : Nat) (hk : k < ss.length) : plainB ss[k] = true := List.all_eq_true.1 h _ (List.getElem_mem hk)
theorem plains_no (ss : List ByteArray) (k : Nat) (h : k < ss.length) (hs : plainB ss[k] = false) : plainsB ss = false := by
  rw [Bool.eq_false_iff]
  intro hf
  rw [plains_get ss hf k h] at hs; cases hs

/-- Whether all texts are the first one, in capital letters. -/
def oneTo (ss : List ByteArray) (k : Nat) : Bool := (ss.take k).all fun s => (upB s).toList == (upB (ss.getD 0 ⟨#[]⟩)).toList
def oneB (ss : List ByteArray) : Bool := ss.all fun s => (upB s).toList == (upB (ss.getD 0 ⟨#[]⟩)).toList
theorem oneTo_succ (ss : List ByteArray) (k : Nat) (h : k < ss.length) : oneTo ss (k + 1) = (oneTo ss k && ((upB ss[k]).toList == (upB (ss.getD 0 ⟨#[]⟩)).toList)) := by
  unfold oneTo
  rw [List.take_succ_eq_append_getElem h, List.all_append]
  simp
theorem oneTo_all (ss : List ByteArray) (k : Nat) (h : ss.length ≤ k) : oneTo ss k = oneB ss := by
  unfold oneTo oneB
  rw [List.take_of_length_le h]

set_option maxHeartbeats 400000 in
theorem together_no (A B : Option Addr) (n m c d : Nat) (w : World) (hn : n ≤ 9223372036854775807) (hm : m ≤ 9223372036854775807) (h : n = 0 ∨ n ≠ m ∨ 20 < n) :
    Calls Tryd.prog 17 #[.slice A n c, .slice B m d] w fun e w' => e = .returned (.tuple #[.bool false, .bool false]) ∧ w = w' := by
  by_cases h0 : n = 0
  · subst h0
    clear h
    go_enter Tryd.func17, Tryd.ntmps17
    go_wp2
    go_ret2
    exact ⟨rfl, rfl⟩
  · have e0 : ((n : Int) == 0) = false := by rw [beq_eq_false_iff_ne]; omega
    by_cases h1 : n = m
    · subst h1
      have h2 : 20 < n := by omega
      clear h
      go_enter Tryd.func17, Tryd.ntmps17
      go_wp2
      go_ret2
      exact ⟨rfl, rfl⟩
    · have e1 : ((n : Int) != (m : Int)) = true := by rw [bne_iff_ne]; omega
      clear h
      go_enter Tryd.func17, Tryd.ntmps17
      go_wp2
      go_ret2
      exact ⟨rfl, rfl⟩

theorem keep_cell {w w' : World} {p : Addr} {v : Value} (h : w.cell? p = some v) (hb : Below w.heap.size w w') : w'.cell? p = some v := by
  rw [hb.cell (cell_lt h)]; exact h

theorem keepS {W w w' : World} {p : Addr} {v : Value} (h : w.cell? p = some v ∧ Below W.heap.size W w) (hb : Below w.heap.size w w') : w'.cell? p = some v ∧ Below W.heap.size W w' :=
  ⟨keep_cell h.1 hb, h.2.trans (hb.mono h.2.size)⟩

theorem plains0 (ss : List ByteArray) (k : Nat) (hk : k < ss.length) (hf : plainsTo ss k) (hs : plainB ss[k] = true) : plainB (ss[0]'(by omega)) = true := by
  have h := plainsTo_succ ss k hk hf hs
  unfold plainsTo plainsB at h
  refine List.all_eq_true.1 h _ ?_
  refine List.mem_of_getElem? (i := 0) ?_
  rw [List.getElem?_take]
  simp
theorem ret_bb {a b c d : Bool} (h : a = c) (h' : b = d) : Ending.returned (.tuple #[.bool a, .bool b]) = .returned (.tuple #[.bool c, .bool d]) := by rw [h, h']

set_option maxHeartbeats 1000000 in
theorem together_any (A B : Option Addr) (c d : Nat) (ss : List ByteArray) (w : World) (hc : Cells w A (strV ss)) (h0 : 0 < ss.length) (hn : ss.length ≤ 20) (hz : ∀ s ∈ ss, s.size ≤ 2147483647) :
    Calls Tryd.prog 17 #[.slice A ss.length c, .slice B ss.length d] w fun e w' => e = .returned (.tuple #[.bool (plainsB ss), .bool (plainsB ss && oneB ss)]) ∧ Below w.heap.size w w' := by
  have e0 : ((ss.length : Int) == 0) = false := by rw [beq_eq_false_iff_ne]; omega
  obtain ⟨b, off, rfl⟩ := hc.addr (by simp [strV]; omega)
  have HC := Lib.hid hc
  have HZ := Lib.hid hz
  clear hc hz
  go_enter Tryd.func17, Tryd.ntmps17
  go_wp2
  go_loopw [6, 26] (fun o i wr => ∃ k : Nat, k ≤ ss.length ∧ i = .int .i64 k ∧ o = .bool (oneTo ss k) ∧ Hid (plainsTo ss k) ∧ Hid (Below w.heap.size w wr)) (fun _ i _ => ss.length - (intOf i).toNat)
  case atStart => exact ⟨0, Nat.zero_le _, rfl, by simp [oneTo], show plainsTo ss 0 by simp [plainsTo, plainsB], Below.refl _ _⟩
  case round =>
    obtain ⟨k, hk, rfl, rfl, HP, HB⟩ := hrel
    by_cases hlt : k < ss.length
    · have e1 := (HC.out.below HB.out).at_ k _ (strV_get ss k hlt)
      have hzk : ss[k].size ≤ 2147483647 := HZ.out _ (List.getElem_mem hlt)
      cases hpk : plainB ss[k] with
      | false =>
        have HPk := Lib.hid hpk
        clear hpk
        go_wp2_with fail
        refine (plain_any ss[k] _ (by unfold maxLen; omega)).mono ?_
        rintro e _ ⟨rfl, rfl⟩
        rw [HPk.out]
        go_wp2_with fail
        go_ret2
        have hno := plains_no ss k hlt HPk.out
        exact ⟨ret_bb hno.symm (by rw [hno]; rfl), HB.out⟩
      | true =>
        have HPk := Lib.hid hpk
        clear hpk
        have e2 := (HC.out.below HB.out).at_ 0 _ (strV_get ss 0 h0)
        have hk20 := plainB_size HPk.out
        have h020 := plainB_size (plains0 ss k hlt HP.out HPk.out)
        have HG := Lib.hid (show ss.getD 0 ⟨#[]⟩ = ss[0] by simp [List.getD, h0])
        simp only [Nat.add_zero] at e2
        cases hO : oneTo ss k with
        | true =>
          have HS := Lib.hid (oneTo_succ ss k hlt)
          have HO := Lib.hid hO
          clear hO
          go_wp2_with fail
          refine (plain_any ss[k] _ (by unfold maxLen; omega)).mono ?_
          rintro e _ ⟨rfl, rfl⟩
          rw [HPk.out]
          go_wp2_with fail
          go_region_held3 (fun w' => w'.cell? ⟨b, off, none⟩ = some (.string ss[0]) ∧ Below w.heap.size w w') (first | exact ⟨e2, HB.out.drew⟩ | exact keepS (by assumption) (by assumption)) (first
            | (go_at_call 19; refine (upper_any _ _ (by omega)).mono ?_; rintro e w' ⟨rfl, hb⟩))
          all_goals
            have hbw := And.right (show _ ∧ Below w.heap.size w _ by assumption)
            have HB2 := Lib.hid hbw
            clear hbw
            go_wp2
            exact ⟨⟨k + 1, by omega, by go_num, by rw [HS.out, HO.out, HG.out, Bool.true_and], plainsTo_succ ss k hlt HP.out HPk.out, HB2⟩, by simp [intOf]; omega⟩
        | false =>
          have HS := Lib.hid (show oneTo ss (k + 1) = false by rw [oneTo_succ ss k hlt, hO, Bool.false_and])
          go_wp2_with fail
          refine (plain_any ss[k] _ (by unfold maxLen; omega)).mono ?_
          rintro e _ ⟨rfl, rfl⟩
          rw [HPk.out]
          go_wp2_with fail
          go_quiet (fail)
          go_wp2
          exact ⟨⟨k + 1, by omega, by go_num, by rw [HS.out], plainsTo_succ ss k hlt HP.out HPk.out, below_drewN HB.out _⟩, by simp [intOf]; omega⟩
    · have HO := Lib.hid (oneTo_all ss k (by omega))
      have HA := Lib.hid (plainsTo_all ss k (by omega) HP.out)
      go_wp2
      go_ret2
      exact ⟨ret_bb HA.out.symm (by rw [HA.out, HO.out]; rfl), HB.out⟩
end Go.Proofs.YteanfkmchfhfpaaDoor
