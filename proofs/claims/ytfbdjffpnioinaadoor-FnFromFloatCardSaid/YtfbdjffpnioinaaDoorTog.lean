/- Lists of texts and numbers that came in; laws.together, laws.zzFits2. -/
import Derived.Test.YtfbdjffpnioinaaDoorSmall
import Derived.Deep.QuietTactic
import Derived.BigQuiet
import Derived.Deep.RegionHeld3
namespace Go.Proofs.YtfbdjffpnioinaaDoor
open Go.RowKit

/-- A slice's cells, nil let in. -/
def Cells (w : World) (A : Option Addr) (vs : List Value) : Prop :=
  0 < vs.length → ∃ b off, A = some ⟨b, off, none⟩ ∧ ∀ i v, vs[i]? = some v → w.cell? ⟨b, off + i, none⟩ = some v
theorem Cells.below {w w' : World} {A : Option Addr} {vs : List Value} (h : Cells w A vs) (hb : Below w.heap.size w w') : Cells w' A vs := fun h0 => by
  obtain ⟨b, off, rfl, hc⟩ := h h0
  exact ⟨b, off, rfl, fun i v hv => by rw [hb.cell (cell_lt (hc i v hv))]; exact hc i v hv⟩
theorem Cells.at_ {w : World} {b off : Nat} {vs : List Value} (h : Cells w (some ⟨b, off, none⟩) vs) (i : Nat) (v : Value) (hv : vs[i]? = some v) : w.cell? ⟨b, off + i, none⟩ = some v := by
  obtain ⟨b', off', h1, hc⟩ := h (by have := (List.getElem?_eq_some_iff.1 hv).1; omega)
  cases h1
  exact hc i v hv
theorem Cells.addr {w : World} {A : Option Addr} {vs : List Value} (h : Cells w A vs) (h0 : 0 < vs.length) : ∃ b off, A = some ⟨b, off, none⟩ := by
  obtain ⟨b, off, h1, _⟩ := h h0
  exact ⟨b, off, h1⟩
def strV (ss : List ByteArray) : List Value := ss.map Value.string
def intV (k : IntKind) (zs : List Int) : List Value := zs.map (Value.int k)
theorem strV_get (ss : List ByteArray) (i : Nat) (h : i < ss.length) : (strV ss)[i]? = some (.string ss[i]) := by simp [strV, h]
theorem intV_get (k : IntKind) (zs : List Int) (i : Nat) (h : i < zs.length) : (intV k zs)[i]? = some (.int k zs[i]) := by simp [intV, h]

/-- No text of the list is longer than the law's bound. -/
def fitsB (ss : List ByteArray) : Bool := ss.all fun s => decide (s.size ≤ 2147483647)
def fitsTo (ss : List ByteArray) (k : Nat) : Prop := fitsB (ss.take k) = true
theorem fitsTo_succ (ss : List ByteArray) (k : Nat) (h : k < ss.length) (hf : fitsTo ss k) (hs : (ss[k].size : Int) ≤ 2147483647) : fitsTo ss (k + 1) := by
  unfold fitsTo fitsB at *
  rw [List.take_succ_eq_append_getElem h, List.all_append, hf]
  simp; omega
theorem fitsTo_all (ss : List ByteArray) (k : Nat) (h : ss.length ≤ k) (hf : fitsTo ss k) : fitsB ss = true := by
  unfold fitsTo at hf
  rwa [List.take_of_length_le h] at hf
theorem fits_no (ss : List ByteArray) (k : Nat) (h : k < ss.length) (hs : 2147483647 < (ss[k].size : Int)) : fitsB ss = false := by
  rw [Bool.eq_false_iff]
  intro hf
  have := List.all_eq_true.1 hf ss[k] (List.getElem_mem h)
  have := of_decide_eq_true this
  omega

/-- Whether all texts are plain. -/
def plainsB (ss : List ByteArray) : Bool := ss.all plainB
def plainsTo (ss : List ByteArray) (k : Nat) : Prop := plainsB (ss.take k) = true
theorem plainsTo_succ (ss : List ByteArray) (k : Nat) (h : k < ss.length) (hf : plainsTo ss k) (hs : plainB ss[k] = true) : plainsTo ss (k + 1) := by
  unfold plainsTo plainsB at *
  rw [List.take_succ_eq_append_getElem h, List.all_append, hf]
  simp [hs]
theorem plainsTo_all (ss : List ByteArray) (k : Nat) (h : ss.length ≤ k) (hf : plainsTo ss k) : plainsB ss = true := by
  unfold plainsTo at hf
  rwa [List.take_of_length_le h] at hf
theorem plains_get (ss : List ByteArray) (h : plainsB ss = true) (k : Nat) (hk : k < ss.length) : plainB ss[k] = true := List.all_eq_true.1 h _ (List.getElem_mem hk)
theorem plains_no (ss : List ByteArray) (k : Nat) (h : k < ss.length) (hs : plainB ss[k] = false) : plainsB ss = false := by
  rw [Bool.eq_false_iff]
  intro hf
  rw [plains_get ss hf k h] at hs; cases hs

/-- Whether all texts are the first one, in capital letters. -/
def oneTo (ss : List ByteArray) (k : Nat) : Bool := (ss.take k).all fun s => (upB s).toList == (upB (ss.getD 0 ⟨#[]⟩)).toList
def oneB (ss : List ByteArray) : Bool := ss.all fun s => (upB s).toList == (upB (ss.getD 0 ⟨#[]⟩)).toList
theorem oneTo_succ (ss : List ByteArray) (k : Nat) (h : k < ss.length) : oneTo ss (k + 1) = (oneTo ss k && ((upB ss[k]).toList == (upB (ss.getD 0 ⟨#[]⟩)).toList)) := by
  unfold oneTo
  rw [List.take_succ_eq_append_getElem h, List.all_append]
  simp
theorem oneTo_all (ss : List ByteArray) (k : Nat) (h : ss.length ≤ k) : oneTo ss k = oneB ss := by
  unfold oneTo oneB
  rw [List.take_of_length_le h]

theorem keep_cell {w w' : World} {p : Addr} {v : Value} (h : w.cell? p = some v) (hb : Below w.heap.size w w') : w'.cell? p = some v := by
  rw [hb.cell (cell_lt h)]; exact h

theorem keepS {W w w' : World} {p : Addr} {v : Value} (h : w.cell? p = some v ∧ Below W.heap.size W w) (hb : Below w.heap.size w w') : w'.cell? p = some v ∧ Below W.heap.size W w' :=
  ⟨keep_cell h.1 hb, h.2.trans (hb.mono h.2.size)⟩

theorem plains0 (ss : List ByteArray) (k : Nat) (hk : k < ss.length) (hf : plainsTo ss k) (hs : plainB ss[k] = true) : plainB (ss[0]'(by omega)) = true := by
  have h := plainsTo_succ ss k hk hf hs
  unfold plainsTo plainsB at h
  refine List.all_eq_true.1 h _ ?_
  refine List.mem_of_getElem? (i := 0) ?_
  rw [List.getElem?_take]
  simp
theorem ret_bb {a b c d : Bool} (h : a = c) (h' : b = d) : Ending.returned (.tuple #[.bool a, .bool b]) = .returned (.tuple #[.bool c, .bool d]) := by rw [h, h']

end Go.Proofs.YtfbdjffpnioinaaDoor
