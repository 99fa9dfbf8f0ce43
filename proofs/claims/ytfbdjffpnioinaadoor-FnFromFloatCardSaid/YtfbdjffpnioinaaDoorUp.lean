/- spec.Upper: a text in capital letters. -/
import Derived.Test.YtfbdjffpnioinaaDoorBase
import Derived.Laws.IdiomStrings
import Derived.Outline
namespace Go.Proofs.YtfbdjffpnioinaaDoor
open Go.RowKit

/-- Block g holds a text's bytes, behind them zeros; the first k bytes in capital letters. -/
def UpTo (w : World) (g : Nat) (s : ByteArray) (k : Nat) : Prop :=
  ∃ C n, w.heap[g]? = some (.cells C 5 (n, n + 1)) ∧ C.size = n ∧ ∀ j b, s.data.toList[j]? = some b → C[j]? = some (Value.int .u8 ((if j < k then Lib.upperB b else b).toNat : Int))

theorem up_start (s : ByteArray) (w : World) : ∃ w1 cap, (convert 9 84 (.string s)).run Tryd.prog w = .ok (.slice (some ⟨w.heap.size, 0, none⟩) s.size cap) w1 ∧ UpTo w1 w.heap.size s 0 ∧ Below w.heap.size w w1 := by
  refine ⟨_, _, run_bytes_of_string w 9 84 5 s Tryd.underlying9 Tryd.underlying84 Tryd.underlying5, ?_, ((Below.refl _ _).drew).alloc (Nat.le_refl _) _⟩
  refine ⟨bytesRow s (grownCap w s.size 0 5), _, ?_, rfl, ?_⟩
  · show (w.heap.push _)[w.heap.size]? = _
    simp
  · intro j b hb
    have hj : j < s.data.size := by
      have := (List.getElem?_eq_some_iff.1 hb).1
      simpa using this
    have hb' : s.data[j]? = some b := by rw [← hb]; simp
    unfold bytesRow
    rw [Array.getElem?_append_left (by simpa using hj), Array.getElem?_map, hb']
    rfl
theorem UpTo.cell {w : World} {g : Nat} {s : ByteArray} {k : Nat} (h : UpTo w g s k) (hk : k < s.size) : w.cell? ⟨g, k, none⟩ = some (.int .u8 (s[k].toNat : Int)) := by
  obtain ⟨C, n, hh, _, hc⟩ := h
  have := hc k s[k] (get_data s k hk)
  simp only [Nat.lt_irrefl, if_false] at this
  simp [World.cell?, hh, this]
theorem UpTo.free {w : World} {g : Nat} {s : ByteArray} {k : Nat} (h : UpTo w g s k) (hk : k < s.size) : w.frozen? ⟨g, k, none⟩ = false := by
  obtain ⟨C, n, hh, hn, hc⟩ := h
  have := (Array.getElem?_eq_some_iff.1 (hc k s[k] (get_data s k hk))).1
  simp [World.frozen?, hh]; omega
theorem UpTo.keep {w : World} {g : Nat} {s : ByteArray} {k : Nat} (h : UpTo w g s k) (hk : k < s.size) (hu : Lib.upperB s[k] = s[k]) : UpTo w g s (k + 1) := by
  obtain ⟨C, n, hh, hn, hc⟩ := h
  refine ⟨C, n, hh, hn, fun j b hb => ?_⟩
  rw [hc j b hb]
  by_cases hj : j = k
  · subst hj
    have : b = s[j] := by rw [get_data s j hk] at hb; exact (Option.some.inj hb).symm
    subst this
    simp [hu]
  · by_cases h1 : j < k
    · rw [if_pos h1, if_pos (by omega)]
    · rw [if_neg h1, if_neg (by omega)]
theorem UpTo.store {w : World} {g : Nat} {s : ByteArray} {k : Nat} (h : UpTo w g s k) (hk : k < s.size) (u : Int) (hu : ((Lib.upperB s[k]).toNat : Int) = u) : UpTo (w.setCell ⟨g, k, none⟩ (.int .u8 u)) g s (k + 1) := by
  obtain ⟨C, n, hh, hn, hc⟩ := h
  refine ⟨C.setIfInBounds k (.int .u8 u), n, ?_, by simpa using hn, fun j b hb => ?_⟩
  · simp [World.setCell, Array.getElem?_modify, hh]
  · have hj0 := (Array.getElem?_eq_some_iff.1 (hc j b hb)).1
    by_cases hj : j = k
    · subst hj
      have : b = s[j] := by rw [get_data s j hk] at hb; exact (Option.some.inj hb).symm
      subst this
      simp [hj0, ← hu]
    · rw [Array.getElem?_setIfInBounds_ne (by omega), hc j b hb]
      by_cases h1 : j < k
      · rw [if_pos h1, if_pos (by omega)]
      · rw [if_neg h1, if_neg (by omega)]
theorem UpTo.back {w : World} {g : Nat} {s : ByteArray} {k cap : Nat} (h : UpTo w g s k) (hk : s.size ≤ k) : (convert 84 9 (.slice (some ⟨g, 0, none⟩) s.size cap)).run Tryd.prog w = .ok (.string (upB s)) w := by
  obtain ⟨C, n, hh, hn, hc⟩ := h
  have hl : (Lib.toUpperA s.data.toList).length = s.size := by simp [Lib.toUpperA]
  rw [← hl]
  refine run_convert_bytes_back w 84 9 5 ⟨g, 0, none⟩ cap (Lib.toUpperA s.data.toList) Tryd.underlying84 Tryd.underlying5 Tryd.underlying9 ?_
  intro j hj
  have hj' : j < s.size := by omega
  have := hc j s[j] (get_data s j hj')
  rw [if_pos (by omega)] at this
  have e : (Lib.toUpperA s.data.toList)[j] = Lib.upperB s[j] := by
    simp [Lib.toUpperA, ByteArray.getElem_eq_getElem_data]
  rw [e]
  have ea : Addr.add ⟨g, 0, none⟩ j = ⟨g, j, none⟩ := by unfold Addr.add; by_cases h0 : j = 0 <;> simp [h0]
  rw [ea]
  simp [World.cell?, hh, this]

theorem upperB_lo (b : UInt8) (h1 : 97 ≤ (b.toNat : Int)) (h2 : (b.toNat : Int) ≤ 122) : ((Lib.upperB b).toNat : Int) = (b.toNat : Int) - 32 := by
  have h1' : 97 ≤ b := by rw [UInt8.le_iff_toNat_le]; show 97 ≤ b.toNat; omega
  have h2' : b ≤ 122 := by rw [UInt8.le_iff_toNat_le]; show b.toNat ≤ 122; omega
  have h3 : (32 : UInt8) ≤ b := by rw [UInt8.le_iff_toNat_le]; show 32 ≤ b.toNat; omega
  have e : Lib.upperB b = b - 32 := by simp [Lib.upperB, Lib.isLowerB, h1', h2']
  rw [e, UInt8.toNat_sub_of_le _ _ h3]
  show ((b.toNat - 32 : Nat) : Int) = _
  omega
theorem upperB_hi (b : UInt8) (h1 : ¬ (97 ≤ (b.toNat : Int) ∧ (b.toNat : Int) ≤ 122)) : Lib.upperB b = b := by
  have e : Lib.isLowerB b = false := by
    rw [Bool.eq_false_iff]
    intro h
    simp only [Lib.isLowerB, Bool.and_eq_true, decide_eq_true_eq, UInt8.le_iff_toNat_le] at h
    obtain ⟨ha, hb⟩ := h
    have ha' : 97 ≤ b.toNat := ha
    have hb' : b.toNat ≤ 122 := hb
    exact h1 ⟨by omega, by omega⟩
  simp [Lib.upperB, e]

theorem upB_asc (s : ByteArray) (h : ascB s = true) : ascB (upB s) = true := by
  have hl : (upB s).data.toList = s.data.toList.map Lib.upperB := by unfold upB Lib.toUpperA; rfl
  unfold ascB
  rw [hl, List.all_eq_true]
  intro b hb
  obtain ⟨c, hc, rfl⟩ := List.mem_map.1 hb
  obtain ⟨j, hj⟩ := List.getElem?_of_mem hc
  have h1 := ascB_get h j c hj
  refine decide_eq_true ?_
  by_cases h2 : 97 ≤ (c.toNat : Int) ∧ (c.toNat : Int) ≤ 122
  · have := upperB_lo c h2.1 h2.2; omega
  · rw [upperB_hi c h2]; omega
theorem upB_size (s : ByteArray) : (upB s).size = s.size := by
  have h : (upB s).size = (s.data.toList.map Lib.upperB).toArray.size := rfl
  rw [h, List.size_toArray, List.length_map, Array.length_toList]
  rfl
end Go.Proofs.YtfbdjffpnioinaaDoor
