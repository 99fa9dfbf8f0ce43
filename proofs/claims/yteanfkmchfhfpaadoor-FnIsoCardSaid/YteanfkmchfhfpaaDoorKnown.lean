/- spec.Known: a code is known exactly if the table has it. -/
import Derived.Test.YteanfkmchfhfpaaDoorCodes
import Derived.Test.YteanfkmchfhfpaaDoorCoin
namespace Go.Proofs.YteanfkmchfhfpaaDoor
open Go.RowKit

def knownB (s : ByteArray) : Bool := codeList.any fun c => c.toList == s.toList
theorem tab_codes : curTab.map (·.code) = codeList := by kernel_rfl
theorem known_cur (s : ByteArray) : knownB s = (curOf s).isSome := by
  unfold knownB curOf curFind
  rw [← tab_codes, List.any_map, Bool.eq_iff_iff, List.find?_isSome]
  simp only [List.any_eq_true, Function.comp]
  constructor
  · rintro ⟨x, hx, h⟩
    exact ⟨x, hx, by have h' : x.code.toList = s.toList := by simpa using h
                     rw [h']; simp⟩
  · rintro ⟨x, hx, h⟩
    exact ⟨x, hx, by have h' : s.toList = x.code.toList := by simpa using h
                     rw [h']; simp⟩
theorem codeList_length : codeList.length = 177 := by kernel_rfl

set_option maxRecDepth 100000 in
set_option maxHeartbeats 1000000 in
theorem known_any (s : ByteArray) (w : World) :
    Calls Tryd.prog 24 #[.string s] w fun e w' => e = .returned (.bool (knownB s)) ∧ Below w.heap.size w w' := by
  go_enter Tryd.func24, Tryd.ntmps24
  go_wp2_with fail
  refine (specCodes_any _).mono ?_
  rintro e _ ⟨rfl, rfl⟩
  have HC := Lib.hid (fun (i : Nat) (h : i < 177) => show (w.alloc (.cells codeCells 9)).cell? ⟨w.heap.size, i, none⟩ = some (.string (codeList[i]'(by rw [codeList_length]; exact h))) by
    rw [(Blk.new w 9 codeCells).cell i]
    simp [codeCells])
  have HB := Lib.hid ((Below.refl w.heap.size w).alloc (Nat.le_refl _) (.cells codeCells 9))
  generalize w.alloc _ = w1 at *
  go_wp2_with fail
  go_loop [7] (fun i => ∃ k : Nat, k ≤ 177 ∧ i = .int .i64 k ∧ Hid ((codeList.take k).any (fun c => c.toList == s.toList) = false)) (fun i => 177 - (intOf i).toNat)
  case atStart => exact ⟨0, Nat.zero_le _, rfl, show (codeList.take 0).any _ = false by simp⟩
  case round =>
    obtain ⟨k, hk, rfl, HA⟩ := hrel
    by_cases hlt : k < 177
    · have e1 := HC.out k hlt
      have hl : k < codeList.length := by rw [codeList_length]; exact hlt
      cases hb : codeList[k].toList == s.toList with
      | true =>
        have HK : Hid (knownB s = true) := List.any_eq_true.2 ⟨codeList[k], List.getElem_mem hl, hb⟩
        go_wp2
        go_ret
        exact ⟨ret_bool HK.out.symm, HB.out⟩
      | false =>
        have HN : Hid ((codeList.take (k + 1)).any (fun c => c.toList == s.toList) = false) := by
          show _ = _
          rw [List.take_succ_eq_append_getElem hl, List.any_append, HA.out]
          simpa using hb
        go_wp2
        exact ⟨⟨k + 1, by omega, by go_num, HN⟩, by simp [intOf]; omega⟩
    · have HK : Hid (knownB s = false) := by
        have h := HA.out
        rw [List.take_of_length_le (by rw [codeList_length]; omega)] at h
        exact h
      go_wp2
      go_ret
      exact ⟨ret_bool HK.out.symm, HB.out⟩
end Go.Proofs.YteanfkmchfhfpaaDoor
