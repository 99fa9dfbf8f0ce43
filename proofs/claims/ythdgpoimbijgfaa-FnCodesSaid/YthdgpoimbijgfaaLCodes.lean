/- FnCodes, walked: for every k the two lists hold the same code at k modulo their length. -/
import Derived.Test.YthdgpoimbijgfaaCodes
namespace Go.Proofs.Ythdgpoimbijgfaa
open Go.RowKit

set_option maxHeartbeats 400000 in
theorem implCodes_any (w : World) :
    Calls Try.prog 4 #[] w fun e w' => e = .returned (.slice (some ⟨w.heap.size, 0, none⟩) 177 177) ∧ w' = w.alloc (.cells codeCells 9) := by
  go_enter Try.func4, Try.ntmps4
  go_wp2_with fail
  refine (zzCodes_any _).mono ?_
  rintro e w1 ⟨rfl, rfl⟩
  go_wp2_with fail
  go_ret
  exact ⟨rfl, rfl⟩

set_option maxHeartbeats 400000 in
theorem fnCodes_law (k : Int) (w : World) (h0 : 0 ≤ k) (h1 : k ≤ 65535) :
    Calls Try.prog 3 #[.int .u16 k] w fun e w' => e = .returned (.bool true) ∧ Below w.heap.size w w' := by
  obtain ⟨n, rfl⟩ : ∃ n : Nat, k = n := ⟨k.toNat, by omega⟩
  obtain ⟨c, hc, _⟩ := codeCells_get (n % 177) (Nat.mod_lt _ (by omega))
  go_enter Try.func3, Try.ntmps3
  go_wp2_with fail
  refine (implCodes_any _).mono ?_
  rintro e w1 ⟨rfl, hw1⟩
  obtain ⟨C, hC⟩ : ∃ C, C = codeCells := ⟨_, rfl⟩
  rw [← hC] at hw1 hc
  subst hw1
  go_wp2_with fail
  refine (specCodes_any _).mono ?_
  rintro e w2 ⟨rfl, hw2⟩
  rw [← hC] at hw2
  clear hC
  have e1 : w2.cell? ⟨w.heap.size, n % 177, none⟩ = some (.string c) := by
    rw [hw2]
    exact (((Blk.new w 9 C).alloc _).cell _).trans hc
  have e2 : w2.cell? ⟨w.heap.size + 1, n % 177, none⟩ = some (.string c) := by
    rw [hw2]
    have hz : (w.alloc (.cells C 9)).heap.size = w.heap.size + 1 := by simp
    rw [← hz]
    exact ((Blk.new (w.alloc (.cells C 9)) 9 C).cell _).trans hc
  have hb : Below w.heap.size w w2 := by
    rw [hw2]
    exact ((Below.refl _ _).alloc (Nat.le_refl _) _).alloc (by simp) _
  have HB := Lib.hid hb
  clear hw2 hb hc
  go_wp2
  go_region
  go_wp2
  go_ret
  exact ⟨rfl, HB.out.drew⟩
end Go.Proofs.Ythdgpoimbijgfaa
