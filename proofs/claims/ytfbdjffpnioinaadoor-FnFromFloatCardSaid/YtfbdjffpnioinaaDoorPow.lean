/- Floats in the code: Float64bits, Float64frombits, Pow10, spec.Power. -/
import Derived.Test.YtfbdjffpnioinaaDoorFlt
import Derived.Test.YtfbdjffpnioinaaDoorMem
import Derived.Laws.Externs
import Derived.RegionTactic
import Derived.Deep.QuietTactic
import Derived.BigQuiet
import Derived.Outline
namespace Go.Proofs.YtfbdjffpnioinaaDoor
open Go.RowKit

theorem run_bits (b : Nat) (w : World) : (callFunc 15 #[.float .f64 b]).run Tryd.prog w = .ok (.value (.int .u64 b)) w := by
  rw [run_callFunc_extern Tryd.func15 (by kernel_rfl) (by kernel_rfl) (by kernel_rfl) (e := Extern.MathFloatBits.float64bits) (by kernel_rfl)]
  rfl
theorem run_frombits (n : Int) (w : World) : (callFunc 6 #[.int .u64 n]).run Tryd.prog w = .ok (.value (.float .f64 n.toNat)) w := by
  rw [run_callFunc_extern Tryd.func6 (by kernel_rfl) (by kernel_rfl) (by kernel_rfl) (e := Extern.MathFloatBits.float64frombits) (by kernel_rfl)]
  rfl

/-- The powers of ten up to the 18th, as floats. -/
def P10 : List Nat := [4607182418800017408, 4621819117588971520, 4636737291354636288, 4652007308841189376, 4666723172467343360, 4681608360884174848, 4696837146684686336, 4711630319722168320, 4726483295884279808, 4741671816366391296, 4756540486875873280, 4771362005757984768, 4786511204640096256, 4801453603149578240, 4816244402031689728, 4831355200913801216, 4846369599423283200, 4861130398305394688, 4876203697187506176]
def p10 (n : Nat) : Nat := P10.getD n 0
theorem p10_all : ∀ k : Fin 19, floatOfInt .f64 (10 ^ k.val) = p10 k.val ∧ floatBits .mul .f64 4607182418800017408 (p10 k.val) = some (p10 k.val) ∧ (match Ieee.double.read (p10 k.val) with | .number false n _ => n != 0 | _ => false) = true := by decide +kernel
theorem p10_int (n : Nat) (hn : n ≤ 18) : floatOfInt .f64 ((10 ^ n : Nat) : Int) = p10 n := by
  have h := (p10_all ⟨n, by omega⟩).1
  have e : ((10 ^ n : Nat) : Int) = (10 : Int) ^ n := by rw [Int.natCast_pow]; rfl
  rw [e]; exact h
theorem p10_mul (n : Nat) (hn : n ≤ 18) : floatBits .mul .f64 4607182418800017408 (p10 n) = some (p10 n) := (p10_all ⟨n, by omega⟩).2.1
theorem p10_read (n : Nat) (hn : n ≤ 18) : ∃ m j, Ieee.double.read (p10 n) = .number false m j ∧ m ≠ 0 := by
  have h := (p10_all ⟨n, by omega⟩).2.2
  simp only at h
  split at h
  · rename_i m j he
    exact ⟨m, j, he, by simpa using h⟩
  · cases h

/-- The tables of powers hold what they should, as far as they are read. -/
def PowAt (w : World) : Prop := w.cell? ⟨1, 0, none⟩ = some (.float .f64 4607182418800017408) ∧ ∀ n, n ≤ 18 → w.cell? ⟨2, n, none⟩ = some (.float .f64 (p10 n))
theorem PowAt.below {w w' : World} (h : PowAt w) (hb : Below w.heap.size w w') : PowAt w' :=
  ⟨by rw [hb.cell (cell_lt h.1)]; exact h.1, fun n hn => by rw [hb.cell (cell_lt (h.2 n hn))]; exact h.2 n hn⟩

set_option maxRecDepth 100000 in
set_option maxHeartbeats 1000000 in
theorem pow10_any (n : Nat) (w : World) (hn : n ≤ 18) (hT : PowAt w) :
    Calls Tryd.prog 20 #[.int .i64 n] w fun e w' => e = .returned (.float .f64 (p10 n)) ∧ Below w.heap.size w w' := by
  have e1 := hT.1
  have e2 := hT.2 n hn
  have hop : ∀ t w, (binOp .mul t (.float .f64 4607182418800017408) (.float .f64 (p10 n))).run Tryd.prog w = .ok (.float .f64 (p10 n)) w := fun t w => run_float_arith w .mul t .f64 _ _ _ (p10_mul n hn)
  have h1 : (n : Int) / 32 = 0 := by omega
  have h2 : (n : Int) % 32 = n := by omega
  clear hT
  go_enter Tryd.func20, Tryd.ntmps20
  go_wp2
  go_quiet (fail)
  go_wp2
  go_ret
  exact ⟨rfl, below_drewN (Below.refl _ _) _⟩

theorem pow_bound (k : Nat) (h : k ≤ 17) : 10 ^ k ≤ 100000000000000000 := by
  have := Nat.pow_le_pow_right (n := 10) (by omega) h
  omega
set_option maxHeartbeats 1000000 in
theorem power_any (n : Nat) (z : Int) (w : World) (hn : n ≤ 18) (hz : z = ((10 ^ n : Nat) : Int)) :
    Calls Tryd.prog 9 #[.int .i64 n] w fun e w' => e = .returned (.int .i64 z) ∧ w = w' := by
  have HZ := Lib.hid hz
  clear hz
  go_enter Tryd.func9, Tryd.ntmps9
  go_wp2_with fail
  go_loop [3, 5] (fun pv iv => ∃ k p : Nat, k ≤ n ∧ iv = .int .i64 k ∧ pv = .int .i64 p ∧ Hid (p = 10 ^ k)) (fun _ iv => n - (intOf iv).toNat)
  case atStart => exact ⟨0, 1, Nat.zero_le _, rfl, rfl, rfl⟩
  case round =>
    obtain ⟨k, p, hk, rfl, rfl, HP⟩ := hrel
    by_cases hlt : k < n
    · have hp : p ≤ 100000000000000000 := by rw [HP.out]; exact pow_bound k (by omega)
      have HP2 := Lib.hid (show p * 10 = 10 ^ (k + 1) by rw [HP.out, Nat.pow_succ])
      go_wp2_with fail
      exact ⟨⟨k + 1, p * 10, by omega, by go_num, by go_num, HP2⟩, by simp [intOf]; omega⟩
    · obtain rfl : k = n := by omega
      have HV := Lib.hid (show (p : Int) = z by rw [HZ.out, HP.out])
      go_wp2_with fail
      go_ret
      exact ⟨ret_int HV.out, rfl⟩
end Go.Proofs.YtfbdjffpnioinaaDoor
