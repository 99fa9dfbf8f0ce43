/- Floats of 64 bits: what the statements need of reading, rounding, division by 1, products and bounds: plain laws. -/
import Derived.Laws.FloatArith
namespace Go.Proofs.YtfbdjffpnioinaaDoor
open Go Ieee

theorem dbl_sw : double.signWeight = 9223372036854775808 := rfl
theorem dbl_b : double.binade = 4503599627370496 := rfl
theorem dbl_inf : double.infRung = 9218868437227405312 := rfl
theorem dbl_l : double.leastPlace = -1074 := rfl

/-- A word of a rung below infinity, read: a number. -/
theorem read_norm (neg : Bool) (r : Nat) (h1 : 4503599627370496 ≤ r) (h2 : r < 9218868437227405312) :
    double.read (double.word neg r) = .number neg (4503599627370496 + r % 4503599627370496) (-1074 + ((r / 4503599627370496 - 1 : Nat) : Int)) := by
  unfold Format.read Format.word
  rw [dbl_sw, dbl_b, dbl_inf, dbl_l]
  cases neg with
  | false =>
    have e1 : r / 9223372036854775808 % 2 = 0 := by omega
    have e2 : r % 9223372036854775808 = r := by omega
    simp only [Bool.false_eq_true, if_false, e1, e2]
    rw [if_neg (by omega), if_pos h2]
    rfl
  | true =>
    have e1 : (9223372036854775808 + r) / 9223372036854775808 % 2 = 1 := by omega
    have e2 : (9223372036854775808 + r) % 9223372036854775808 = r := by omega
    simp only [if_true, e1, e2]
    rw [if_neg (by omega), if_pos h2]
    rfl
theorem read_low (neg : Bool) (r : Nat) (h : r < 4503599627370496) : double.read (double.word neg r) = .number neg r (-1074) := by
  unfold Format.read Format.word
  rw [dbl_sw, dbl_b, dbl_inf, dbl_l]
  cases neg with
  | false =>
    have e1 : r / 9223372036854775808 % 2 = 0 := by omega
    have e2 : r % 9223372036854775808 = r := by omega
    simp only [Bool.false_eq_true, if_false, e1, e2]
    rw [if_pos h]
    rfl
  | true =>
    have e1 : (9223372036854775808 + r) / 9223372036854775808 % 2 = 1 := by omega
    have e2 : (9223372036854775808 + r) % 9223372036854775808 = r := by omega
    simp only [if_true, e1, e2]
    rw [if_pos h]
    rfl
theorem read_fin (neg : Bool) (r : Nat) (h : r < 9218868437227405312) : ∃ m i, double.read (double.word neg r) = .number neg m i := by
  by_cases h1 : r < 4503599627370496
  · exact ⟨_, _, read_low neg r h1⟩
  · exact ⟨_, _, read_norm neg r (by omega) h⟩

/-- No more than one is added to what is kept. -/
theorem cut_le (way : Toward) (neg : Bool) (n drop : Nat) : way.cut neg n drop ≤ n / (1 <<< min drop (n.log2 + 2)) + 1 := by
  unfold Toward.cut
  dsimp only
  have : ∀ b : Bool, b.toNat ≤ 1 := by decide
  exact Nat.add_le_add_left (this _) _
theorem cut_ge (way : Toward) (neg : Bool) (n drop : Nat) : n / (1 <<< min drop (n.log2 + 2)) ≤ way.cut neg n drop := by
  unfold Toward.cut
  dsimp only
  exact Nat.le_add_right _ _
theorem cut_zero (way : Toward) (neg : Bool) (n : Nat) : way.cut neg n 0 = n := by
  unfold Toward.cut
  have h1 : 1 <<< min 0 (n.log2 + 2) = 1 := by rw [Nat.zero_min]; rfl
  simp only [h1, Nat.div_one, Nat.mod_one]
  cases way <;> simp
theorem cut_exact (neg : Bool) (m : Nat) (k : Nat) (hm : m ≠ 0) : Toward.even.cut neg (m * 2 ^ k) k = m := by
  have hl : k ≤ (m * 2 ^ k).log2 := by
    rw [Nat.le_log2 (by
      have : 0 < 2 ^ k := Nat.two_pow_pos k
      exact Nat.mul_ne_zero hm (by omega))]
    exact Nat.le_mul_of_pos_left _ (by omega)
  have hp : 0 < 2 ^ k := Nat.two_pow_pos k
  unfold Toward.cut
  have h1 : 1 <<< min k ((m * 2 ^ k).log2 + 2) = 2 ^ k := by rw [Nat.min_eq_left (by omega), Nat.one_shiftLeft]
  have h2 : m * 2 ^ k / 2 ^ k = m := Nat.mul_div_cancel _ hp
  have h3 : m * 2 ^ k % 2 ^ k = 0 := Nat.mul_mod_left _ _
  simp only [h1, h2, h3]
  have h4 : (2 ^ k == 2 * 0) = false := by rw [beq_eq_false_iff_ne]; omega
  rw [h4]
  simp

theorem nearest_eq (neg : Bool) (mag : Nat) (place last : Int) (h : mag ≠ 0) (hl : last = max (place + mag.log2 - 52) (-1074)) :
    double.nearest neg mag place = double.word neg (min ((last + 1074).toNat * 4503599627370496 + Toward.even.cut neg (mag <<< (place - last).toNat) (last - place).toNat) 9218868437227405312) := by
  unfold Format.nearest
  rw [if_neg h, dbl_b, dbl_inf, dbl_l]
  have hf : (double.fractionBits : Int) = 52 := rfl
  simp only [hf]
  rw [← hl]
  have e : last - -1074 = last + 1074 := by omega
  rw [e]
theorem pow_le' {a b : Nat} (h : a ≤ b) : 2 ^ a ≤ 2 ^ b := Nat.pow_le_pow_right (by omega) h
/-- At most 53 digits are kept. -/
theorem kept_le (neg : Bool) (mag : Nat) (place last : Int) (hl : place + mag.log2 - 52 ≤ last) :
    Toward.even.cut neg (mag <<< (place - last).toNat) (last - place).toNat ≤ 9007199254740992 := by
  have hlt : mag < 2 ^ (mag.log2 + 1) := Nat.lt_log2_self
  by_cases h : last ≤ place
  · rw [show (last - place).toNat = 0 by omega, cut_zero, Nat.shiftLeft_eq]
    have hk : mag.log2 + (place - last).toNat ≤ 52 := by omega
    generalize (place - last).toNat = k at *
    have h1 : mag * 2 ^ k ≤ 2 ^ (mag.log2 + 1) * 2 ^ k := Nat.mul_le_mul_right _ (by omega)
    rw [← Nat.pow_add] at h1
    have h2 : 2 ^ (mag.log2 + 1 + k) ≤ 2 ^ 53 := pow_le' (by omega)
    omega
  · rw [show (place - last).toNat = 0 by omega, Nat.shiftLeft_zero]
    have hd : mag.log2 ≤ 52 + (last - place).toNat := by omega
    generalize (last - place).toNat = d at *
    refine Nat.le_trans (cut_le _ _ _ _) ?_
    rw [Nat.one_shiftLeft]
    have h1 : mag / 2 ^ min d (mag.log2 + 2) < 2 ^ 53 := by
      rw [Nat.div_lt_iff_lt_mul (Nat.two_pow_pos _), ← Nat.pow_add]
      exact Nat.lt_of_lt_of_le hlt (pow_le' (by omega))
    omega
/-- A number in the normal range keeps 53 digits. -/
theorem kept_ge (neg : Bool) (mag : Nat) (place last : Int) (hm : mag ≠ 0) (hl : last = place + mag.log2 - 52) :
    4503599627370496 ≤ Toward.even.cut neg (mag <<< (place - last).toNat) (last - place).toNat := by
  have hge : 2 ^ mag.log2 ≤ mag := Nat.log2_self_le hm
  by_cases h : last ≤ place
  · rw [show (last - place).toNat = 0 by omega, cut_zero, Nat.shiftLeft_eq]
    have hk : mag.log2 + (place - last).toNat = 52 := by omega
    generalize (place - last).toNat = k at *
    have h1 : 2 ^ mag.log2 * 2 ^ k ≤ mag * 2 ^ k := Nat.mul_le_mul_right _ hge
    rw [← Nat.pow_add, hk] at h1
    omega
  · rw [show (place - last).toNat = 0 by omega, Nat.shiftLeft_zero]
    have hd : mag.log2 = 52 + (last - place).toNat := by omega
    generalize (last - place).toNat = d at *
    refine Nat.le_trans ?_ (cut_ge _ _ _ _)
    rw [Nat.one_shiftLeft, Nat.min_eq_left (by omega), Nat.le_div_iff_mul_le (Nat.two_pow_pos _)]
    have e : 4503599627370496 * 2 ^ d = 2 ^ mag.log2 := by rw [hd, Nat.pow_add]
    omega

/-- An int64 as a float: a normal word, or 0. -/
theorem int_word (a : Int) (h : a ≠ 0) (hb : a.natAbs ≤ 9223372036854775808) : ∃ r, floatOfInt .f64 a = double.word (decide (a < 0)) r ∧ 4503599627370496 ≤ r ∧ r < 9218868437227405312 := by
  have hm : a.natAbs ≠ 0 := by omega
  have hL : a.natAbs.log2 < 64 := (Nat.log2_lt hm).2 (by omega)
  have e : floatOfInt .f64 a = double.nearest (decide (a < 0)) a.natAbs 0 := rfl
  obtain ⟨last, hl⟩ : ∃ last : Int, last = max (0 + (a.natAbs.log2 : Int) - 52) (-1074) := ⟨_, rfl⟩
  have hl2 : last = 0 + (a.natAbs.log2 : Int) - 52 := by omega
  have h1 := kept_le (decide (a < 0)) a.natAbs 0 last (by omega)
  rw [e, nearest_eq _ _ _ last hm hl]
  refine ⟨_, rfl, ?_, ?_⟩ <;> omega

theorem quot_num (d : Nat) (s t : Bool) (m n : Nat) (i j : Int) (hn : n ≠ 0) : (Datum.number s m i).quotient d (.number t n j) =
    some (.number (s ^^ t) (2 * ((m <<< (d + n.log2 - m.log2)) / n) + ((m <<< (d + n.log2 - m.log2)) % n != 0).toNat) (i - j - ((d + n.log2 - m.log2 : Nat) : Int) - 1)) := by
  show (if n = 0 then _ else _) = _
  rw [if_neg hn]
theorem quot_some {x y : Nat} {s t : Bool} {m n : Nat} {i j : Int} (hx : double.read x = .number s m i) (hy : double.read y = .number t n j) (hn : n ≠ 0) : ∃ q, floatBits .quo .f64 x y = some q := by
  show ∃ q, double.div x y = some q
  unfold Format.div
  rw [hx, hy]
  rw [quot_num _ _ _ _ _ _ _ hn]
  exact ⟨_, rfl⟩
theorem mul_some {x y : Nat} {s t : Bool} {m n : Nat} {i j : Int} (hx : double.read x = .number s m i) (hy : double.read y = .number t n j) : floatBits .mul .f64 x y = some (double.write (.number (s ^^ t) (m * n) (i + j))) := by
  show double.mul x y = _
  unfold Format.mul
  rw [hx, hy]
  rfl

theorem read_one : double.read 4607182418800017408 = .number false 4503599627370496 (-52) := by decide +kernel
theorem log2_53 (m : Nat) (h1 : 4503599627370496 ≤ m) (h2 : m < 9007199254740992) : m.log2 = 52 := by
  have hm : m ≠ 0 := by omega
  have a : 52 ≤ m.log2 := (Nat.le_log2 hm).2 (by omega)
  have b : m.log2 < 53 := (Nat.log2_lt hm).2 (by omega)
  omega
/-- A number of the normal range divided by 1 is itself. -/
theorem div_one (neg : Bool) (r : Nat) (h1 : 4503599627370496 ≤ r) (h2 : r < 9218868437227405312) : floatBits .quo .f64 (double.word neg r) 4607182418800017408 = some (double.word neg r) := by
  show double.div _ _ = _
  unfold Format.div
  rw [read_norm neg r h1 h2, read_one]
  obtain ⟨m, hm⟩ : ∃ m, m = 4503599627370496 + r % 4503599627370496 := ⟨_, rfl⟩
  obtain ⟨i, hi⟩ : ∃ i : Int, i = -1074 + ((r / 4503599627370496 - 1 : Nat) : Int) := ⟨_, rfl⟩
  rw [← hm, ← hi]
  have hm1 : 4503599627370496 ≤ m := by omega
  have hm2 : m < 9007199254740992 := by omega
  have hlg := log2_53 m hm1 hm2
  have hlb := log2_53 4503599627370496 (by omega) (by omega)
  have hq : (Datum.number neg m i).quotient (double.fractionBits + 2) (.number false 4503599627370496 (-52)) = some (.number neg (m * 2 ^ 3) (i - 3)) := by
    rw [quot_num _ _ _ _ _ _ _ (by omega)]
    have hf : double.fractionBits + 2 + (4503599627370496 : Nat).log2 - m.log2 = 54 := by rw [hlg, hlb]; rfl
    simp only [hf, Nat.shiftLeft_eq]
    have e1 : m * 2 ^ 54 / 4503599627370496 = m * 4 := by omega
    have e2 : m * 2 ^ 54 % 4503599627370496 = 0 := by omega
    rw [e1, e2]
    have e3 : ((0 : Nat) != 0).toNat = 0 := rfl
    rw [e3, show 2 * (m * 4) + 0 = m * 2 ^ 3 by omega, show i - -52 - ((54 : Nat) : Int) - 1 = i - 3 by omega, Bool.xor_false]
  rw [hq]
  show some (double.nearest neg (m * 2 ^ 3) (i - 3)) = _
  have hm8 : m * 2 ^ 3 ≠ 0 := by omega
  have hl8 : (m * 2 ^ 3).log2 = 55 := by
    have a : 55 ≤ (m * 2 ^ 3).log2 := (Nat.le_log2 hm8).2 (by omega)
    have b : (m * 2 ^ 3).log2 < 56 := (Nat.log2_lt hm8).2 (by omega)
    omega
  rw [nearest_eq neg _ _ i hm8 (by rw [hl8]; omega)]
  rw [show (i - 3 - i).toNat = 0 by omega, Nat.shiftLeft_zero, show (i - (i - 3)).toNat = 3 by omega, cut_exact neg m 3 (by omega)]
  congr 2
  omega
end Go.Proofs.YtfbdjffpnioinaaDoor
