/- Floats of 64 bits that are at most 10^12 in size, times a power of ten of at most 10^4: the product and its whole part are in bounds. -/
import Derived.Test.YtfbdjffpnioinaaDoorPow
namespace Go.Proofs.YtfbdjffpnioinaaDoor
open Go Ieee

theorem cmp_le {a b : Int} (h : compare a b = .lt ∨ compare a b = .eq) : a ≤ b := by
  have e : compare a b = compareOfLessAndEq a b := rfl
  rw [e] at h
  unfold compareOfLessAndEq at h
  split at h
  · omega
  · split at h
    · omega
    · simp at h
theorem cmp_ge {a b : Int} (h : compare a b = .gt ∨ compare a b = .eq) : b ≤ a := by
  have e : compare a b = compareOfLessAndEq a b := rfl
  rw [e] at h
  unfold compareOfLessAndEq at h
  split at h
  · simp at h
  · omega
theorem cmp_lt {a b : Int} (h : a < b) : compare a b = .lt := by
  have e : compare a b = compareOfLessAndEq a b := rfl
  rw [e]
  unfold compareOfLessAndEq
  rw [if_pos h]

theorem read_pos : double.read 4786511204640096256 = .number false 8192000000000000 (-13) := by decide +kernel
theorem read_neg : double.read 14009883241494872064 = .number true 8192000000000000 (-13) := by decide +kernel
theorem read_62 : double.read 4886405595696988160 = .number false 4503599627370496 10 := by decide +kernel
theorem p4_all : ∀ k : Fin 5, (match double.read (p10 k.val) with | .number false n j => decide (n ≠ 0) && decide (j + n.log2 ≤ 13) | _ => false) = true := by decide +kernel
theorem p4_read (f : Nat) (hf : f ≤ 4) : ∃ n j, double.read (p10 f) = .number false n j ∧ n ≠ 0 ∧ j + n.log2 ≤ 13 := by
  have h := p4_all ⟨f, by omega⟩
  simp only at h
  split at h
  · rename_i n j he
    simp only [Bool.and_eq_true, decide_eq_true_eq] at h
    exact ⟨n, j, he, h.1, h.2⟩
  · cases h

/-- At least -10^12 and at most 10^12. -/
def geB (b : Nat) : Bool := double.order b 14009883241494872064 == some .gt || double.order b 14009883241494872064 == some .eq
def leB (b : Nat) : Bool := double.order b 4786511204640096256 == some .lt || double.order b 4786511204640096256 == some .eq

theorem log_of {L k : Nat} {m M : Nat} (h0 : m ≠ 0) (hL : L = m.log2) (h : m ≤ M * 2 ^ k) (hM : M < 2 ^ 53) : L < 53 + k := by
  have h1 : 2 ^ L ≤ m := by rw [hL]; exact Nat.log2_self_le h0
  have h2 : M * 2 ^ k < 2 ^ 53 * 2 ^ k := Nat.mul_lt_mul_of_pos_right hM (Nat.two_pow_pos k)
  rw [← Nat.pow_add] at h2
  exact (Nat.pow_lt_pow_iff_right (by omega)).1 (Nat.lt_of_le_of_lt h1 (Nat.lt_of_le_of_lt h h2))
theorem log_of2 {L k : Nat} {m M : Nat} (h0 : m ≠ 0) (hL : L = m.log2) (h : m * 2 ^ k ≤ M) (hM : M < 2 ^ 53) : L + k < 53 := by
  have h1 : 2 ^ L ≤ m := by rw [hL]; exact Nat.log2_self_le h0
  have h2 : 2 ^ L * 2 ^ k ≤ m * 2 ^ k := Nat.mul_le_mul_right _ h1
  rw [← Nat.pow_add] at h2
  exact (Nat.pow_lt_pow_iff_right (by omega)).1 (Nat.lt_of_le_of_lt h2 (Nat.lt_of_le_of_lt h hM))

/-- What lies between is a number; its first digit stands at place 39 at most. -/
theorem in_num (b : Nat) (h1 : geB b = true) (h2 : leB b = true) : ∃ s m i, double.read b = .number s m i ∧ (m ≠ 0 → i + m.log2 ≤ 39) := by
  unfold geB Format.order at h1
  unfold leB Format.order at h2
  rw [read_neg] at h1
  rw [read_pos] at h2
  cases hr : double.read b with
  | nan s t => rw [hr] at h1; simp [Datum.order] at h1
  | infinity s =>
    rw [hr] at h1 h2
    cases s
    · simp [Datum.order] at h2
    · simp [Datum.order] at h1
  | number s m i =>
    rw [hr] at h1 h2
    refine ⟨s, m, i, rfl, fun hm => ?_⟩
    have a1 : compare (signed s m (i - min i (-13)).toNat) (signed true 8192000000000000 (-13 - min i (-13)).toNat) = .gt ∨ compare (signed s m (i - min i (-13)).toNat) (signed true 8192000000000000 (-13 - min i (-13)).toNat) = .eq := by
      simpa [Datum.order] using h1
    have a2 : compare (signed s m (i - min i (-13)).toNat) (signed false 8192000000000000 (-13 - min i (-13)).toNat) = .lt ∨ compare (signed s m (i - min i (-13)).toNat) (signed false 8192000000000000 (-13 - min i (-13)).toNat) = .eq := by
      simpa [Datum.order] using h2
    have c1 := cmp_ge a1
    have c2 := cmp_le a2
    have hle : m <<< (i - min i (-13)).toNat ≤ 8192000000000000 <<< (-13 - min i (-13)).toNat := by
      unfold signed at c1 c2
      simp only [if_true, Bool.false_eq_true, if_false] at c1 c2
      cases s
      · simp only [Bool.false_eq_true, if_false] at c2; omega
      · simp only [if_true] at c1; omega
    rw [Nat.shiftLeft_eq, Nat.shiftLeft_eq] at hle
    by_cases hi : i ≤ -13
    · rw [Int.min_eq_left hi, Int.sub_self] at hle
      have h3 := log_of (L := m.log2) (k := (-13 - i).toNat) hm rfl (by simpa using hle) (by decide)
      omega
    · rw [Int.min_eq_right (by omega), Int.sub_self] at hle
      have h3 := log_of2 (L := m.log2) (k := (i - -13).toNat) hm rfl (by simpa using hle) (by decide)
      omega

theorem nearest_low (neg : Bool) (mag : Nat) (place : Int) (h : mag ≠ 0 → place + mag.log2 ≤ 53) : ∃ r, double.nearest neg mag place = double.word neg r ∧ r ≤ 4850376798678024192 := by
  by_cases h0 : mag = 0
  · refine ⟨0, ?_, by omega⟩
    unfold Format.nearest
    rw [if_pos h0]
  · have hp := h h0
    obtain ⟨last, hl⟩ : ∃ last : Int, last = max (place + (mag.log2 : Int) - 52) (-1074) := ⟨_, rfl⟩
    have h1 := kept_le neg mag place last (by omega)
    rw [nearest_eq _ _ _ last h0 hl]
    exact ⟨_, rfl, by omega⟩
theorem log_mul (m n : Nat) (hm : m ≠ 0) (hn : n ≠ 0) : (m * n).log2 ≤ m.log2 + n.log2 + 1 := by
  have h1 : m < 2 ^ (m.log2 + 1) := Nat.lt_log2_self
  have h2 : n < 2 ^ (n.log2 + 1) := Nat.lt_log2_self
  have h3 : m * n < 2 ^ (m.log2 + 1) * 2 ^ (n.log2 + 1) := Nat.mul_lt_mul'' h1 h2
  rw [← Nat.pow_add] at h3
  have := (Nat.log2_lt (Nat.mul_ne_zero hm hn)).2 h3
  omega
theorem mul_low (b f : Nat) (hf : f ≤ 4) {s : Bool} {m : Nat} {i : Int} (hr : double.read b = .number s m i) (hl : m ≠ 0 → i + m.log2 ≤ 39) :
    ∃ r, floatBits .mul .f64 b (p10 f) = some (double.word s r) ∧ r ≤ 4850376798678024192 := by
  obtain ⟨n, j, hp, hn, hj⟩ := p4_read f hf
  have e := mul_some hr hp
  rw [Bool.xor_false] at e
  obtain ⟨r, h1, h2⟩ := nearest_low s (m * n) (i + j) (fun h => by
    have hm : m ≠ 0 := fun h0 => h (by rw [h0, Nat.zero_mul])
    have := log_mul m n hm hn
    have := hl hm
    omega)
  have h3 : double.write (.number s (m * n) (i + j)) = double.word s r := h1
  rw [h3] at e
  exact ⟨r, e, h2⟩

theorem read_abs (b : Nat) {s : Bool} {m : Nat} {i : Int} (hr : double.read b = .number s m i) : double.read (b % 9223372036854775808) = .number false m i := by
  unfold Format.read at hr ⊢
  rw [dbl_sw, dbl_b, dbl_inf, dbl_l] at hr ⊢
  dsimp only at hr ⊢
  have e1 : b % 9223372036854775808 / 9223372036854775808 % 2 = 0 := by omega
  have e2 : b % 9223372036854775808 % 9223372036854775808 = b % 9223372036854775808 := by omega
  rw [e1, e2]
  generalize b % 9223372036854775808 = r at *
  by_cases h1 : r < 4503599627370496
  · rw [if_pos h1] at hr ⊢
    injection hr with _ h2 h3
    rw [h2, h3]; rfl
  · rw [if_neg h1] at hr ⊢
    by_cases h2 : r < 9218868437227405312
    · rw [if_pos h2] at hr ⊢
      injection hr with _ h3 h4
      rw [h3, h4]; rfl
    · rw [if_neg h2] at hr
      split at hr <;> cases hr

theorem word_read (neg : Bool) (r : Nat) (h : r ≤ 4850376798678024192) : ∃ m i, double.read (double.word neg r) = .number neg m i ∧ m < 9007199254740992 ∧ i ≤ 2 := by
  by_cases h1 : r < 4503599627370496
  · exact ⟨_, _, read_low neg r h1, by omega, by omega⟩
  · exact ⟨_, _, read_norm neg r (by omega) (by omega), by omega, by omega⟩
/-- Below 2^62. -/
theorem order_62 (r : Nat) (h : r ≤ 4850376798678024192) : double.order (double.word false r) 4886405595696988160 = some .lt := by
  obtain ⟨m, i, hr, hm, hi⟩ := word_read false r h
  unfold Format.order
  rw [hr, read_62]
  show some (compare (signed false m (i - min i 10).toNat) (signed false 4503599627370496 (10 - min i 10).toNat)) = _
  congr 1
  apply cmp_lt
  rw [Int.min_eq_left (by omega), Int.sub_self]
  unfold signed
  simp only [Bool.false_eq_true, if_false, Nat.shiftLeft_eq]
  have h8 : 2 ^ 8 ≤ 2 ^ (10 - i).toNat := pow_le' (by omega)
  have h9 : 4503599627370496 * 2 ^ 8 ≤ 4503599627370496 * 2 ^ (10 - i).toNat := Nat.mul_le_mul_left _ h8
  simp only [Int.toNat_zero, Nat.pow_zero, Nat.mul_one]
  omega
theorem toInt_low (neg : Bool) (r : Nat) (h : r ≤ 4850376798678024192) : ∃ n : Int, floatToIntVal .f64 (double.word neg r) .i64 = some n ∧ -9223372036854775808 ≤ n ∧ n ≤ 9223372036854775807 := by
  obtain ⟨m, i, hr, hm, hi⟩ := word_read neg r h
  obtain ⟨c, hc⟩ : ∃ c, c = Toward.zero.cut neg (m <<< i.toNat) (-i).toNat := ⟨_, rfl⟩
  have hcb : c ≤ 36028797018963969 := by
    rw [hc]
    refine Nat.le_trans (cut_le _ _ _ _) ?_
    have h1 : m <<< i.toNat ≤ 36028797018963968 := by
      rw [Nat.shiftLeft_eq]
      have h4 : 2 ^ i.toNat ≤ 2 ^ 2 := pow_le' (by omega)
      have h5 : m * 2 ^ i.toNat ≤ 9007199254740992 * 2 ^ 2 := Nat.mul_le_mul (by omega) h4
      omega
    have h2 := Nat.div_le_self (m <<< i.toNat) (1 <<< min (-i).toNat ((m <<< i.toNat).log2 + 2))
    omega
  have e : (FloatKind.f64.decode (double.word neg r)).toInt .zero = some (signed neg c 0) := by
    show (double.read (double.word neg r)).toInt .zero = _
    rw [hr, hc]
    rfl
  refine ⟨signed neg c 0, ?_, ?_, ?_⟩
  · unfold floatToIntVal
    rw [e]
    simp only
    rw [if_pos]
    have d1 : IntKind.i64.min = -9223372036854775808 := rfl
    have d2 : IntKind.i64.max = 9223372036854775807 := rfl
    rw [d1, d2]
    unfold signed
    rw [Nat.shiftLeft_zero]
    split <;> omega
  · unfold signed
    rw [Nat.shiftLeft_zero]
    split <;> omega
  · unfold signed
    rw [Nat.shiftLeft_zero]
    split <;> omega

/-- So many major units: the product, its size, and its whole part. -/
theorem from_float (b f : Nat) (hf : f ≤ 4) (h1 : geB b = true) (h2 : leB b = true) :
    ∃ (q qa : Nat) (n : Int), floatBits .mul .f64 b (p10 f) = some q ∧ floatBits .mul .f64 (b % 9223372036854775808) (p10 f) = some qa ∧ double.order qa 4886405595696988160 = some .lt ∧ floatToIntVal .f64 q .i64 = some n ∧ -9223372036854775808 ≤ n ∧ n ≤ 9223372036854775807 := by
  obtain ⟨s, m, i, hr, hl⟩ := in_num b h1 h2
  obtain ⟨r, e1, hb1⟩ := mul_low b f hf hr hl
  obtain ⟨ra, e2, hb2⟩ := mul_low _ f hf (read_abs b hr) hl
  obtain ⟨n, e3, l1, l2⟩ := toInt_low s r hb1
  exact ⟨_, _, n, e1, e2, order_62 ra hb2, e3, l1, l2⟩
end Go.Proofs.YtfbdjffpnioinaaDoor
