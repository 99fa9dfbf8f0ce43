/- What is allocated by ratios, in plain numbers. -/
import Derived.Test.YteejhpoddpcahaaDoorSpSplit
namespace Go.Proofs.YteejhpoddpcahaaDoor

theorem floor_sum (A S : Nat) (hS : 0 < S) (rs : List Nat) : (rs.map fun r => A * r / S).sum * S ≤ A * rs.sum ∧ A * rs.sum ≤ ((rs.map fun r => A * r / S).sum + rs.length) * S ∧ (0 < rs.length → A * rs.sum < ((rs.map fun r => A * r / S).sum + rs.length) * S) := by
  induction rs with
  | nil => simp
  | cons r rs ih =>
    obtain ⟨h1, h2, _⟩ := ih
    have h3 : A * r / S * S ≤ A * r := Nat.div_mul_le_self _ _
    have h4 : A * r < (A * r / S + 1) * S := by
      have := Nat.div_add_mod (A * r) S
      have := Nat.mod_lt (A * r) hS
      rw [Nat.add_mul, Nat.one_mul, Nat.mul_comm (A * r / S) S]; omega
    simp only [List.map_cons, List.sum_cons, List.length_cons, Nat.mul_add]
    generalize A * r / S = q at *
    generalize (rs.map fun r => A * r / S).sum = T at *
    generalize A * r = x at *
    generalize A * rs.sum = y at *
    have e1 : (q + T) * S = q * S + T * S := Nat.add_mul _ _ _
    have e2 : (q + T + (rs.length + 1)) * S = (q + 1) * S + (T + rs.length) * S := by
      rw [← Nat.add_mul]; congr 1; omega
    rw [e1, e2]
    exact ⟨by omega, by omega, fun _ => by omega⟩

/-- Of all of A, cut down part by part, less than one each is left over. -/
theorem left_lt (A : Nat) (rs : List Nat) (hS : 0 < rs.sum) (hn : 0 < rs.length) : (rs.map fun r => A * r / rs.sum).sum ≤ A ∧ A < (rs.map fun r => A * r / rs.sum).sum + rs.length := by
  obtain ⟨h1, _, h3⟩ := floor_sum A rs.sum hS rs
  exact ⟨Nat.le_of_mul_le_mul_right h1 hS, Nat.lt_of_mul_lt_mul_right (h3 hn)⟩

/-- The parts before what is left over is given away. -/
def qL (a : Int) (rs : List Int) : List Int := rs.map fun r => (a * r).tdiv rs.sum
theorem qL_length (a : Int) (rs : List Int) : (qL a rs).length = rs.length := by simp [qL]
def loI (a : Int) (rs : List Int) : Int := a - (qL a rs).sum

theorem nat_list (rs : List Int) (h : ∀ r ∈ rs, 0 ≤ r) : ∃ ns : List Nat, rs = ns.map fun n : Nat => (n : Int) := by
  induction rs with
  | nil => exact ⟨[], rfl⟩
  | cons r rs ih =>
    obtain ⟨ns, hns⟩ := ih fun x hx => h x (List.mem_cons_of_mem _ hx)
    have := h r (List.mem_cons_self ..)
    exact ⟨r.toNat :: ns, by rw [List.map_cons, ← hns]; congr 1; omega⟩
theorem sum_cast (ns : List Nat) : (ns.map fun n : Nat => (n : Int)).sum = (ns.sum : Int) := by
  induction ns with
  | nil => rfl
  | cons n ns ih => rw [List.map_cons, List.sum_cons, ih, List.sum_cons]; omega
theorem sum_neg (l : List Int) : (l.map fun x => -x).sum = -l.sum := by
  induction l with
  | nil => rfl
  | cons n ns ih => rw [List.map_cons, List.sum_cons, ih, List.sum_cons]; omega
theorem tdiv_cast (A n S : Nat) : ((A : Int) * (n : Int)).tdiv (S : Int) = ((A * n / S : Nat) : Int) := by
  rw [← Int.natCast_mul]; rfl

theorem qL_nat (A : Nat) (ns : List Nat) : qL (A : Int) (ns.map fun n : Nat => (n : Int)) = (ns.map fun n => A * n / ns.sum).map fun n : Nat => (n : Int) := by
  unfold qL
  rw [sum_cast, List.map_map, List.map_map]
  apply List.map_congr_left
  intro n _
  exact tdiv_cast A n ns.sum
theorem qL_neg (a : Int) (rs : List Int) : qL (-a) rs = (qL a rs).map fun x => -x := by
  unfold qL
  rw [List.map_map]
  apply List.map_congr_left
  intro n _
  simp only [Function.comp]
  rw [Int.neg_mul, Int.neg_tdiv]

/-- What is left over has a's sign and is less than the number of parts. -/
theorem loI_bounds (a : Int) (rs : List Int) (h : ∀ r ∈ rs, 0 ≤ r) (hS : 0 < rs.sum) : (loI a rs).natAbs < rs.length ∧ (a < 0 → loI a rs ≤ 0) ∧ (0 ≤ a → 0 ≤ loI a rs) := by
  obtain ⟨ns, rfl⟩ := nat_list rs h
  rw [sum_cast] at hS
  have hn : 0 < ns.length := by
    cases ns with
    | nil => simp at hS
    | cons => simp
  rw [List.length_map]
  by_cases ha : a < 0
  · obtain ⟨A, rfl⟩ : ∃ A : Nat, a = -(A : Int) := ⟨a.natAbs, by omega⟩
    have hb := left_lt A ns (by omega) hn
    have e : loI (-(A : Int)) (ns.map fun n : Nat => (n : Int)) = -(A : Int) + (((ns.map fun n => A * n / ns.sum).sum : Nat) : Int) := by
      unfold loI
      rw [qL_neg, sum_neg, qL_nat, sum_cast]; omega
    rw [e]
    generalize (ns.map fun n => A * n / ns.sum).sum = T at *
    omega
  · obtain ⟨A, rfl⟩ : ∃ A : Nat, a = (A : Int) := ⟨a.natAbs, by omega⟩
    have hb := left_lt A ns (by omega) hn
    have e : loI (A : Int) (ns.map fun n : Nat => (n : Int)) = (A : Int) - (((ns.map fun n => A * n / ns.sum).sum : Nat) : Int) := by
      unfold loI
      rw [qL_nat, sum_cast]
    rw [e]
    generalize (ns.map fun n => A * n / ns.sum).sum = T at *
    omega

theorem sum_nonneg (rs : List Int) (h : ∀ r ∈ rs, 0 ≤ r) : 0 ≤ rs.sum := by
  induction rs with
  | nil => simp
  | cons r rs ih =>
    rw [List.sum_cons]
    have := h r (List.mem_cons_self ..)
    have := ih fun x hx => h x (List.mem_cons_of_mem _ hx)
    omega
theorem le_sum (rs : List Int) (h : ∀ r ∈ rs, 0 ≤ r) (r : Int) (hr : r ∈ rs) : r ≤ rs.sum := by
  induction rs with
  | nil => cases hr
  | cons x rs ih =>
    rw [List.sum_cons]
    have h1 := h x (List.mem_cons_self ..)
    have h2 := sum_nonneg rs fun y hy => h y (List.mem_cons_of_mem _ hy)
    rcases List.mem_cons.1 hr with rfl | hr
    · omega
    · have := ih (fun y hy => h y (List.mem_cons_of_mem _ hy)) hr
      omega
theorem tdiv_abs (a r S : Int) (h0 : 0 ≤ r) (h1 : r ≤ S) : ((a * r).tdiv S).natAbs ≤ a.natAbs := by
  rw [Int.natAbs_tdiv, Int.natAbs_mul]
  change (a.natAbs * r.natAbs) / S.natAbs ≤ a.natAbs
  have hrs : r.natAbs ≤ S.natAbs := by omega
  by_cases hS : S.natAbs = 0
  · rw [hS, Nat.div_zero]; omega
  · exact Nat.div_le_of_le_mul (by rw [Nat.mul_comm S.natAbs]; exact Nat.mul_le_mul_left _ hrs)
theorem sum_take_succ (l : List Int) (k : Nat) (h : k < l.length) : (l.take (k + 1)).sum = (l.take k).sum + l[k] := by
  rw [List.take_succ_eq_append_getElem h, List.sum_append]; simp
theorem take_sum_bound (l : List Int) (B : Nat) (h : ∀ x ∈ l, x.natAbs ≤ B) (k : Nat) (hk : k ≤ l.length) : ((l.take k).sum).natAbs ≤ k * B := by
  induction k with
  | zero => simp
  | succ k ih =>
    rw [sum_take_succ l k (by omega), Nat.add_mul, Nat.one_mul]
    have := ih (by omega)
    have := h l[k] (List.getElem_mem (by omega))
    omega
theorem qL_bound (a : Int) (rs : List Int) (h : ∀ r ∈ rs, 0 ≤ r) : ∀ x ∈ qL a rs, x.natAbs ≤ a.natAbs := by
  intro x hx
  obtain ⟨r, hr, rfl⟩ := List.mem_map.1 hx
  exact tdiv_abs a r _ (h r hr) (le_sum rs h r hr)
theorem mul_bound (a r : Int) (ha : a.natAbs ≤ 1000000000000000) (h0 : 0 ≤ r) (h1 : r ≤ 1000) : -1000000000000000000 ≤ a * r ∧ a * r ≤ 1000000000000000000 := by
  have h : (a * r).natAbs ≤ 1000000000000000 * 1000 := by
    rw [Int.natAbs_mul]
    exact Nat.mul_le_mul ha (by omega)
  omega
theorem sum_le (rs : List Int) (h : ∀ r ∈ rs, r ≤ 1000) : rs.sum ≤ 1000 * rs.length := by
  induction rs with
  | nil => simp
  | cons r rs ih =>
    rw [List.sum_cons, List.length_cons]
    have := h r (List.mem_cons_self ..)
    have := ih fun x hx => h x (List.mem_cons_of_mem _ hx)
    omega
end Go.Proofs.YteejhpoddpcahaaDoor
