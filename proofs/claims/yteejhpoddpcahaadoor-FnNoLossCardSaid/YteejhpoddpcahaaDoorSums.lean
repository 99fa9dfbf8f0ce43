/- Sums of parts: what is split or allocated is lost nowhere; equal ratios split evenly. -/
import Derived.Test.YteejhpoddpcahaaDoorSpAlloc
namespace Go.Proofs.YteejhpoddpcahaaDoor
open Go.RowKit

theorem intsF_congr {f g : Nat → Int} {n : Nat} (h : ∀ i, i < n → f i = g i) : intsF f n = intsF g n := by
  unfold intsF
  exact List.map_congr_left fun i hi => h i (List.mem_range.1 hi)
theorem succ_mul' (n : Nat) (s : Int) : ((n + 1 : Nat) : Int) * s = (n : Int) * s + s := by
  rw [Int.natCast_add, Int.add_mul]; simp
theorem sum_bump (f : Nat → Int) (R : Nat) (s : Int) : ∀ n, (intsF (fun i => if i < R then f i + s else f i) n).sum = (intsF f n).sum + ((min R n : Nat) : Int) * s
  | 0 => by simp [intsF]
  | n + 1 => by
    have ih := sum_bump f R s n
    rw [intsF_succ, intsF_succ, List.sum_append, List.sum_append, ih]
    simp only [List.sum_cons, List.sum_nil]
    by_cases h : n < R
    · rw [if_pos h, Nat.min_eq_right (show n ≤ R by omega), Nat.min_eq_right (show n + 1 ≤ R by omega), succ_mul']
      generalize (n : Int) * s = z
      omega
    · rw [if_neg h, Nat.min_eq_left (show R ≤ n by omega), Nat.min_eq_left (show R ≤ n + 1 by omega)]
      generalize (R : Int) * s = z
      omega
theorem intsF_const (q : Int) : ∀ n, (intsF (fun _ => q) n).sum = (n : Int) * q
  | 0 => by simp [intsF]
  | n + 1 => by
    rw [intsF_succ, List.sum_append, intsF_const q n, succ_mul']
    simp
theorem sgn_split (a : Int) (n : Nat) : (splitR a n : Int) * sgn a = a.tmod n := by
  rw [leftF_zero]
  unfold leftF sgn
  by_cases h : a < 0
  · rw [if_pos h, if_pos h]; omega
  · rw [if_neg h, if_neg h]; omega
theorem tdiv_le (a : Int) (n : Nat) : (a.tdiv n).natAbs ≤ a.natAbs := by
  rw [Int.natAbs_tdiv]; exact Nat.div_le_self _ _
theorem wrap_sgn (a q : Int) (h : q.natAbs ≤ 1000000000000000) : wrap64 (q + sgn a) = q + sgn a := by
  unfold wrap64 sgn; split <;> omega
theorem split_sum (a : Int) (n : Nat) (hn : 0 < n) (ha : a.natAbs ≤ 1000000000000000) : (intsF (splitF a n) n).sum = a := by
  have hq := tdiv_le a n
  have hw : ∀ i, i < n → splitF a n i = (fun i => if i < splitR a n then (fun _ => a.tdiv n) i + sgn a else (fun _ => a.tdiv n) i) i := by
    intro i _
    unfold splitF splitQ
    rw [wrap_sgn a _ (by omega)]
  rw [intsF_congr hw, sum_bump, intsF_const, Nat.min_eq_left (Nat.le_of_lt (splitR_lt a n hn)), sgn_split]
  exact Int.mul_tdiv_add_tmod a n
theorem intsF_getD (l : List Int) : intsF (fun i => l.getD i 0) l.length = l := by
  apply List.ext_getElem?
  intro i
  by_cases hi : i < l.length
  · simp [intsF, hi, List.getD]
  · rw [List.getElem?_eq_none (by simp [intsF]; omega), List.getElem?_eq_none (by omega)]
theorem allocF_eq (a : Int) (rs : List Int) (hr : ∀ r ∈ rs, 0 ≤ r) (ha : a.natAbs ≤ 1000000000000000) (i : Nat) (hi : i < rs.length) :
    allocF a rs i = if i < allocR a rs then (qL a rs).getD i 0 + sgn a else (qL a rs).getD i 0 := by
  have hb : ((qL a rs).getD i 0).natAbs ≤ 1000000000000000 := by
    have h1 := qL_bound a rs hr ((qL a rs)[i]'(by rw [qL_length]; exact hi)) (List.getElem_mem _)
    have e : (qL a rs).getD i 0 = (qL a rs)[i]'(by rw [qL_length]; exact hi) := by
      rw [List.getD, List.getElem?_eq_getElem (by rw [qL_length]; exact hi)]; rfl
    rw [e]; omega
  unfold allocF allocTo
  rw [wrap_sgn a _ hb]
theorem alloc_sum (a : Int) (rs : List Int) (hr : ∀ r ∈ rs, 0 ≤ r) (hS : 0 < rs.sum) (ha : a.natAbs ≤ 1000000000000000) : (intsF (allocF a rs) rs.length).sum = a := by
  have hw : ∀ i, i < rs.length → allocF a rs i = (fun i => if i < allocR a rs then (fun i => (qL a rs).getD i 0) i + sgn a else (fun i => (qL a rs).getD i 0) i) i := fun i hi => allocF_eq a rs hr ha i hi
  have hl := loI_bounds a rs hr hS
  have hR : allocR a rs = (loI a rs).natAbs := by unfold allocR; rw [if_neg (by omega)]
  rw [intsF_congr hw, sum_bump, Nat.min_eq_left (by omega)]
  have e := intsF_getD (qL a rs)
  rw [qL_length] at e
  rw [e, hR]
  have hd : loI a rs = a - (qL a rs).sum := rfl
  generalize loI a rs = lo at *
  generalize (qL a rs).sum = S at *
  unfold sgn
  by_cases h : a < 0
  · rw [if_pos h]; have := hl.2.1 h; omega
  · rw [if_neg h]; have := hl.2.2 (by omega); omega

theorem sum_rep (r : Int) : ∀ k : Nat, (List.replicate k r).sum = (k : Int) * r
  | 0 => by simp
  | k + 1 => by
    rw [List.replicate_succ, List.sum_cons, sum_rep r k, succ_mul']
    omega
theorem qL_rep (a r : Int) (k : Nat) (hr : 0 < r) : qL a (List.replicate k r) = List.replicate k (a.tdiv k) := by
  unfold qL
  rw [List.map_replicate, sum_rep, Int.mul_tdiv_mul_of_pos_left _ _ hr]
theorem alloc_even (a r : Int) (k : Nat) (hr : 0 < r) (hk : 0 < k) (i : Nat) (hi : i < k) : allocF a (List.replicate k r) i = splitF a k i := by
  have hS : ¬ (List.replicate k r).sum = 0 := by
    rw [sum_rep]
    have : 0 < (k : Int) * r := Int.mul_pos (by omega) hr
    omega
  have hR : allocR a (List.replicate k r) = splitR a k := by
    unfold allocR loI splitR
    rw [if_neg hS, qL_rep a r k hr, sum_rep]
    congr 1
    have := Int.mul_tdiv_add_tmod a k
    omega
  have hq : (List.replicate k (a.tdiv k)).getD i 0 = a.tdiv k := by
    rw [List.getD, List.getElem?_replicate, if_pos hi]; rfl
  unfold allocF allocTo splitF splitQ
  rw [hR, qL_rep a r k hr, hq]
end Go.Proofs.YteejhpoddpcahaaDoor
