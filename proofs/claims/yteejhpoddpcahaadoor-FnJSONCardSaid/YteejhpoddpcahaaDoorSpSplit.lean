/- spec.Split; impl.Split; laws.listed. -/
import Derived.Test.YteejhpoddpcahaaDoorSplit
namespace Go.Proofs.YteejhpoddpcahaaDoor
open Go.RowKit

/-- What is left over at the k-th part. -/
def leftF (a : Int) (n k : Nat) : Int := if a < 0 then -((splitR a n - k : Nat) : Int) else ((splitR a n - k : Nat) : Int)
theorem leftF_zero (a : Int) (n : Nat) : a.tmod n = leftF a n 0 := by
  unfold leftF splitR
  by_cases h : a < 0
  · rw [if_pos h]
    have : a.tmod n ≤ 0 := by
      obtain ⟨b, rfl⟩ : ∃ b : Nat, a = -(b : Int) := ⟨a.natAbs, by omega⟩
      rw [Int.neg_tmod]
      have := Int.ofNat_tmod b n
      omega
    omega
  · rw [if_neg h]
    have : 0 ≤ a.tmod n := Int.tmod_nonneg n (by omega)
    omega
theorem splitR_lt (a : Int) (n : Nat) (hn : 0 < n) : splitR a n < n := by
  unfold splitR
  rw [Int.natAbs_tmod a (n : Int)]
  simp only [Int.natAbs_natCast]
  exact Nat.mod_lt _ hn

theorem own_empty (w : World) (base : Nat) (e : TypeId) (hb : base ≤ w.heap.size) : (w.alloc (.cells #[] e)).ownsRow base e 1 (.slice (some ⟨w.heap.size, 0, none⟩) 0 0) 0 [] :=
  ⟨rfl, .inr ⟨w.heap.size, 0, #[], rfl, hb, heap_alloc_new w _, Nat.le_refl _, by decide, rfl, rfl⟩⟩

set_option maxRecDepth 100000 in
set_option maxHeartbeats 4000000 in
theorem specSplit_any (a : Int) (n : Nat) (w : World) (hn : 0 < n) (hn1 : n ≤ 1000) (h0 : -9223372036854775807 ≤ a) (h1 : a ≤ 9223372036854775807) :
    Calls Tryd.prog 21 #[.int .i64 a, .int .i64 n] w fun e w' => ∃ v, e = .returned v ∧ w'.ownsRow w.heap.size 2 1 v n (intV .i64 (intsF (splitF a n) n)) ∧ Below w.heap.size w w' := by
  obtain ⟨i0, hi, hz0, hz1, hz2⟩ := info_parts i64_info
  have hnz : ((n : Int)) ≠ 0 := by omega
  have hnp : (0 : Int) < n := by omega
  have HLZ := Lib.hid (leftF_zero a n)
  have HRL := Lib.hid (splitR_lt a n hn)
  go_enter Tryd.func21, Tryd.ntmps21
  go_wp2
  go_loopw [5, 6, 13] (fun v lv i wr => ∃ k : Nat, k ≤ n ∧ i = .int .i64 k ∧ lv = .int .i64 (leftF a n k) ∧ Hid (wr.ownsRow w.heap.size 2 1 v k (intV .i64 (intsF (splitF a n) k))) ∧ Hid (Below w.heap.size w wr)) (fun _ _ i _ => n - (intOf i).toNat)
  case atStart => exact ⟨0, Nat.zero_le _, rfl, by rw [← HLZ.out], own_empty _ _ _ (Nat.le_refl _), (Below.refl _ _).alloc (Nat.le_refl _) _⟩
  case round =>
    obtain ⟨k, hk, rfl, rfl, HV0, HB⟩ := hrel
    by_cases hlt : k < n
    · have hown1 := HV0.out
      by_cases hkR : k < splitR a n
      · by_cases hneg : a < 0
        · have hl : leftF a n k < 0 := by unfold leftF; rw [if_pos hneg]; omega
          have HX := Lib.hid (show wrap64 (a.tdiv (n : Int) - 1) = splitF a n k by unfold splitF splitQ sgn; rw [if_pos hkR, if_pos hneg]; rfl)
          have HLN := Lib.hid (show wrap64 (leftF a n k + 1) = leftF a n (k + 1) by have := HRL.out; unfold leftF; rw [if_pos hneg, if_pos hneg]; unfold wrap64; omega)
          clear hneg
          go_wp2_with (at_builtin; refine wpList_append_own _ rfl _ _ 33 rfl w.heap.size 2 i0 (.int .i64 0) 1 8 Tryd.underlying33 hi hz0 hz1 hz2 rfl (by decide) _ _ _ rfl (hown1.alloc _) ⟨wr.heap.size, 0, none⟩ 1 1 [.int .i64 (wrap64 (a.tdiv (n : Int) - 1))] rfl rfl ?c1 ?c2 ?c3 ?c4 ?c5 ?_)
          case c1 =>
            intro j u hj
            match j, hj with
            | 0, hj => simp at hj; subst hj; simp [Addr.add]
          case c2 => intro u hu; simp at hu; subst hu; rfl
          case c3 => unfold maxLen; omega
          case c4 => omega
          case c5 => have := HB.out.size; simp; omega
          intro v1' w3 hown1' hgrow1 _
          have HB3 := Lib.hid ((HB.out.alloc HB.out.size (.cells #[.int .i64 (wrap64 (a.tdiv (n : Int) - 1))] 2)).grown hgrow1 (by have := HB.out.size; simp; omega) (fun q hq => (hown1.lt q hq).1))
          rw [show (wrap64 (a.tdiv (n : Int) - 1)) = splitF a n k from HX.out, ← intV_snoc, ← intsF_succ] at hown1'
          have HV := Lib.hid hown1'
          clear hown1 hown1' hgrow1
          go_wp2
          exact ⟨⟨k + 1, by omega, by go_num, by rw [HLN.out], HV, HB3⟩, by simp [intOf]; omega⟩

        · have hl : 0 < leftF a n k := by unfold leftF; rw [if_neg hneg]; omega
          have HX := Lib.hid (show wrap64 (a.tdiv (n : Int) + 1) = splitF a n k by unfold splitF splitQ sgn; rw [if_pos hkR, if_neg hneg])
          have HLN := Lib.hid (show wrap64 (leftF a n k - 1) = leftF a n (k + 1) by have := HRL.out; unfold leftF; rw [if_neg hneg, if_neg hneg]; unfold wrap64; omega)
          clear hneg
          go_wp2_with (at_builtin; refine wpList_append_own _ rfl _ _ 33 rfl w.heap.size 2 i0 (.int .i64 0) 1 8 Tryd.underlying33 hi hz0 hz1 hz2 rfl (by decide) _ _ _ rfl (hown1.alloc _) ⟨wr.heap.size, 0, none⟩ 1 1 [.int .i64 (wrap64 (a.tdiv (n : Int) + 1))] rfl rfl ?c1 ?c2 ?c3 ?c4 ?c5 ?_)
          case c1 =>
            intro j u hj
            match j, hj with
            | 0, hj => simp at hj; subst hj; simp [Addr.add]
          case c2 => intro u hu; simp at hu; subst hu; rfl
          case c3 => unfold maxLen; omega
          case c4 => omega
          case c5 => have := HB.out.size; simp; omega
          intro v1' w3 hown1' hgrow1 _
          have HB3 := Lib.hid ((HB.out.alloc HB.out.size (.cells #[.int .i64 (wrap64 (a.tdiv (n : Int) + 1))] 2)).grown hgrow1 (by have := HB.out.size; simp; omega) (fun q hq => (hown1.lt q hq).1))
          rw [show (wrap64 (a.tdiv (n : Int) + 1)) = splitF a n k from HX.out, ← intV_snoc, ← intsF_succ] at hown1'
          have HV := Lib.hid hown1'
          clear hown1 hown1' hgrow1
          go_wp2
          exact ⟨⟨k + 1, by omega, by go_num, by rw [HLN.out], HV, HB3⟩, by simp [intOf]; omega⟩

      · have hl : leftF a n k = 0 := by unfold leftF; split <;> omega
        have HX := Lib.hid (show a.tdiv (n : Int) = splitF a n k by unfold splitF splitQ; rw [if_neg hkR])
        have HLN := Lib.hid (show (0 : Int) = leftF a n (k + 1) by unfold leftF; split <;> omega)
        rw [hl]
        go_wp2_with (at_builtin; refine wpList_append_own _ rfl _ _ 33 rfl w.heap.size 2 i0 (.int .i64 0) 1 8 Tryd.underlying33 hi hz0 hz1 hz2 rfl (by decide) _ _ _ rfl (hown1.alloc _) ⟨wr.heap.size, 0, none⟩ 1 1 [.int .i64 (a.tdiv (n : Int))] rfl rfl ?c1 ?c2 ?c3 ?c4 ?c5 ?_)
        case c1 =>
          intro j u hj
          match j, hj with
          | 0, hj => simp at hj; subst hj; simp [Addr.add]
        case c2 => intro u hu; simp at hu; subst hu; rfl
        case c3 => unfold maxLen; omega
        case c4 => omega
        case c5 => have := HB.out.size; simp; omega
        intro v1' w3 hown1' hgrow1 _
        have HB3 := Lib.hid ((HB.out.alloc HB.out.size (.cells #[.int .i64 (a.tdiv (n : Int))] 2)).grown hgrow1 (by have := HB.out.size; simp; omega) (fun q hq => (hown1.lt q hq).1))
        rw [show (a.tdiv (n : Int)) = splitF a n k from HX.out, ← intV_snoc, ← intsF_succ] at hown1'
        have HV := Lib.hid hown1'
        clear hown1 hown1' hgrow1
        go_wp2
        exact ⟨⟨k + 1, by omega, by go_num, by rw [← HLN.out], HV, HB3⟩, by simp [intOf]; omega⟩

    · obtain rfl : n = k := by omega
      go_wp2
      go_ret
      exact ⟨_, rfl, HV0.out, HB.out⟩
end Go.Proofs.YteejhpoddpcahaaDoor
