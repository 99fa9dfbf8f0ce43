/- spec.Allocate. -/
import Derived.Test.YteejhpoddpcahaaDoorAlloc
namespace Go.Proofs.YteejhpoddpcahaaDoor
open Go.RowKit

theorem intsF_set (a : Int) (rs : List Int) (p : Nat) : intV .i64 (intsF (allocTo a rs (p + 1)) rs.length) = (intV .i64 (intsF (allocTo a rs p) rs.length)).set p (.int .i64 (wrap64 ((qL a rs).getD p 0 + sgn a))) := by
  apply List.ext_getElem?
  intro i
  by_cases hi : i < rs.length
  · by_cases hip : i = p
    · subst hip
      rw [List.getElem?_set_self (by simp [intV, intsF, hi])]
      simp [intV, intsF, hi, allocTo]
    · rw [List.getElem?_set_ne (by omega)]
      simp only [intV, intsF, List.getElem?_map, List.getElem?_range hi, Option.map_some]
      unfold allocTo
      by_cases h3 : i < p
      · rw [if_pos h3, if_pos (by omega)]
      · rw [if_neg h3, if_neg (by omega)]
  · rw [List.getElem?_eq_none (by simp [intV, intsF]; omega), List.getElem?_eq_none (by simp [intV, intsF]; omega)]
theorem intsF_qL (a : Int) (rs : List Int) : intsF (allocTo a rs 0) rs.length = qL a rs := by
  apply List.ext_getElem?
  intro i
  by_cases hi : i < rs.length
  · simp [intsF, hi, allocTo, qL]
  · rw [List.getElem?_eq_none (by simp [intsF]; omega), List.getElem?_eq_none (by rw [qL_length]; omega)]

/-- z is what is left over, l its size; it has a's sign. -/
def LoSgn (a z : Int) (l : Nat) : Prop := z.natAbs = l ∧ (a < 0 → z ≤ 0) ∧ (0 ≤ a → 0 ≤ z)
theorem own_some {w : World} {base n : Nat} {e : TypeId} {v : Value} {xs : List Value} (h : w.ownsRow base e 1 v n xs) (hn : 0 < n) : ∃ A cap, v = .slice (some ⟨A, 0, none⟩) n cap ∧ base ≤ A := by
  rcases h.2 with ⟨rfl, h0⟩ | ⟨g, cap, cur, rfl, hb, _⟩
  · omega
  · exact ⟨g, cap, rfl, hb⟩
set_option maxRecDepth 100000 in
set_option maxHeartbeats 4000000 in
theorem specAllocate_any (a : Int) (B : Option Addr) (cp : Nat) (rs : List Int) (w : World) (hB : Cells w B (intV .i64 rs)) (hn : 0 < rs.length) (hn1 : rs.length ≤ 20) (ha : a.natAbs ≤ 1000000000000000) (hr : ∀ r ∈ rs, 0 ≤ r ∧ r ≤ 1000) :
    Calls Tryd.prog 25 #[.int .i64 a, .slice B rs.length cp] w fun e w' => ∃ v, e = .returned v ∧ w'.ownsRow w.heap.size 2 1 v rs.length (intV .i64 (intsF (allocF a rs) rs.length)) ∧ Below w.heap.size w w' := by
  obtain ⟨b, off, rfl⟩ := hB.addr (by simp [intV]; omega)
  obtain ⟨i0, hi, hz0, hz1, hz2⟩ := info_parts i64_info
  have HC := Lib.hid hB
  have HR := Lib.hid hr
  have HS0 := Lib.hid (sum_nonneg rs fun r h => (hr r h).1)
  have HS1 := Lib.hid (sum_le rs fun r h => (hr r h).2)
  clear hB hr
  go_enter Tryd.func25, Tryd.ntmps25
  go_wp2
  go_loop [5, 16] (fun sv i => ∃ k : Nat, k ≤ rs.length ∧ i = .int .i64 k ∧ sv = .int .i64 (rs.take k).sum) (fun _ i => rs.length - (intOf i).toNat)
  case atStart => exact ⟨0, Nat.zero_le _, rfl, by simp⟩
  case round =>
    obtain ⟨k, hk, rfl, rfl⟩ := hrel
    by_cases hlt : k < rs.length
    · have e1 := HC.out.at_ k _ (intV_get .i64 rs k hlt)
      have hrk := HR.out rs[k] (List.getElem_mem hlt)
      have hs0 := sum_nonneg (rs.take k) fun r h => (HR.out r (List.mem_of_mem_take h)).1
      have hs1 := sum_le (rs.take k) fun r h => (HR.out r (List.mem_of_mem_take h)).2
      have hlk : (rs.take k).length = k := by rw [List.length_take]; omega
      rw [hlk] at hs1
      have HT := Lib.hid (sum_take_succ rs k hlt)
      generalize (rs.take k).sum = S at *
      generalize rs[k] = r at *
      have hw : wrap64 (S + r) = S + r := by unfold wrap64; omega
      have HW := Lib.hid hw
      clear hs1 hlk hs0 hrk hw
      go_wp2
      exact ⟨⟨k + 1, by omega, by go_num, by rw [HT.out, HW.out]⟩, by simp [intOf]; omega⟩
    · obtain rfl : rs.length = k := by omega
      rw [List.take_of_length_le (Nat.le_refl _)]
      generalize hSS : rs.sum = S at *
      have HSS := Lib.hid hSS
      clear hSS
      go_wp2
      go_loopw [8, 9, 28] (fun v lv i wr => ∃ k : Nat, k ≤ rs.length ∧ i = .int .i64 k ∧ lv = .int .i64 (a - ((qL a rs).take k).sum) ∧ Hid (wr.ownsRow w.heap.size 2 1 v k (intV .i64 ((qL a rs).take k))) ∧ Hid (Below w.heap.size w wr)) (fun _ _ i _ => rs.length - (intOf i).toNat)
      case atStart => exact ⟨0, Nat.zero_le _, rfl, by simp, own_empty _ _ _ (Nat.le_refl _), (Below.refl _ _).alloc (Nat.le_refl _) _⟩
      case round =>
        obtain ⟨k, hk, rfl, rfl, HV0, HB⟩ := hrel
        by_cases hlt : k < rs.length
        · have e1 := (HC.out.below HB.out).at_ k _ (intV_get .i64 rs k hlt)
          have hrk := HR.out rs[k] (List.getElem_mem hlt)
          have hqk := qL_get a rs k hlt
          rw [HSS.out] at hqk
          have hmul := mul_bound a rs[k] ha hrk.1 hrk.2
          have hqb := qL_bound a rs (fun r h => (HR.out r h).1) _ (List.getElem_mem (l := qL a rs) (n := k) (by rw [qL_length]; exact hlt))
          have hTB := take_sum_bound (qL a rs) a.natAbs (qL_bound a rs fun r h => (HR.out r h).1) k (by rw [qL_length]; omega)
          have hT := sum_take_succ (qL a rs) k (by rw [qL_length]; exact hlt)
          have h2 : k * a.natAbs ≤ 20 * 1000000000000000 := Nat.mul_le_mul (by omega) ha
          have hown1 := HV0.out
          by_cases hS0 : 0 < S
          · have hw1 : wrap64 (a * rs[k]) = a * rs[k] := by unfold wrap64; omega
            have HX := Lib.hid (show wrap64 ((a * rs[k]).tdiv S) = (qL a rs)[k]'(by rw [qL_length]; exact hlt) by rw [← hqk]; unfold wrap64; omega)
            have HLN := Lib.hid (show wrap64 (a - ((qL a rs).take k).sum - wrap64 ((a * rs[k]).tdiv S)) = a - ((qL a rs).take (k + 1)).sum by rw [HX.out, hT]; unfold wrap64; omega)
            have hSne : (S == 0) = false := by rw [beq_eq_false_iff_ne]; omega
            clear hrk hqk hmul hqb hTB hT h2
            go_wp2_with (at_builtin; refine wpList_append_own _ rfl _ _ 33 rfl w.heap.size 2 i0 (.int .i64 0) 1 8 Tryd.underlying33 hi hz0 hz1 hz2 rfl (by decide) _ _ _ rfl (hown1.alloc _) ⟨wr.heap.size, 0, none⟩ 1 1 [.int .i64 (wrap64 ((a * rs[k]).tdiv S))] rfl rfl ?c1 ?c2 ?c3 ?c4 ?c5 ?_)
            case c1 =>
              intro j u hj
              match j, hj with
              | 0, hj => simp at hj; subst hj; simp [Addr.add]
            case c2 => intro u hu; simp at hu; subst hu; rfl
            case c3 => unfold maxLen; omega
            case c4 => omega
            case c5 => have := HB.out.size; simp; omega
            intro v1' w3 hown1' hgrow1 _
            have HB3 := Lib.hid ((HB.out.alloc HB.out.size (.cells #[.int .i64 (wrap64 ((a * rs[k]).tdiv S))] 2)).grown hgrow1 (by have := HB.out.size; simp; omega) (fun q hq => (hown1.lt q hq).1))
            rw [show (wrap64 ((a * rs[k]).tdiv S)) = (qL a rs)[k]'(by rw [qL_length]; exact hlt) from HX.out, ← intV_snoc, ← List.take_succ_eq_append_getElem] at hown1'
            have HV := Lib.hid hown1'
            clear hown1 hown1' hgrow1
            go_wp2
            exact ⟨⟨k + 1, by omega, by go_num, by rw [HLN.out], HV, HB3⟩, by simp [intOf]; omega⟩

          · have HX := Lib.hid (show (0 : Int) = (qL a rs)[k]'(by rw [qL_length]; exact hlt) by
              have hS00 : S = 0 := by have := HS0.out; omega
              rw [hqk, hS00]; simp)
            have HLN := Lib.hid (show a - ((qL a rs).take k).sum = a - ((qL a rs).take (k + 1)).sum by rw [hT, ← HX.out]; omega)
            have HLW := Lib.hid (show wrap64 (a - ((qL a rs).take k).sum) = a - ((qL a rs).take k).sum by unfold wrap64; omega)
            clear hrk hqk hmul hqb hTB hT h2
            go_wp2_with (at_builtin; refine wpList_append_own _ rfl _ _ 33 rfl w.heap.size 2 i0 (.int .i64 0) 1 8 Tryd.underlying33 hi hz0 hz1 hz2 rfl (by decide) _ _ _ rfl (hown1.alloc _) ⟨wr.heap.size, 0, none⟩ 1 1 [.int .i64 0] rfl rfl ?d1 ?d2 ?d3 ?d4 ?d5 ?_)
            case d2 => rfl
            case d3 => unfold maxLen; omega
            case d4 => omega
            case d5 => have := HB.out.size; simp; omega
            intro v1' w3 hown1' hgrow1 _
            have HB3 := Lib.hid ((HB.out.alloc HB.out.size (.cells #[.int .i64 0] 2)).grown hgrow1 (by have := HB.out.size; simp; omega) (fun q hq => (hown1.lt q hq).1))
            rw [show (0 : Int) = (qL a rs)[k]'(by rw [qL_length]; exact hlt) from HX.out, ← intV_snoc, ← List.take_succ_eq_append_getElem] at hown1'
            have HV := Lib.hid hown1'
            clear hown1 hown1' hgrow1
            go_wp2
            exact ⟨⟨k + 1, by omega, by go_num, by first | rw [HLW.out, HLN.out] | rw [HLN.out], HV, HB3⟩, by simp [intOf]; omega⟩
        · obtain rfl : rs.length = k := by omega
          rw [List.take_of_length_le (by rw [qL_length]; omega)] at *
          have hv1 := HV0.out
          rw [← intsF_qL] at hv1
          have HV1 := Lib.hid hv1
          clear HV0 hv1
          by_cases hS0 : S = 0
          · subst hS0
            have HR0 := Lib.hid (show allocR a rs = 0 by unfold allocR; rw [if_pos HSS.out])
            go_wp2_with fail
            refine wp_loop_rounds 1 ?_
            rw [rounds_succ]
            go_wp2_with fail
            go_ret
            refine ⟨_, rfl, ?_, HB.out⟩
            unfold allocF
            rw [HR0.out]; exact HV1.out
          · have hSp : 0 < S := by have := HS0.out; omega
            have hSr : 0 < rs.sum := by have := HSS.out; omega
            have HLB := Lib.hid (loI_bounds a rs (fun r h => (HR.out r h).1) hSr)
            have HRB := Lib.hid (show allocR a rs < rs.length by unfold allocR; rw [if_neg (by omega)]; exact HLB.out.1)
            have hal : (loI a rs).natAbs = allocR a rs := by unfold allocR; rw [if_neg (by omega)]
            obtain ⟨lo, hlo⟩ : ∃ lo, lo = loI a rs := ⟨_, rfl⟩
            have hlw : a - (qL a rs).sum = lo := by rw [hlo]; rfl
            rw [← hlo] at hal HLB
            obtain ⟨A, cap, hvv, hAw⟩ := own_some HV1.out (by omega)
            subst hvv
            rw [hlw]
            have HSG := Lib.hid (show LoSgn a lo (allocR a rs) from ⟨by omega, HLB.out.2.1, HLB.out.2.2⟩)
            clear hlw hlo hSr HLB hal
            go_wp2_with fail
            go_loopw [9, 13] (fun lv pv wx => ∃ (p l : Nat) (z : Int), p + l = allocR a rs ∧ lv = .int .i64 z ∧ pv = .int .i64 p ∧ Hid (LoSgn a z l) ∧ Hid (wx.ownsRow w.heap.size 2 1 (.slice (some ⟨A, 0, none⟩) rs.length cap) rs.length (intV .i64 (intsF (allocTo a rs p) rs.length))) ∧ Hid (Below w.heap.size w wx)) (fun lv _ _ => (intOf lv).natAbs)
            case atStart => exact ⟨0, allocR a rs, lo, by omega, rfl, rfl, HSG, HV1, HB⟩
            case round =>
              clear HSG HV1 HB
              obtain ⟨p, l, z, hpl, rfl, rfl, HSG, HV1, HB⟩ := hrel
              have hla := HSG.out.1
              by_cases hlt : 0 < l
              · have hpn : p < rs.length := by have := HRB.out; omega
                have hz0 : (z == 0) = false := by rw [beq_eq_false_iff_ne]; omega
                have hb1 : -20 ≤ z := by have := HRB.out; omega
                have hb2 : z ≤ 20 := by have := HRB.out; omega
                obtain ⟨q, hq⟩ : ∃ q, q = (qL a rs).getD p 0 := ⟨_, rfl⟩
                have hcell := HV1.out.cellAt p (by omega)
                rw [show (intV .i64 (intsF (allocTo a rs p) rs.length))[p]? = some (.int .i64 q) by
                  simp [intV, intsF, hpn, allocTo, hq]] at hcell
                have hfr := HV1.out.frozenAt p
                have hAl : A < wr.heap.size := cell_lt hcell
                have hset := intsF_set a rs p
                rw [← hq] at hset
                have HST := Lib.hid (fun u => (HV1.out.stored p u).1)
                have HSET := Lib.hid hset
                clear hset hq
                by_cases hzp : 0 < z
                · have hsg : sgn a = 1 := by unfold sgn; rw [if_neg (fun h => by have := HSG.out.2.1 h; omega)]
                  rw [hsg] at HSET
                  have HNX := Lib.hid (show LoSgn a (z - 1) (l - 1) from ⟨by omega, fun h => by have := HSG.out.2.1 h; omega, fun h => by omega⟩)
                  have HV2 : Hid ((wr.setCell ⟨A, p, none⟩ (.int .i64 (wrap64 (q + 1)))).ownsRow w.heap.size 2 1 (.slice (some ⟨A, 0, none⟩) rs.length cap) rs.length (intV .i64 (intsF (allocTo a rs (p + 1)) rs.length))) := by
                    rw [HSET.out]; exact HST.out _
                  go_wp2_with fail
                  exact ⟨⟨p + 1, l - 1, z - 1, by omega, rfl, by go_num, HNX, HV2, HB.out.setCell (p := ⟨A, p, none⟩) hAw _⟩, by simp [intOf]; omega⟩
                · have hsg : sgn a = -1 := by unfold sgn; rw [if_pos (by by_cases h : a < 0; exact h; have := HSG.out.2.2 (by omega); omega)]
                  rw [hsg] at HSET
                  have HNX := Lib.hid (show LoSgn a (z + 1) (l - 1) from ⟨by omega, fun h => by omega, fun h => by have := HSG.out.2.2 h; omega⟩)
                  have HV2 : Hid ((wr.setCell ⟨A, p, none⟩ (.int .i64 (wrap64 (q - 1)))).ownsRow w.heap.size 2 1 (.slice (some ⟨A, 0, none⟩) rs.length cap) rs.length (intV .i64 (intsF (allocTo a rs (p + 1)) rs.length))) := by
                    rw [HSET.out, show q + -1 = q - 1 by omega]; exact HST.out _
                  go_wp2_with fail
                  exact ⟨⟨p + 1, l - 1, z + 1, by omega, rfl, by go_num, HNX, HV2, HB.out.setCell (p := ⟨A, p, none⟩) hAw _⟩, by simp [intOf]; omega⟩
              · obtain rfl : l = 0 := by omega
                obtain rfl : z = 0 := by omega
                have hp0 : p = allocR a rs := by omega
                subst hp0
                go_wp2_with fail
                go_ret
                exact ⟨_, rfl, HV1.out, HB.out⟩
end Go.Proofs.YteejhpoddpcahaaDoor
