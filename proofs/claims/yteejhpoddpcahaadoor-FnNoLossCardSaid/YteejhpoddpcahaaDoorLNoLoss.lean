/- FnNoLoss, walked. -/
import Derived.Test.YteejhpoddpcahaaDoorLAlloc
import Derived.Test.YteejhpoddpcahaaDoorSums
namespace Go.Proofs.YteejhpoddpcahaaDoor
open Go.RowKit

theorem wrap_snoc (l : List Int) (k : Nat) (h : k < l.length) : wrap64 (wrap64 (l.take k).sum + l[k]) = wrap64 (l.take (k + 1)).sum := by
  rw [sum_take_succ l k h, wrap_add']
theorem wrap_small (a : Int) (h : a.natAbs ≤ 1000000000000000) : wrap64 a = a := by unfold wrap64; omega

set_option maxRecDepth 100000 in
set_option maxHeartbeats 4000000 in
theorem fnNoLoss_in (s : ByteArray) (a : Int) (B : Option Addr) (cp : Nat) (rs : List Int) (w : World) (hp : plainB s = true) (hsm : smallB a = true) (hrb : ratsB rs = true) (hB : Cells w B (intV .i64 rs)) (hE : ErrAt w) :
    Calls Tryd.prog 9 #[.string s, .int .i64 a, .slice B rs.length cp] w fun e w' => e = .returned (.bool true) ∧ Below w.heap.size w w' := by
  have hs := plainB_size hp
  obtain ⟨hro, hn, hn1⟩ := ratsB_ok hrb
  obtain ⟨b, off, rfl⟩ := hB.addr (by simp [intV]; omega)
  have ha : a.natAbs ≤ 1000000000000000 := by unfold smallB at hsm; have := of_decide_eq_true hsm; omega
  have HP := Lib.hid hp
  have HSM := Lib.hid hsm
  have HRB := Lib.hid hrb
  have HRO := Lib.hid hro
  have HC := Lib.hid hB
  have HE := Lib.hid hE
  have hbq : ((rs.length : Int) == (rs.length : Int)) = true := by simp
  clear hp hsm hrb hro hB hE
  go_enter Tryd.func9, Tryd.ntmps9
  go_wp2_with fail
  refine (plain_any s _ (by unfold maxLen; omega)).mono ?_
  rintro e _ ⟨rfl, rfl⟩
  rw [HP.out]
  go_wp2_with fail
  refine (small_any a _).mono ?_
  rintro e _ ⟨rfl, rfl⟩
  rw [HSM.out]
  go_wp2_with fail
  refine (ratios_any (some ⟨b, off, none⟩) cp rs _ HC.out (by unfold maxLen; omega)).mono ?_
  rintro e _ ⟨rfl, rfl⟩
  rw [HRB.out]
  go_wp2_with fail
  go_loop [7, 45] (fun sv i => ∃ (k : Nat) (T : Int), k ≤ rs.length ∧ i = .int .i64 k ∧ sv = .int .i64 T ∧ Hid (T = (rs.take k).sum) ∧ 0 ≤ T ∧ T ≤ 1000 * k) (fun _ i => rs.length - (intOf i).toNat)
  case atStart => exact ⟨0, 0, Nat.zero_le _, rfl, rfl, rfl, by omega, by omega⟩
  case round =>
    obtain ⟨k, T, hk, rfl, rfl, HT, hT0, hT1⟩ := hrel
    by_cases hlt : k < rs.length
    · have e1 := HC.out.at_ k _ (intV_get .i64 rs k hlt)
      have hrk := HRO.out rs[k] (List.getElem_mem hlt)
      have HTN := Lib.hid (sum_take_succ rs k hlt)
      generalize rs[k] = r at *
      obtain ⟨hr0, hr1⟩ := hrk
      have HTT : Hid (T + r = (rs.take (k + 1)).sum) := by
        show T + r = _
        rw [HTN.out, HT.out]
      go_wp2_with fail
      exact ⟨⟨k + 1, T + r, by omega, by go_num, rfl, HTT, by omega, by omega⟩, by simp [intOf]; omega⟩
    · have HTS := Lib.hid (show T = rs.sum by rw [HT.out, List.take_of_length_le (by omega)])
      clear HT
      by_cases hT : T = 0
      · have hTz : (T == 0) = true := by rw [beq_iff_eq]; exact hT
        clear hT HTS
        go_wp2_with fail
        go_ret
        exact ⟨rfl, Below.refl _ _⟩
      · have hTz : (T == 0) = false := by rw [beq_eq_false_iff_ne]; exact hT
        have HSP := Lib.hid (show 0 < rs.sum by have := HTS.out; omega)
        have HSA := Lib.hid (alloc_sum a rs (fun r h => (HRO.out r h).1) HSP.out ha)
        have HSS := Lib.hid (split_sum a rs.length (by omega) ha)
        clear hT HTS
        go_wp2_with fail
        refine (implAllocate_is s a _ cp rs.length rs _ rfl (by omega) (plainB_asc HP.out) HC.out (by omega) hn1 ha HRO.out).mono ?_
        rintro e w1 ⟨⟨A, B2, c, d, rfl, hc1, _⟩, hb1⟩
        have HC1 := Lib.hid hc1
        have HB1 := Lib.hid hb1
        clear hc1 hb1
        go_wp2_with fail
        refine (implSplit_yes s a rs.length _ (by omega) (plainB_asc HP.out) (by omega) (by omega) (by omega) (by omega)).mono ?_
        rintro e w2 ⟨A2, B3, c2, d2, rfl, hc2, _, hb2⟩
        have HB2 := Lib.hid (HB1.out.trans (hb2.mono HB1.out.size))
        have HC1b := Lib.hid (HC1.out.below hb2)
        have HC2 := Lib.hid hc2
        clear HC1 hc2 hb2 HB1
        have HLA := Lib.hid (intsF_length (allocF a rs) rs.length)
        have HLS := Lib.hid (intsF_length (splitF a rs.length) rs.length)
        generalize intsF (allocF a rs) rs.length = la at *
        generalize intsF (splitF a rs.length) rs.length = ls at *
        go_wp2_with fail
        go_loop [8, 74] (fun sv i => ∃ k : Nat, k ≤ rs.length ∧ i = .int .i64 k ∧ sv = .int .i64 (wrap64 (la.take k).sum)) (fun _ i => rs.length - (intOf i).toNat)
        case atStart => exact ⟨0, Nat.zero_le _, rfl, by simp [wrap64]⟩
        case round =>
          obtain ⟨k2, hk2, rfl, rfl⟩ := hrel
          by_cases hlt2 : k2 < rs.length
          · have hl2 : k2 < la.length := by have := HLA.out; omega
            obtain ⟨b1, o1, rfl⟩ := HC1b.out.addr (by simp [intV]; omega)
            have e1 := HC1b.out.at_ k2 _ (intV_get .i64 la k2 hl2)
            have HW := Lib.hid (wrap_snoc la k2 hl2)
            generalize la[k2] = y at *
            go_wp2_with fail
            exact ⟨⟨k2 + 1, by omega, by go_num, by rw [HW.out]⟩, by simp [intOf]; omega⟩
          · have HWA := Lib.hid (show wrap64 (la.take k2).sum = a by
              rw [List.take_of_length_le (by have := HLA.out; omega), HSA.out, wrap_small a ha])
            rw [HWA.out]
            go_wp2_with fail
            go_loop [17, 84] (fun sv i => ∃ k : Nat, k ≤ rs.length ∧ i = .int .i64 k ∧ sv = .int .i64 (wrap64 (ls.take k).sum)) (fun _ i => rs.length - (intOf i).toNat)
            case atStart => exact ⟨0, Nat.zero_le _, rfl, by simp [wrap64]⟩
            case round =>
              obtain ⟨k3, hk3, rfl, rfl⟩ := hrel
              by_cases hlt3 : k3 < rs.length
              · have hl3 : k3 < ls.length := by have := HLS.out; omega
                obtain ⟨b1, o1, rfl⟩ := HC2.out.addr (by simp [intV]; omega)
                have e1 := HC2.out.at_ k3 _ (intV_get .i64 ls k3 hl3)
                have HW := Lib.hid (wrap_snoc ls k3 hl3)
                generalize ls[k3] = y at *
                go_wp2_with fail
                exact ⟨⟨k3 + 1, by omega, by go_num, by rw [HW.out]⟩, by simp [intOf]; omega⟩
              · have HWS := Lib.hid (show wrap64 (ls.take k3).sum = a by
                  rw [List.take_of_length_le (by have := HLS.out; omega), HSS.out, wrap_small a ha])
                rw [HWS.out]
                go_wp2_with fail
                refine (alive_any _ (HE.out.below HB2.out)).mono ?_
                rintro e w4 ⟨rfl, hb4⟩
                have HB4 := Lib.hid (HB2.out.trans (hb4.mono HB2.out.size))
                clear hb4
                go_wp2_with fail
                go_ret
                exact ⟨rfl, HB4.out⟩

set_option maxRecDepth 100000 in
set_option maxHeartbeats 2000000 in
theorem fnNoLoss_out (s : ByteArray) (a : Int) (B : Option Addr) (cp : Nat) (rs : List Int) (w : World) (hs : s.size ≤ maxLen) (hB : Cells w B (intV .i64 rs)) (hn : rs.length ≤ maxLen) (hout : ¬ (plainB s = true ∧ smallB a = true ∧ ratsB rs = true)) :
    Calls Tryd.prog 9 #[.string s, .int .i64 a, .slice B rs.length cp] w fun e w' => e = .returned (.bool true) ∧ Below w.heap.size w w' := by
  have hs' : s.size ≤ 9223372036854775807 := by unfold maxLen at hs; omega
  have hn' : rs.length ≤ 9223372036854775807 := by unfold maxLen at hn; omega
  have HS := Lib.hid hs
  have HNN := Lib.hid hn
  have HC := Lib.hid hB
  clear hs hB hn
  by_cases hbig : 2147483647 < s.size
  · clear hout
    go_enter Tryd.func9, Tryd.ntmps9
    go_wp2_with fail
    go_ret
    exact ⟨rfl, Below.refl _ _⟩
  · by_cases hbig2 : 2147483647 < rs.length
    · clear hout
      go_enter Tryd.func9, Tryd.ntmps9
      go_wp2_with fail
      go_ret
      exact ⟨rfl, Below.refl _ _⟩
    · cases hp : plainB s with
      | false =>
        have HP := Lib.hid hp
        clear hp hout
        go_enter Tryd.func9, Tryd.ntmps9
        go_wp2_with fail
        refine (plain_any s _ HS.out).mono ?_
        rintro e _ ⟨rfl, rfl⟩
        rw [HP.out]
        go_wp2_with fail
        go_ret
        exact ⟨rfl, Below.refl _ _⟩
      | true =>
        have HP := Lib.hid hp
        cases hsm : smallB a with
        | false =>
          have HSM := Lib.hid hsm
          clear hp hsm hout
          go_enter Tryd.func9, Tryd.ntmps9
          go_wp2_with fail
          refine (plain_any s _ HS.out).mono ?_
          rintro e _ ⟨rfl, rfl⟩
          rw [HP.out]
          go_wp2_with fail
          refine (small_any a _).mono ?_
          rintro e _ ⟨rfl, rfl⟩
          rw [HSM.out]
          go_wp2_with fail
          go_ret
          exact ⟨rfl, Below.refl _ _⟩
        | true =>
          have HSM := Lib.hid hsm
          have HRB := Lib.hid (show ratsB rs = false by
            cases h : ratsB rs with
            | false => rfl
            | true => exact absurd ⟨hp, hsm, h⟩ hout)
          clear hp hsm hout
          go_enter Tryd.func9, Tryd.ntmps9
          go_wp2_with fail
          refine (plain_any s _ HS.out).mono ?_
          rintro e _ ⟨rfl, rfl⟩
          rw [HP.out]
          go_wp2_with fail
          refine (small_any a _).mono ?_
          rintro e _ ⟨rfl, rfl⟩
          rw [HSM.out]
          go_wp2_with fail
          refine (ratios_any B cp rs _ HC.out HNN.out).mono ?_
          rintro e _ ⟨rfl, rfl⟩
          rw [HRB.out]
          go_wp2_with fail
          go_ret
          exact ⟨rfl, Below.refl _ _⟩

theorem fnNoLoss_law (s : ByteArray) (a : Int) (B : Option Addr) (cp : Nat) (rs : List Int) (w : World) (hs : s.size ≤ maxLen) (_h0 : -9223372036854775808 ≤ a) (_h1 : a ≤ 9223372036854775807) (hB : Cells w B (intV .i64 rs)) (_hz : ∀ z ∈ rs, -9223372036854775808 ≤ z ∧ z ≤ 9223372036854775807) (hn : rs.length ≤ maxLen) (hE : ErrAt w) :
    Calls Tryd.prog 9 #[.string s, .int .i64 a, .slice B rs.length cp] w fun e w' => e = .returned (.bool true) ∧ Below w.heap.size w w' := by
  by_cases hin : plainB s = true ∧ smallB a = true ∧ ratsB rs = true
  · exact fnNoLoss_in s a B cp rs w hin.1 hin.2.1 hin.2.2 hB hE
  · exact fnNoLoss_out s a B cp rs w hs hB hn hin
end Go.Proofs.YteejhpoddpcahaaDoor
