/- spec.Format: an amount as text, by its definition. -/
import Derived.Test.YteejhpoddpcahaaDoorFmt
namespace Go.Proofs.YteejhpoddpcahaaDoor
open Go.RowKit

theorem figures_is (z : Int) (n : Nat) (s : ByteArray) (w : World) (hz : z = n) (hn : n < 18446744073709551616) (hs : s = ofL (Lib.decDigits n)) :
    Calls Tryd.prog 27 #[.int .u64 z] w fun e w' => e = .returned (.string s) ∧ Below w.heap.size w w' := by
  rw [hz, hs]; exact figures_any n w hn
theorem u64_neg' (a : Int) (n : Nat) (hn : n = a.natAbs) (h : a < 0) (h0 : -9223372036854775807 ≤ a) : IntKind.u64.wrap (-IntKind.u64.wrap a) = (n : Int) := by
  rw [IntKind.wrap_u64, IntKind.wrap_u64]; omega

def szOf : Value → Nat
  | .string q => q.size
  | _ => 0
theorem szOf_front (q : ByteArray) (f : Nat) (h : q.size ≤ f) : f + 1 - szOf (.string ((⟨#[48]⟩ : ByteArray) ++ q)) < f + 1 - szOf (.string q) := by
  have : (⟨#[48]⟩ : ByteArray).size = 1 := rfl
  simp only [szOf, ByteArray.size_append, this]
  omega
theorem pad_front (c : Nat) (l : List UInt8) : (⟨#[48]⟩ : ByteArray) ++ ofL (List.replicate c 48 ++ l) = ofL (List.replicate (c + 1) 48 ++ l) := by
  rw [List.replicate_succ]
  exact ofL_append [48] _

set_option maxRecDepth 100000 in
set_option maxHeartbeats 4000000 in
theorem specFormat_any (f : Nat) (D T G M : ByteArray) (a : Int) (w : World) (hf : f ≤ 18) (hD : D.size ≤ 100) (hT : T.size ≤ 100) (hG : G.size ≤ 100) (hM : M.size ≤ 100)
    (h0 : -9223372036854775807 ≤ a) (h1 : a ≤ 9223372036854775807) :
    Calls Tryd.prog 14 #[.int .i64 f, .string D, .string T, .string G, .string M, .int .i64 a] w fun e w' => e = .returned (.string (ofL (fmtL f D.data.toList T.data.toList G.data.toList M.data.toList a))) ∧ Below w.heap.size w w' := by
  obtain ⟨n, hn⟩ : ∃ n, n = a.natAbs := ⟨_, rfl⟩
  have hn1 : n ≤ 9223372036854775807 := by omega
  have HN := Lib.hid hn
  obtain ⟨sa, hsa⟩ : ∃ sa, sa = ofL (Lib.decDigits n) := ⟨_, rfl⟩
  have HS := Lib.hid hsa
  clear hn hsa
  go_enter Tryd.func14, Tryd.ntmps14
  go_upto_if 22 with (fail)
  go_cut [13] (fun s13 wx => ∃ z : Int, s13 = .int .u64 z ∧ Hid (z = n) ∧ wx = w)
  case first =>
    by_cases hneg : a < 0
    · have HZ := Lib.hid (u64_neg' a n HN.out hneg h0)
      go_wp2_with fail
      go_meet
      exact ⟨_, rfl, HZ, rfl⟩
    · have HZ := Lib.hid (show IntKind.u64.wrap a = n by rw [IntKind.wrap_u64]; have := HN.out; omega)
      go_wp2_with fail
      go_meet
      exact ⟨_, rfl, HZ, rfl⟩
  case rest =>
    obtain ⟨z, rfl, HZ, hwc⟩ := hcut
    obtain rfl := hwc
    go_wp2_with fail
    refine (figures_is z n sa _ HZ.out (by omega) HS.out).mono ?_
    rintro e w1 ⟨rfl, hb1⟩
    have HB1 := Lib.hid hb1
    have hd1 : (Lib.decDigits n).length ≤ 20 := by rw [Lib.decDigits_length]; exact nDigits_le n (by omega)
    have hd0 : 1 ≤ (Lib.decDigits n).length := by rw [Lib.decDigits_length]; exact Lib.nDigits_pos n
    have HD1 := Lib.hid hd1
    have HD0 := Lib.hid hd0
    clear hb1 hd1 hd0
    go_wp2_with fail
    go_loop [14] (fun sv => ∃ (c : Nat) (q : ByteArray), sv = .string q ∧ Hid (q = ofL (List.replicate c 48 ++ Lib.decDigits n)) ∧ Hid (c ≤ f + 1 - (Lib.decDigits n).length)) (fun sv => f + 1 - szOf sv)
    case atStart => exact ⟨0, sa, rfl, HS.out, Nat.zero_le _⟩
    case round =>
      obtain ⟨c, P, rfl, HQ, HC⟩ := hrel
      have hqs : P.size = c + (Lib.decDigits n).length := by rw [HQ.out, ofL_size, List.length_append, List.length_replicate]
      have hq1 : P.size ≤ 60 := by have := HC.out; have := HD1.out; omega
      have HQS := Lib.hid hqs
      clear hqs
      by_cases hle : P.size ≤ f
      · have HN2 : Hid ((⟨#[48]⟩ : ByteArray) ++ P = ofL (List.replicate (c + 1) 48 ++ Lib.decDigits n)) := by
          show (⟨#[48]⟩ : ByteArray) ++ P = _
          rw [HQ.out]; exact pad_front c _
        have HC2 := Lib.hid (show c + 1 ≤ f + 1 - (Lib.decDigits n).length by have := HQS.out; have := HC.out; omega)
        go_wp2_with fail
        exact ⟨⟨c + 1, _, rfl, HN2, HC2⟩, szOf_front P f hle⟩
      · have HP := Lib.hid (show P = ofL (padL n f) by
          have := HQS.out; have := HC.out
          rw [HQ.out]; unfold padL; rw [show c = f + 1 - (Lib.decDigits n).length by omega])
        obtain ⟨W, hW⟩ : ∃ W, W = P.size - f := ⟨_, rfl⟩
        have hPs : P.size = W + f := by omega
        have hW1 : 1 ≤ W := by omega
        have hW2 : W ≤ 20 := by
          have h2 := padL_length n f
          have h3 : P.size = (padL n f).length := by rw [HP.out, ofL_size]
          have := HD1.out
          omega
        have HL := Lib.hid (show (padL n f).length = W + f by rw [← hPs, HP.out, ofL_size])
        have hA1 : (0 : Int) ≤ (P.size : Int) - f := by omega
        have hA2 : (P.size : Int) - f ≤ P.size := by omega
        have hA3 : IntKind.i64.wrap ((P.size : Int) - f) = (P.size : Int) - f := IntWalk.i64_in _ (by omega)
        have hA4 : ((P.size : Int) - f).toNat = W := by omega
        have HPS := Lib.hid hPs
        clear hPs hW HQ HC HQS HD1 HD0 hq1
        go_wp2_with fail
        go_quiet (fail)
        obtain ⟨wh, hwh⟩ : ∃ wh, wh = P.extract 0 W := ⟨_, rfl⟩
        obtain ⟨R, hR⟩ : ∃ R, R = P.extract W P.size := ⟨_, rfl⟩
        have HWH := Lib.hid (show wh = ofL ((padL n f).take W) by rw [hwh, HP.out, ofL_extract]; rfl)
        have HR := Lib.hid (show R = ofL ((padL n f).drop W) by
          rw [hR, HPS.out, HP.out, ofL_extract, List.take_of_length_le]
          rw [List.length_drop, HL.out]; omega)
        rw [← hwh, ← hR]
        clear hwh hR hA1 hA2 hA3 hA4 hle
        have hlw : ((padL n f).take W).length = W := by rw [List.length_take, HL.out]; omega
        have hwz : wh.size = W := by rw [HWH.out, ofL_size, hlw]
        have HLW := Lib.hid hlw
        have HB2 := Lib.hid (below_drewN HB1.out nq)
        obtain ⟨X, hX⟩ : ∃ X, X = ofL (numL n f D.data.toList T.data.toList) := ⟨_, rfl⟩
        have HX := Lib.hid hX
        have hRz : R.size = f := by rw [HR.out, ofL_size, List.length_drop, HL.out]; omega
        have HRZ := Lib.hid hRz
        have HTL := Lib.hid (show T.data.toList.length ≤ 100 by rw [← Lib.size_eq]; exact hT)
        clear hlw hX HB1 hRz
        generalize w1.drewN nq = w2 at *
        go_wp2_with fail
        go_loop [17, 47] (fun sv iv => ∃ (k : Nat) (q : ByteArray) (l : List UInt8), k ≤ W ∧ iv = .int .i64 k ∧ sv = .string q ∧ Hid (q = ofL l) ∧ Hid (l ++ grpL T.data.toList ((padL n f).take W) (W - k) = grpL T.data.toList ((padL n f).take W) W)) (fun _ iv => W - (intOf iv).toNat)
        case atStart => exact ⟨0, _, [], Nat.zero_le _, rfl, rfl, rfl, rfl⟩
        case round =>
          obtain ⟨k, q, l, hk, rfl, rfl, HQ, HG⟩ := hrel
          have hqs : q.size ≤ 2100 := by
            have h1 := congrArg List.length HG.out
            have h2 := grpL_len T.data.toList ((padL n f).take W) W
            have h3 := mul_small W T.data.toList.length W (Nat.le_refl _) hW2 HTL.out
            rw [List.length_append] at h1
            rw [HQ.out, ofL_size]; omega
          by_cases hlt : k < W
          · obtain ⟨m, hm⟩ : ∃ m, W - k = m + 1 := ⟨W - k - 1, by omega⟩
            have hst := grpL_step T.data.toList ((padL n f).take W) m
            rw [HLW.out] at hst
            have hex : wh.extract k (k + 1) = ofL (((padL n f).take W).drop (W - (m + 1)) |>.take 1) := by
              rw [HWH.out, ofL_extract, show W - (m + 1) = k by omega, show k + 1 - k = 1 by omega]
            have HEX := Lib.hid hex
            have hm' : W - (k + 1) = m := by omega
            have HM' := Lib.hid hm'
            have HMM := Lib.hid hm
            have HST := Lib.hid hst
            clear hst hex hm' hm
            by_cases hc : 0 < k ∧ (W - k) % 3 = 0
            · obtain ⟨hk0, hk3⟩ := hc
              have ht : (((W : Int) - k) % 3 == 0) = true := by rw [beq_iff_eq]; omega
              have HL2 : Hid ((l ++ T.data.toList ++ (((padL n f).take W).drop (W - (m + 1)) |>.take 1)) ++ grpL T.data.toList ((padL n f).take W) (W - (k + 1)) = grpL T.data.toList ((padL n f).take W) W) := by
                show _ = _
                rw [← HG.out, HM'.out, HMM.out, HST.out, if_pos (by have := HMM.out; omega)]
                simp
              have HQ2 : Hid (q ++ T ++ wh.extract k (k + 1) = ofL (l ++ T.data.toList ++ (((padL n f).take W).drop (W - (m + 1)) |>.take 1))) := by
                show q ++ T ++ wh.extract k (k + 1) = _
                rw [HEX.out, HQ.out, ← ofL_of T, ofL_append, ofL_append]; rfl
              go_wp2_with fail
              exact ⟨⟨k + 1, _, _, by omega, by go_num, rfl, HQ2, HL2⟩, by simp [intOf]; omega⟩
            · have HL2 : Hid ((l ++ (((padL n f).take W).drop (W - (m + 1)) |>.take 1)) ++ grpL T.data.toList ((padL n f).take W) (W - (k + 1)) = grpL T.data.toList ((padL n f).take W) W) := by
                show _ = _
                rw [← HG.out, HM'.out, HMM.out, HST.out, if_neg (by have := HMM.out; omega)]
                simp
              have HQ2 : Hid (q ++ wh.extract k (k + 1) = ofL (l ++ (((padL n f).take W).drop (W - (m + 1)) |>.take 1))) := by
                show q ++ wh.extract k (k + 1) = _
                rw [HEX.out, HQ.out, ofL_append]
              by_cases hk0 : 0 < k
              · have ht : (((W : Int) - k) % 3 == 0) = false := by rw [beq_eq_false_iff_ne]; omega
                clear hc
                go_wp2_with fail
                exact ⟨⟨k + 1, _, _, by omega, by go_num, rfl, HQ2, HL2⟩, by simp [intOf]; omega⟩
              · clear hc
                go_wp2_with fail
                exact ⟨⟨k + 1, _, _, by omega, by go_num, rfl, HQ2, HL2⟩, by simp [intOf]; omega⟩
          · obtain rfl : k = W := by omega
            have hq : q = ofL (grpL T.data.toList ((padL n f).take k) k) := by
              have := HG.out
              rw [Nat.sub_self] at this
              rw [HQ.out, ← this]
              simp [grpL]
            have HQ3 := Lib.hid hq
            clear hq HQ HG
            go_upto_if 72 with (fail)
            go_cut [17] (fun s17 wx => s17 = .string X ∧ wx = w2)
            case first =>
              by_cases hf0 : 0 < f
              · have HV := Lib.hid (show q ++ (D ++ R) = X by
                  rw [HX.out, HQ3.out, HR.out, ← ofL_of D, ofL_append, ofL_append]
                  unfold numL
                  rw [HL.out, if_pos hf0, show k + f - f = k by omega]; rfl)
                have hRs : R.size ≤ 20 := by have := HRZ.out; omega
                go_wp2_with fail
                go_meet
                exact ⟨by rw [HV.out], rfl⟩
              · have HV := Lib.hid (show q = X by
                  obtain rfl : f = 0 := by omega
                  rw [HX.out, HQ3.out]
                  unfold numL
                  rw [HL.out, if_neg (by omega), show k + 0 - 0 = k by omega, List.append_nil])
                go_wp2_with fail
                go_meet
                exact ⟨by rw [HV.out], rfl⟩
            case rest =>
              obtain ⟨rfl, hwc⟩ := hcut
              obtain rfl := hwc
              have hXs : X.size ≤ 2300 := by
                rw [HX.out, ofL_size]
                unfold numL
                have h1 := grpL_len T.data.toList ((padL n f).take k) k
                have h2 := mul_small k T.data.toList.length k (Nat.le_refl _) hW2 HTL.out
                have h3 : D.data.toList.length = D.size := (Lib.size_eq D).symm
                rw [HL.out, show k + f - f = k by omega]
                split
                · rw [List.length_append, List.length_append, List.length_drop, HL.out]; omega
                · rw [List.length_append]; simp; omega
              clear HQ3 hqs HWH hwz HLW HRZ HR HL HP HPS
              go_wp2_with fail
              refine (put_any M X 49 49 _ (by omega) (by omega) rfl).mono ?_
              rintro e w5 ⟨rfl, hb5⟩
              have HB5 := Lib.hid (HB2.out.trans (hb5.mono HB2.out.size))
              obtain ⟨Y, hY⟩ : ∃ Y, Y = putB M 49 X := ⟨_, rfl⟩
              have hYs : Y.size ≤ 2400 := by rw [hY]; have := putB_size M 49 X; omega
              rw [← hY]
              have HY := Lib.hid hY
              clear hb5 hY HB2
              go_wp2_with fail
              refine (put_any Y G 36 36 _ (by omega) (by omega) rfl).mono ?_
              rintro e w6 ⟨rfl, hb6⟩
              have HB6 := Lib.hid (HB5.out.trans (hb6.mono HB5.out.size))
              obtain ⟨Z, hZ⟩ : ∃ Z, Z = putB Y 36 G := ⟨_, rfl⟩
              have hZs : Z.size ≤ 2500 := by rw [hZ]; have := putB_size Y 36 G; omega
              rw [← hZ]
              have HZ2 := Lib.hid (show Z = ofL (putL 36 G.data.toList (putL 49 (numL n f D.data.toList T.data.toList) M.data.toList)) by
                rw [hZ, HY.out, HX.out]; rfl)
              clear hb6 hZ HB5
              by_cases hneg : a < 0
              · have HF := Lib.hid (show (⟨#[45]⟩ : ByteArray) ++ Z = ofL (fmtL f D.data.toList T.data.toList G.data.toList M.data.toList a) by
                  unfold fmtL
                  rw [if_pos hneg, ← HN.out, HZ2.out]
                  exact ofL_append [45] _)
                go_wp2_with fail
                go_ret
                exact ⟨ret_str HF.out, HB6.out⟩
              · have HF := Lib.hid (show Z = ofL (fmtL f D.data.toList T.data.toList G.data.toList M.data.toList a) by
                  unfold fmtL
                  rw [if_neg hneg, ← HN.out, HZ2.out]; rfl)
                go_wp2_with fail
                go_ret
                exact ⟨ret_str HF.out, HB6.out⟩
end Go.Proofs.YteejhpoddpcahaaDoor
