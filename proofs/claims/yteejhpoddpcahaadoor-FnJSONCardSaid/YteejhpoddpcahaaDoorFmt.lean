/- Formatter.Format: an amount as text. -/
import Derived.Test.YteejhpoddpcahaaDoorPut
import Derived.Test.YteejhpoddpcahaaDoorTab
import Derived.Test.YteejhpoddpcahaaDoorFig
import Derived.Deep.DeepCutAuto
namespace Go.Proofs.YteejhpoddpcahaaDoor
open Go.RowKit

set_option maxHeartbeats 400000 in
theorem fabs_any (f : Int) (D T G M : ByteArray) (a : Int) (n : Nat) (w : World) (hn : n = a.natAbs) (h0 : -9223372036854775807 ≤ a) (h1 : a ≤ 9223372036854775807) :
    Calls Tryd.prog 46 #[.agg #[.int .i64 f, .string D, .string T, .string G, .string M], .int .i64 a] w fun e w' => e = .returned (.int .i64 (n : Int)) ∧ Below w.heap.size w w' := by
  by_cases h : a < 0
  · have HN := Lib.hid (show -a = (n : Int) by omega)
    clear hn
    go_enter Tryd.func46, Tryd.ntmps46
    go_wp2
    go_ret
    exact ⟨ret_int HN.out, (Below.refl _ _).alloc (Nat.le_refl _) _⟩
  · have HN := Lib.hid (show a = (n : Int) by omega)
    clear hn
    go_enter Tryd.func46, Tryd.ntmps46
    go_wp2
    go_ret
    exact ⟨ret_int HN.out, (Below.refl _ _).alloc (Nat.le_refl _) _⟩

def fmtCells (f : Nat) (D T G M : ByteArray) : Array Value := #[.int .i64 f, .string D, .string T, .string G, .string M]

theorem putB_size (s : ByteArray) (c : UInt8) (x : ByteArray) : (putB s c x).size ≤ s.size + x.size := by
  unfold putB
  rw [ofL_size, Lib.size_eq, Lib.size_eq]
  exact putL_len _ _ _
theorem cut_len {q x : ByteArray} {l : List UInt8} (hq : q = ofL l) {k : Nat} : (q.extract 0 k ++ x ++ q.extract k q.size).size = (l.take k ++ x.data.toList ++ l.drop k).length := by
  rw [cut_in hq k, ofL_size]
theorem pad_short {P sa : ByteArray} {n f : Nat} (hP : P = ofL (padL n f)) (hs : sa = ofL (Lib.decDigits n)) {r : ByteArray} (hr : r = ofL (List.replicate (f + 1 - sa.size) 48)) : P = r ++ sa := by
  have e : sa.size = (Lib.decDigits n).length := by rw [hs, ofL_size]
  rw [hP, hr, e, hs, ofL_append]; rfl
theorem pad_long {P sa : ByteArray} {n f : Nat} (hP : P = ofL (padL n f)) (hs : sa = ofL (Lib.decDigits n)) (h : ¬ sa.size ≤ f) : P = sa := by
  have e : sa.size = (Lib.decDigits n).length := by rw [hs, ofL_size]
  rw [hP, hs]
  unfold padL
  rw [show f + 1 - (Lib.decDigits n).length = 0 by omega]; rfl
set_option maxRecDepth 100000 in
set_option maxHeartbeats 4000000 in
theorem format_any (f : Nat) (D T G M : ByteArray) (a : Int) (g : Nat) (w : World) (hb : Blk w g 79 (fmtCells f D T G M)) (hf : f ≤ 18) (hD : D.size ≤ 100) (hT : T.size ≤ 100) (hG : G.size ≤ 100) (hM : M.size ≤ 100)
    (h0 : -9223372036854775807 ≤ a) (h1 : a ≤ 9223372036854775807) (hTab : TabAt w) :
    Calls Tryd.prog 31 #[.pointer (some ⟨g, 0, none⟩), .int .i64 a] w fun e w' => e = .returned (.string (ofL (fmtL f D.data.toList T.data.toList G.data.toList M.data.toList a))) ∧ Below w.heap.size w w' := by
  obtain ⟨n, hn⟩ : ∃ n, n = a.natAbs := ⟨_, rfl⟩
  have hn1 : n ≤ 9223372036854775807 := by omega
  have HN := Lib.hid hn
  have HB := Lib.hid hb
  have HT := Lib.hid hTab
  have e0 : w.cell? ⟨g, 0, none⟩ = some (.int .i64 f) := hb.cell 0
  have e1 : w.cell? ⟨g, 1, none⟩ = some (.string D) := hb.cell 1
  have e2 : w.cell? ⟨g, 2, none⟩ = some (.string T) := hb.cell 2
  have e3 : w.cell? ⟨g, 3, none⟩ = some (.string G) := hb.cell 3
  have e4 : w.cell? ⟨g, 4, none⟩ = some (.string M) := hb.cell 4
  have hl := hb.lt
  clear hn hb hTab
  go_enter Tryd.func31, Tryd.ntmps31
  go_wp2_with fail
  refine (fabs_any f D T G M a n _ HN.out h0 h1).mono ?_
  rintro e w1 ⟨rfl, hb1⟩
  have HB1 := Lib.hid hb1
  obtain ⟨sa, hsa⟩ : ∃ sa, sa = ofL (Lib.decDigits n) := ⟨_, rfl⟩
  have HS := Lib.hid hsa
  clear hb1 e0 e1 e2 e3 e4 hsa
  go_wp2_with fail
  refine (formatInt_nat n sa _ hn1 (HT.out.below HB1.out) HS.out).mono ?_
  rintro e w2 ⟨rfl, hb2⟩
  have HB2 := Lib.hid (HB1.out.trans (hb2.mono HB1.out.size))
  have hs1 : 1 ≤ sa.size := by rw [HS.out, ofL_size, Lib.decDigits_length]; exact Lib.nDigits_pos n
  have hs2 : sa.size ≤ 20 := by rw [HS.out, ofL_size, Lib.decDigits_length]; exact nDigits_le n (by omega)
  have e0 : w2.cell? ⟨g, 0, none⟩ = some (.int .i64 f) := (HB.out.below HB2.out hl).cell 0
  clear hb2 HB1
  obtain ⟨P, hP⟩ : ∃ P, P = ofL (padL n f) := ⟨_, rfl⟩
  have HP := Lib.hid hP
  clear hP
  go_upto_if 19 with (fail)
  go_cut [5] (fun s5 wx => s5 = .string P ∧ Hid (Below w.heap.size w wx))
  case first =>
    by_cases hle : sa.size ≤ f
    · have hle' : ((sa.size : Int) ≤ f) := by omega
      obtain ⟨r, hr⟩ : ∃ r, r = ofL (List.replicate (f + 1 - sa.size) 48) := ⟨_, rfl⟩
      have HV := Lib.hid (pad_short HP.out HS.out hr)
      have HR := Lib.hid hr
      have hr1 : r.size ≤ 100 := by rw [hr, ofL_size, List.length_replicate]; omega
      clear hr
      go_wp2_with fail
      refine (repeat_any 48 (f + 1 - sa.size) _ r _ (by omega) (by omega) HR.out).mono ?_
      rintro e w3 ⟨rfl, hb3⟩
      have HB3 := Lib.hid (HB2.out.trans (hb3.mono HB2.out.size))
      clear hb3
      go_wp2_with fail
      go_meet
      exact ⟨by rw [HV.out], HB3⟩
    · have HV := Lib.hid (pad_long HP.out HS.out hle)
      go_wp2_with fail
      go_meet
      exact ⟨by rw [HV.out], HB2⟩
  case rest =>
    obtain ⟨rfl, HB2⟩ := hcut
    have hp1 : P.size = (padL n f).length := by rw [HP.out, ofL_size]
    have hp2 := padL_length n f
    have hd1 : (Lib.decDigits n).length ≤ 20 := by rw [Lib.decDigits_length]; exact nDigits_le n (by omega)
    obtain ⟨W, hW⟩ : ∃ W, W = P.size - f := ⟨_, rfl⟩
    have hPs : P.size = W + f := by omega
    have hW1 : 1 ≤ W := by omega
    have hW2 : W ≤ 20 := by omega
    have HL := Lib.hid (show (padL n f).length = W + f by omega)
    have HPS := Lib.hid hPs
    clear hp1 hp2 hd1 hW hs1 hs2 HS sa e0 hPs
    obtain ⟨Q, hQ⟩ : ∃ Q, Q = ofL (grpL T.data.toList ((padL n f).take W) W ++ (padL n f).drop W) := ⟨_, rfl⟩
    have HQ := Lib.hid hQ
    clear hQ
    have e0 : wc.cell? ⟨g, 0, none⟩ = some (.int .i64 f) := (HB.out.below HB2.out hl).cell 0
    have e2 : wc.cell? ⟨g, 2, none⟩ = some (.string T) := (HB.out.below HB2.out hl).cell 2
    go_upto_if 35 with (fail)
    go_cut [5] (fun s5 wx => s5 = .string Q ∧ Hid (Below w.heap.size w wx))
    case first =>
      cases hTe : T.toList.isEmpty with
      | true =>
        have hTn : (!T.toList.isEmpty) = false := by rw [hTe]; rfl
        have HV := Lib.hid (show P = Q by
          have : T.data.toList = [] := by rw [← Lib.toList_data]; exact List.isEmpty_iff.1 hTe
          rw [HP.out, HQ.out, this]; congr 1; exact (grpL_nilT _ W (by have := HL.out; omega)).symm)
        clear hTe
        go_wp2_with fail
        go_meet
        exact ⟨by rw [HV.out], HB2⟩
      | false =>
        have hTn : (!T.toList.isEmpty) = true := by rw [hTe]; rfl
        have HTL := Lib.hid (show T.data.toList.length ≤ 100 by rw [← Lib.size_eq]; exact hT)
        clear hTe
        have hPz : P.size ≤ 40 := by have := HPS.out; omega
        have hPf : (f : Int) ≤ P.size := by have := HPS.out; omega
        go_wp2_with fail
        go_loopw [5, 6] (fun sv iv wr => ∃ (k m : Nat) (z : Int) (q : ByteArray), k + m = W ∧ m % 3 = 0 ∧ z + 3 = k ∧ iv = .int .i64 z ∧ sv = .string q ∧ Hid (q = ofL (sepL (padL n f) T.data.toList W k m)) ∧ Hid (Below w.heap.size w wr)) (fun _ iv _ => (intOf iv + 3).toNat)
        case atStart => exact ⟨W, 0, (P.size : Int) - f - 3, P, by omega, rfl, by have := HPS.out; omega, rfl, rfl, by rw [sepL_start]; exact HP.out, HB2⟩
        case round =>
          clear HB2 hPz hPf e0 e2 hTn
          obtain ⟨k, m, z, q, hkm, hm3, hz, rfl, rfl, HQK, HB2⟩ := hrel
          by_cases h3 : 0 < z
          · obtain ⟨j, rfl⟩ : ∃ j : Nat, z = j := ⟨z.toNat, by omega⟩
            obtain rfl : k = j + 3 := by omega
            have e2 : wr.cell? ⟨g, 2, none⟩ = some (.string T) := (HB.out.below HB2.out hl).cell 2
            have hqs : q.size ≤ 2100 := by
              rw [HQK.out, ofL_size]
              exact sepL_len _ _ W _ m hkm hW2 HTL.out (by have := HL.out; omega)
            have hjq : j ≤ q.size := by
              have h1 : q.size = (sepL (padL n f) T.data.toList W (j + 3) m).length := by rw [HQK.out, ofL_size]
              have h2 : ((padL n f).take W).length = W := by rw [List.length_take, HL.out]; omega
              have h4 : (((padL n f).take W).take (j + 3)).length = j + 3 := by rw [List.length_take, h2]; omega
              rw [h1]
              unfold sepL
              rw [List.length_append, List.length_append]
              omega
            have HN2 : Hid (q.extract 0 j ++ T ++ q.extract j q.size = ofL (sepL (padL n f) T.data.toList W j (m + 3))) := by
              show q.extract 0 j ++ T ++ q.extract j q.size = _
              rw [cut_in HQK.out j, sepL_step _ _ W j m hkm (by omega) hm3 (by rw [HL.out]; omega)]
            have hj0 : (0 : Int) ≤ j := by omega
            have hjq' : (j : Int) ≤ q.size := by omega
            go_wp2_with fail
            go_quiet (fail)
            go_wp2_with fail
            exact ⟨⟨j, m + 3, (j : Int) - 3, _, by omega, by omega, by omega, rfl, rfl, HN2, below_drewN HB2.out _⟩, by simp [intOf]; omega⟩
          · have HV := Lib.hid (show q = Q by rw [HQK.out, HQ.out, sepL_end _ _ W k m hkm (by omega) hm3 (by rw [HL.out]; omega)])
            go_wp2_with fail
            go_meet
            exact ⟨by rw [HV.out], HB2⟩
    case rest =>
      obtain ⟨rfl, HB3⟩ := hcut
      clear HB2 e2 e0 HP HPS P
      obtain ⟨X, hX⟩ : ∃ X, X = ofL (numL n f D.data.toList T.data.toList) := ⟨_, rfl⟩
      have HX := Lib.hid hX
      clear hX
      have e0 : wc.cell? ⟨g, 0, none⟩ = some (.int .i64 f) := (HB.out.below HB3.out hl).cell 0
      have e1 : wc.cell? ⟨g, 1, none⟩ = some (.string D) := (HB.out.below HB3.out hl).cell 1
      have hQs : Q.size ≤ 2100 := by
        have h1 := grpL_len T.data.toList ((padL n f).take W) W
        have h2 := mul_small W T.data.toList.length W (Nat.le_refl _) hW2 (by rw [← Lib.size_eq]; exact hT)
        rw [HQ.out, ofL_size, List.length_append, List.length_drop, HL.out]; omega
      obtain ⟨A, hA⟩ : ∃ A, A = (grpL T.data.toList ((padL n f).take W) W).length := ⟨_, rfl⟩
      have hQA : Q.size = A + f := by rw [HQ.out, ofL_size, List.length_append, List.length_drop, HL.out]; omega
      have HA := Lib.hid hA
      have HQA := Lib.hid hQA
      clear hA
      go_upto_if 64 with (fail)
      go_cut [5] (fun s5 wx => s5 = .string X ∧ Hid (Below w.heap.size w wx))
      case first =>
        by_cases hf0 : 0 < f
        · have hV : Q.extract 0 A ++ D ++ Q.extract A Q.size = X := by
            rw [cut_in HQ.out A, HX.out, numL_pos n f _ _ W HL.out hf0 A HA.out.symm]
          have hA1 : (0 : Int) ≤ (Q.size : Int) - f := by omega
          have hA2 : (Q.size : Int) - f ≤ Q.size := by omega
          have hA3 : IntKind.i64.wrap ((Q.size : Int) - f) = (Q.size : Int) - f := IntWalk.i64_in _ (by omega)
          have hA4 : ((Q.size : Int) - f).toNat = A := by omega
          have HV := Lib.hid hV
          clear hV hQA
          go_wp2_with fail
          go_quiet (fail)
          go_wp2_with fail
          go_meet
          exact ⟨by rw [HV.out], below_drewN HB3.out _⟩
        · have HV := Lib.hid (show Q = X by
            obtain rfl : f = 0 := by omega
            rw [HX.out, HQ.out, numL_zero n _ _ W HL.out])
          clear hQA
          go_wp2_with fail
          go_meet
          exact ⟨by rw [HV.out], HB3⟩
      case rest =>
        obtain ⟨rfl, HB4⟩ := hcut
        have hXs : X.size ≤ 2300 := by
          have h1 : X.size = (numL n f D.data.toList T.data.toList).length := by rw [HX.out, ofL_size]
          rw [h1]
          by_cases hf0 : 0 < f
          · rw [numL_pos n f _ _ W HL.out hf0 A HA.out.symm, ← cut_len HQ.out]
            simp only [ByteArray.size_append, ByteArray.size_extract]
            omega
          · obtain rfl : f = 0 := by omega
            rw [numL_zero n _ _ W HL.out]
            have := HQ.out
            rw [← ofL_size, ← HQ.out]; omega
        clear e0 e1 HB3 hQs hQA HQA HA HQ HL Q
        have e4 : wc.cell? ⟨g, 4, none⟩ = some (.string M) := (HB.out.below HB4.out hl).cell 4
        go_wp2_with fail
        refine (replaced_any M X 49 _ (by omega) (by omega)).mono ?_
        rintro e w5 ⟨rfl, hb5⟩
        have HB5 := Lib.hid (HB4.out.trans (hb5.mono HB4.out.size))
        have e3 : w5.cell? ⟨g, 3, none⟩ = some (.string G) := (HB.out.below HB5.out hl).cell 3
        obtain ⟨Y, hY⟩ : ∃ Y, Y = putB M 49 X := ⟨_, rfl⟩
        have hYs : Y.size ≤ 2400 := by rw [hY]; have := putB_size M 49 X; omega
        rw [← hY]
        have HY := Lib.hid hY
        clear hb5 e4 hY HB4
        go_wp2_with fail
        refine (replaced_any Y G 36 _ (by omega) (by omega)).mono ?_
        rintro e w6 ⟨rfl, hb6⟩
        have HB6 := Lib.hid (HB5.out.trans (hb6.mono HB5.out.size))
        obtain ⟨Z, hZ⟩ : ∃ Z, Z = putB Y 36 G := ⟨_, rfl⟩
        have hZs : Z.size ≤ 2500 := by rw [hZ]; have := putB_size Y 36 G; omega
        rw [← hZ]
        have HZ := Lib.hid (show Z = ofL (putL 36 G.data.toList (putL 49 (numL n f D.data.toList T.data.toList) M.data.toList)) by
          rw [hZ, HY.out, HX.out]; rfl)
        clear hb6 e3 hZ HB5
        by_cases hneg : a < 0
        · have HF := Lib.hid (show (⟨#[45]⟩ : ByteArray) ++ Z = ofL (fmtL f D.data.toList T.data.toList G.data.toList M.data.toList a) by
            unfold fmtL
            rw [if_pos hneg, ← HN.out, HZ.out]
            exact ofL_append [45] _)
          go_wp2_with fail
          go_ret
          exact ⟨ret_str HF.out, HB6.out⟩
        · have HF := Lib.hid (show Z = ofL (fmtL f D.data.toList T.data.toList G.data.toList M.data.toList a) by
            unfold fmtL
            rw [if_neg hneg, ← HN.out, HZ.out]; rfl)
          go_wp2_with fail
          go_ret
          exact ⟨ret_str HF.out, HB6.out⟩
end Go.Proofs.YteejhpoddpcahaaDoor
