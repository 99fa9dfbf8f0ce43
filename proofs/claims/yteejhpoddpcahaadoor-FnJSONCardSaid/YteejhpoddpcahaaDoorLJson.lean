/- FnJSON, walked. -/
import Derived.Test.YteejhpoddpcahaaDoorJson
import Derived.Test.YteejhpoddpcahaaDoorListed
import Derived.Deep.DeepCutAuto
namespace Go.Proofs.YteejhpoddpcahaaDoor
open Go.RowKit

theorem itoa_parts (a : Int) (n : Nat) (sg fg F : ByteArray) (hn : n = a.natAbs) (hsg : sg = ofL (if a < 0 then [45] else [])) (hfg : fg = ofL (Lib.decDigits n)) (hF : F = ofL (Lib.itoa a)) : sg ++ fg = F := by
  rw [hsg, hfg, hF, ofL_append]
  unfold Lib.itoa
  by_cases h : a < 0
  · rw [if_pos h, if_pos h, hn]; rfl
  · rw [if_neg h, if_neg h, hn, show a.natAbs = a.toNat by omega]; rfl
theorem json_is (a : Int) (n : Nat) (sg fg F u J : ByteArray) (hn : n = a.natAbs) (hsg : sg = ofL (if a < 0 then [45] else [])) (hfg : fg = ofL (Lib.decDigits n)) (hF : F = ofL (Lib.itoa a)) (hJ : jsonB F u = J) :
    (⟨#[123, 34, 97, 109, 111, 117, 110, 116, 34, 58, 32]⟩ : ByteArray) ++ sg ++ fg ++ ⟨#[44, 32, 34, 99, 117, 114, 114, 101, 110, 99, 121, 34, 58, 32, 34]⟩ ++ u ++ ⟨#[34, 125]⟩ = J := by
  rw [← hJ, ← itoa_parts a n sg fg F hn hsg hfg hF]
  unfold jsonB
  rw [ByteArray.append_assoc (a := (⟨#[123, 34, 97, 109, 111, 117, 110, 116, 34, 58, 32]⟩ : ByteArray))]

set_option maxRecDepth 100000 in
set_option maxHeartbeats 4000000 in
theorem fnJSON_law (a : Int) (s : ByteArray) (w : World) (h0 : -9223372036854775808 ≤ a) (h1 : a ≤ 9223372036854775807) (hs : s.size ≤ maxLen) (hT : TabAt w) :
    Calls Tryd.prog 10 #[.int .i64 a, .string s] w fun e w' => e = .returned (.bool true) ∧ Below w.heap.size w w' := by
  have hs' : s.size ≤ 9223372036854775807 := by unfold maxLen at hs; omega
  have HS := Lib.hid hs
  have HT := Lib.hid hT
  clear hs hT
  by_cases hbig : 2147483647 < s.size
  · go_enter Tryd.func10, Tryd.ntmps10
    go_wp2_with fail
    go_ret
    exact ⟨rfl, Below.refl _ _⟩
  · go_enter Tryd.func10, Tryd.ntmps10
    go_wp2_with fail
    go_loop [16] (fun i => ∃ k : Nat, k ≤ s.size ∧ i = .int .i64 k) (fun i => s.size - (intOf i).toNat)
    case atStart => exact ⟨0, Nat.zero_le _, rfl⟩
    case round =>
      obtain ⟨k, hk, rfl⟩ := hrel
      by_cases hlt : k < s.size
      · go_wp2_with fail
        all_goals first
          | (go_ret; exact ⟨rfl, Below.refl _ _⟩)
          | exact ⟨⟨k + 1, by omega, by go_num⟩, by simp [intOf]; omega⟩
      · cases hp : plainB s with
        | false =>
          have HP := Lib.hid hp
          clear hp
          go_wp2_with fail
          refine (plain_any s _ HS.out).mono ?_
          rintro e _ ⟨rfl, rfl⟩
          rw [HP.out]
          go_wp2_with fail
          go_ret
          exact ⟨rfl, Below.refl _ _⟩
        | true =>
          have HP := Lib.hid hp
          have hsz := plainB_size hp
          clear hp
          by_cases hs0 : s.size = 0
          · have hz : ((s.size : Int) == 0) = true := by rw [beq_iff_eq]; omega
            clear hs0
            go_wp2_with fail
            refine (plain_any s _ HS.out).mono ?_
            rintro e _ ⟨rfl, rfl⟩
            rw [HP.out]
            go_wp2_with fail
            go_ret
            exact ⟨rfl, Below.refl _ _⟩
          · have hz : ((s.size : Int) == 0) = false := by rw [beq_eq_false_iff_ne]; omega
            clear hs0
            go_wp2_with fail
            refine (plain_any s _ HS.out).mono ?_
            rintro e _ ⟨rfl, rfl⟩
            rw [HP.out]
            obtain ⟨n, hn⟩ : ∃ n, n = a.natAbs := ⟨_, rfl⟩
            have hn1 : n ≤ 9223372036854775808 := by omega
            have HN := Lib.hid hn
            clear hn
            go_upto_if 49 with (fail)
            go_cut [7, 8] (fun s7 s8 wx => ∃ (z : Int) (sg : ByteArray), s7 = .int .u64 z ∧ s8 = .string sg ∧ Hid (z = (n : Int)) ∧ Hid (sg = ofL (if a < 0 then [45] else [])) ∧ wx = w)
            case first =>
              by_cases hneg : a < 0
              · have HZ := Lib.hid (show IntKind.u64.wrap (-IntKind.u64.wrap a) = (n : Int) by rw [IntKind.wrap_u64, IntKind.wrap_u64]; have := HN.out; omega)
                have HG := Lib.hid (show (⟨#[45]⟩ : ByteArray) = ofL (if a < 0 then [45] else []) by rw [if_pos hneg]; rfl)
                go_wp2_with fail
                go_meet
                exact ⟨_, _, rfl, rfl, HZ, HG, rfl⟩
              · have HZ := Lib.hid (show IntKind.u64.wrap a = (n : Int) by rw [IntKind.wrap_u64]; have := HN.out; omega)
                have HG := Lib.hid (show (⟨#[]⟩ : ByteArray) = ofL (if a < 0 then [45] else []) by rw [if_neg hneg]; rfl)
                go_wp2_with fail
                go_meet
                exact ⟨_, _, rfl, rfl, HZ, HG, rfl⟩
            case rest =>
              obtain ⟨z, sg, rfl, rfl, HZ, HG, hwc⟩ := hcut
              obtain rfl := hwc
              obtain ⟨F, hF⟩ : ∃ F, F = ofL (Lib.itoa a) := ⟨_, rfl⟩
              obtain ⟨fg, hfg⟩ : ∃ fg, fg = ofL (Lib.decDigits n) := ⟨_, rfl⟩
              obtain ⟨J, hJ⟩ : ∃ J, jsonB F (upB s) = J := ⟨_, rfl⟩
              obtain ⟨u, hu⟩ : ∃ u, u = upB s := ⟨_, rfl⟩
              have hjs := json_is a n sg fg F u J HN.out HG.out hfg hF (by rw [hu]; exact hJ)
              have HJS := Lib.hid hjs
              have HF := Lib.hid hF
              have HFG := Lib.hid hfg
              have HJ := Lib.hid hJ
              have HU := Lib.hid hu
              have hfs : fg.size ≤ 20 := by rw [hfg, ofL_size, Lib.decDigits_length]; exact nDigits_le n (by omega)
              have hgs : sg.size ≤ 1 := by rw [HG.out, ofL_size]; split <;> simp
              have hus : u.size ≤ 20 := by rw [hu, upB_size]; exact hsz
              clear hF hfg hJ hjs hu
              go_wp2_with fail
              refine (toJSON_any a s F J _ (by omega) (plainB_asc HP.out) HF.out HJ.out h0 h1 HT.out).mono ?_
              rintro e w1 ⟨rfl, hb1⟩
              have HB1 := Lib.hid hb1
              clear hb1
              go_wp2_with fail
              refine (figures_is z n fg _ HZ.out (by omega) HFG.out).mono ?_
              rintro e w2 ⟨rfl, hb2⟩
              have HB2 := Lib.hid (HB1.out.trans (hb2.mono HB1.out.size))
              clear hb2
              go_wp2_with fail
              refine (upper_is s u _ (by omega) HU.out).mono ?_
              rintro e w3 ⟨rfl, hb3⟩
              have HB3 := Lib.hid (HB2.out.trans (hb3.mono HB2.out.size))
              have hjs := HJS.out
              clear hb3
              go_wp2_with fail
              go_ret
              exact ⟨rfl, HB3.out⟩
end Go.Proofs.YteejhpoddpcahaaDoor
