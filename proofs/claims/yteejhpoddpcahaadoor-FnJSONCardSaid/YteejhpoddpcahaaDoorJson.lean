/- defaultMarshalJSON, MarshalJSON, impl.ToJSON. -/
import Derived.Test.YteejhpoddpcahaaDoorTab
import Derived.Test.YteejhpoddpcahaaDoorSpFmt
import Derived.Test.YteejhpoddpcahaaDoorImp
import Derived.Laws.StructEq
namespace Go.Proofs.YteejhpoddpcahaaDoor
open Go.RowKit

/-- An amount as JSON: F its number, u its code. -/
def jsonB (F u : ByteArray) : ByteArray :=
  ⟨#[123, 34, 97, 109, 111, 117, 110, 116, 34, 58, 32]⟩ ++ F ++ ⟨#[44, 32, 34, 99, 117, 114, 114, 101, 110, 99, 121, 34, 58, 32, 34]⟩ ++ u ++ ⟨#[34, 125]⟩
theorem formatInt_is (n : Int) (F : ByteArray) (w : World) (hF : F = ofL (Lib.itoa n)) (h0 : -9223372036854775808 ≤ n) (h1 : n ≤ 9223372036854775807) (hT : TabAt w) :
    Calls Tryd.prog 45 #[.int .i64 n, .int .i64 10] w fun e w' => e = .returned (.string F) ∧ Below w.heap.size w w' := by
  rw [hF]; exact formatInt_any n w h0 h1 hT
theorem itoa_size (n : Int) (h0 : -9223372036854775808 ≤ n) (h1 : n ≤ 9223372036854775807) : (Lib.itoa n).length ≤ 30 := by
  unfold Lib.itoa
  split
  · rw [List.length_cons, Lib.decDigits_length]
    have := nDigits_le n.natAbs (by omega)
    omega
  · rw [Lib.decDigits_length]
    have := nDigits_le n.toNat (by omega)
    omega

/-- The bytes of s lie in block g. -/
def BytesOf (w : World) (g : Nat) (s : ByteArray) : Prop := ∀ j (h : j < s.data.toList.length), w.cell? ⟨g, j, none⟩ = some (.int .u8 (s.data.toList[j].toNat : Int))
theorem UpTo.bytes {w : World} {g : Nat} {s : ByteArray} (h : UpTo w g s 0) : BytesOf w g s := by
  intro j hj
  obtain ⟨C, n, hh, _, hc⟩ := h
  have := hc j s.data.toList[j] (List.getElem?_eq_getElem hj)
  simp only [Nat.not_lt_zero, if_false] at this
  simp [World.cell?, hh, this]

theorem ptr_ne (kc : Nat) : ∀ w, (Op.equalIn 9999 60 (.pointer (some ⟨kc, 0, none⟩)) (.pointer none)).run Tryd.prog w = .ok false w := fun w => by kernel_rfl
set_option maxRecDepth 100000 in
set_option maxHeartbeats 2000000 in
theorem marshal_any (a : Int) (c : Cur) (kc : Nat) (F J : ByteArray) (w : World) (hk : Blk w kc 87 c.cells) (hF : F = ofL (Lib.itoa a)) (hJ : jsonB F c.code = J) (hs : c.code.size ≤ 100) (h0 : -9223372036854775808 ≤ a) (h1 : a ≤ 9223372036854775807) (hT : TabAt w) :
    Calls Tryd.prog 63 #[.agg #[.int .i64 a, .pointer (some ⟨kc, 0, none⟩)]] w fun e w' => ∃ g cap, e = .returned (.tuple #[.slice (some ⟨g, 0, none⟩) J.size cap, .nilIface]) ∧ BytesOf w' g J ∧ Below w.heap.size w w' := by
  have HK := Lib.hid hk
  have HF := Lib.hid hF
  have HJ := Lib.hid hJ
  have HT := Lib.hid hT
  have hFs : F.size ≤ 30 := by rw [hF, ofL_size]; exact itoa_size a h0 h1
  have hq := ptr_ne kc
  clear hk hF hJ hT
  go_enter Tryd.func63, Tryd.ntmps63
  go_wp2_with fail
  have hblk := Blk.new w 90 #[.int .i64 a, .pointer (some ⟨kc, 0, none⟩)]
  have HB1 := Lib.hid ((Below.refl w.heap.size w).alloc (Nat.le_refl _) (.cells #[.int .i64 a, .pointer (some ⟨kc, 0, none⟩)] 90))
  have HK1 := Lib.hid (HK.out.alloc (.cells #[.int .i64 a, .pointer (some ⟨kc, 0, none⟩)] 90))
  generalize w.alloc _ = w1 at *
  generalize hkk : w.heap.size = k at *
  have HKK := Lib.hid hkk
  have HM1 := Lib.hid hblk
  clear hblk hq hkk
  refine (amount_any a c k _ ⟨kc, HM1.out, HK1.out⟩).mono ?_
  rintro e w2 ⟨rfl, rfl⟩
  go_wp2_with fail
  refine (formatInt_is a F _ HF.out h0 h1 (HT.out.below (HKK.out ▸ HB1.out))).mono ?_
  rintro e w3 ⟨rfl, hb3⟩
  have HB3 := Lib.hid (HB1.out.trans (hb3.mono (by have := HB1.out.size; have := HKK.out; omega)))
  have HM3 := Lib.hid (HM1.out.below hb3 HM1.out.lt)
  have e0 : w3.cell? ⟨kc, 0, none⟩ = some (.string c.code) := (HK1.out.below hb3 HK1.out.lt).cell 0
  clear hb3 HB1 HM1 HK1
  go_wp2_with fail
  refine (currency_any a kc k _ HM3.out).mono ?_
  rintro e w4 ⟨rfl, hw4⟩
  obtain rfl := hw4.symm
  obtain ⟨w5, cap, hconv, hu, hb5⟩ := up_start J w3
  have HU := Lib.hid hu.bytes
  have HB5 := Lib.hid (HB3.out.trans (hb5.mono (by have := HB3.out.size; have := HKK.out; omega)))
  have hJJ := HJ.out
  unfold jsonB at hJJ
  clear hu hb5 HM3
  go_wp2_with fail
  go_ret2
  exact ⟨_, _, rfl, HU.out, HKK.out ▸ HB5.out⟩

set_option maxRecDepth 100000 in
set_option maxHeartbeats 1000000 in
theorem marshalJSON_any (a : Int) (c : Cur) (kc : Nat) (F J : ByteArray) (w : World) (hk : Blk w kc 87 c.cells) (hF : F = ofL (Lib.itoa a)) (hJ : jsonB F c.code = J) (hs : c.code.size ≤ 100) (h0 : -9223372036854775808 ≤ a) (h1 : a ≤ 9223372036854775807) (hT : TabAt w) :
    Calls Tryd.prog 43 #[.agg #[.int .i64 a, .pointer (some ⟨kc, 0, none⟩)]] w fun e w' => ∃ g cap, e = .returned (.tuple #[.slice (some ⟨g, 0, none⟩) J.size cap, .nilIface]) ∧ BytesOf w' g J ∧ Below w.heap.size w w' := by
  have HK := Lib.hid hk
  have HF := Lib.hid hF
  have HJ := Lib.hid hJ
  have HT := Lib.hid hT
  clear hk hF hJ hT
  go_enter Tryd.func43, Tryd.ntmps43
  go_wp2_with fail
  have HB1 := Lib.hid ((Below.refl w.heap.size w).alloc (Nat.le_refl _) (.cells #[.int .i64 a, .pointer (some ⟨kc, 0, none⟩)] 90))
  have HK1 := Lib.hid (HK.out.alloc (.cells #[.int .i64 a, .pointer (some ⟨kc, 0, none⟩)] 90))
  generalize w.alloc _ = w1 at *
  refine (marshal_any a c kc F J _ HK1.out HF.out HJ.out hs h0 h1 (HT.out.below HB1.out)).mono ?_
  rintro e w2 ⟨g, cap, rfl, hc, hb2⟩
  have HB2 := Lib.hid (HB1.out.trans (hb2.mono HB1.out.size))
  have HC := Lib.hid hc
  clear hb2 hc
  go_wp2_with fail
  go_ret2
  exact ⟨g, cap, rfl, HC.out, HB2.out⟩

set_option maxRecDepth 100000 in
set_option maxHeartbeats 2000000 in
theorem toJSON_any (a : Int) (s F J : ByteArray) (w : World) (hs : s.size ≤ 100) (ha : ascB s = true) (hF : F = ofL (Lib.itoa a)) (hJ : jsonB F (upB s) = J) (h0 : -9223372036854775808 ≤ a) (h1 : a ≤ 9223372036854775807) (hT : TabAt w) :
    Calls Tryd.prog 26 #[.int .i64 a, .string s] w fun e w' => e = .returned (.tuple #[.string J, .bool true]) ∧ Below w.heap.size w w' := by
  have HA := Lib.hid ha
  have HF := Lib.hid hF
  obtain ⟨c, hc⟩ : ∃ c, c = curFor (upB s) := ⟨_, rfl⟩
  have HCC := Lib.hid hc
  have HJ := Lib.hid (show jsonB F c.code = J by rw [hc, code_curFor]; exact hJ)
  have HT := Lib.hid hT
  have hz : c.code.size ≤ 100 := by rw [hc, code_curFor, upB_size]; exact hs
  clear ha hF hJ hT hc
  go_enter Tryd.func26, Tryd.ntmps26
  go_wp2_with fail
  refine (short_yes s _ hs).mono ?_
  rintro e _ ⟨rfl, rfl⟩
  go_wp2_with fail
  refine (new_any a s _ (by omega) HA.out).mono ?_
  rintro e w1 ⟨g1, rfl, hm1, hg1, hb1⟩
  rw [← HCC.out] at hm1
  obtain ⟨kc, hb, hk⟩ := hm1
  have e0 : w1.cell? ⟨g1, 0, none⟩ = some (.int .i64 a) := hb.cell 0
  have e1 : w1.cell? ⟨g1, 1, none⟩ = some (.pointer (some ⟨kc, 0, none⟩)) := hb.cell 1
  have HK := Lib.hid hk
  have HB1 := Lib.hid hb1
  clear hb hk hb1 hg1
  go_wp2_with fail
  refine (marshalJSON_any a c kc F J _ HK.out HF.out HJ.out hz h0 h1 (HT.out.below HB1.out)).mono ?_
  rintro e w2 ⟨g, cap, rfl, hby, hb2⟩
  have HB2 := Lib.hid (HB1.out.trans (hb2.mono HB1.out.size))
  have hcv : (convert 72 9 (.slice (some ⟨g, 0, none⟩) J.size cap)).run Tryd.prog w2.drew = .ok (.string J) w2.drew := by
    have h := run_convert_bytes_back (P := Tryd.prog) w2.drew 72 9 5 ⟨g, 0, none⟩ cap J.data.toList Tryd.underlying72 Tryd.underlying5 Tryd.underlying9 (fun j hj => by rw [addr0]; exact hby j hj)
    rw [← Lib.size_eq] at h
    exact h
  clear hb2 hby e0 e1
  go_wp2_with fail
  go_region
  go_wp2_with fail
  go_ret2
  exact ⟨rfl, HB2.out.drew⟩
end Go.Proofs.YteejhpoddpcahaaDoor
