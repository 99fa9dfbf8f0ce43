/- FnMultiply, walked: at every code, amount and list of factors the law returns true and leaves what was there. -/
import Derived.Test.YteanfkmchfhfpaaDoorAlive
namespace Go.Proofs.YteanfkmchfhfpaaDoor
open Go.RowKit

theorem wrap_form (b : Int) : ∃ q, wrap64 b = b + 18446744073709551616 * q := ⟨-((b + 9223372036854775808) / 18446744073709551616), by unfold wrap64; omega⟩
theorem wrap_shift (x k : Int) : wrap64 (x + 18446744073709551616 * k) = wrap64 x := by unfold wrap64; omega
theorem wrap_mul (a b : Int) : wrap64 (a * wrap64 b) = wrap64 (a * b) := by
  obtain ⟨q, hq⟩ := wrap_form b
  rw [hq, Int.mul_add, Int.mul_left_comm]
  exact wrap_shift _ _
theorem wrap_mul' (a b : Int) : wrap64 (wrap64 a * b) = wrap64 (a * b) := by rw [Int.mul_comm, wrap_mul, Int.mul_comm]
/-- The product that goes round at 64 bits, from a first factor on. -/
def wmul (s : Int) (l : List Int) : Int := l.foldl (fun s a => wrap64 (s * a)) s
theorem wmul_snoc (s : Int) (l : List Int) (a : Int) : wmul s (l ++ [a]) = wrap64 (wmul s l * a) := by simp [wmul]
theorem wmul_from (a : Int) (l : List Int) : ∀ s : Int, wrap64 (a * wmul s l) = wmul (wrap64 (a * s)) l := by
  induction l with
  | nil => intro s; rfl
  | cons x l ih =>
    intro s
    have e1 : wmul s (x :: l) = wmul (wrap64 (s * x)) l := rfl
    have e2 : wmul (wrap64 (a * s)) (x :: l) = wmul (wrap64 (wrap64 (a * s) * x)) l := rfl
    rw [e1, e2, ih, wrap_mul, wrap_mul', Int.mul_assoc]

set_option maxHeartbeats 400000 in
theorem multiply_calc (p : Option Addr) (a b : Int) (w : World) : Calls Tryd.prog 60 #[.pointer p, .int .i64 a, .int .i64 b] w fun e w' => e = .returned (.int .i64 (wrap64 (a * b))) ∧ w = w' := by
  go_enter Tryd.func60, Tryd.ntmps60
  go_wp2
  go_ret
  exact ⟨rfl, rfl⟩

set_option maxRecDepth 100000 in
set_option maxHeartbeats 2000000 in
theorem mmultiply_any (a0 : Int) (c0 : Cur) (g0 : Nat) (b off cap : Nat) (zs : List Int) (w : World) (h0 : MoneyAt w g0 a0 c0) (hl : Cells w (some ⟨b, off, none⟩) (intV .i64 zs)) (hn : 0 < zs.length) (hm : zs.length ≤ 1000)
    (hs : c0.code.size ≤ 1000) (ha : ascB c0.code = true) :
    Calls Tryd.prog 42 #[.pointer (some ⟨g0, 0, none⟩), .slice (some ⟨b, off, none⟩) zs.length cap] w (GotMoney (wrap64 (a0 * wmul 1 zs)) c0 w) := by
  obtain ⟨k0, m0, q0⟩ := h0
  have e0 : w.cell? ⟨g0, 0, none⟩ = some (.int .i64 a0) := m0.cell 0
  have e1 : w.cell? ⟨g0, 1, none⟩ = some (.pointer (some ⟨k0, 0, none⟩)) := m0.cell 1
  have e2 : w.cell? ⟨k0, 0, none⟩ = some (.string c0.code) := q0.cell 0
  have M0 := Lib.hid m0
  have Q0 := Lib.hid q0
  have HL := Lib.hid hl
  have HA := Lib.hid ha
  have hne : ((zs.length : Int) == 0) = false := by rw [beq_eq_false_iff_ne]; omega
  clear m0 q0 hl ha
  go_enter Tryd.func42, Tryd.ntmps42
  go_wp2_with fail
  refine (new_any 1 c0.code _ hs HA.out).mono ?_
  rintro e w1 ⟨gk, rfl, hk, hgk, hb1⟩
  obtain ⟨kk, mk, qk⟩ := hk
  have MK := Lib.hid mk
  have HB1 := Lib.hid hb1
  clear e0 e1 e2 mk qk hb1
  go_wp2_with fail
  go_loopw [22] (fun i wr => ∃ j : Nat, j ≤ zs.length ∧ i = .int .i64 j ∧ Hid (Blk wr gk 81 #[.int .i64 (wmul 1 (zs.take j)), .pointer (some ⟨kk, 0, none⟩)]) ∧ Hid (Below w.heap.size w wr)) (fun i _ => zs.length - (intOf i).toNat)
  case atStart => exact ⟨0, Nat.zero_le _, rfl, MK, HB1⟩
  case round =>
    clear MK HB1
    obtain ⟨j, hj, rfl, MK, HB⟩ := hrel
    obtain ⟨pj, hpj⟩ : ∃ p, p = wmul 1 (zs.take j) := ⟨_, rfl⟩
    rw [← hpj] at MK
    have HPJ := Lib.hid hpj
    clear hpj
    by_cases hlt : j < zs.length
    · have e3 := (HL.out.below HB.out).at_ j _ (intV_get .i64 zs j hlt)
      have e5 : wr.cell? ⟨gk, 0, none⟩ = some (.int .i64 pj) := MK.out.cell 0
      have e6 : wr.frozen? ⟨gk, 0, none⟩ = false := MK.out.frozen 0
      have l1 : gk < wr.heap.size := MK.out.lt
      go_wp2_with fail
      go_region_with (first
          | (go_at_call 54; refine (calc_any _).mono ?_; rintro e w' ⟨rfl, rfl⟩)
          | (go_at_call 60; refine (multiply_calc _ _ _ _).mono ?_; rintro e w' ⟨rfl, rfl⟩))
      all_goals
        go_wp2
        refine ⟨⟨j + 1, by omega, by go_num, ?_, ((HB.out.setCell hgk _).alloc (by have := HB.out.size; simpa [World.setCell] using this) _).drew⟩, by simp [intOf]; omega⟩
        have hw : wmul 1 (zs.take (j + 1)) = wrap64 (pj * zs[j]) := by rw [List.take_succ_eq_append_getElem hlt, wmul_snoc, HPJ.out]
        rw [hw]
        exact ((MK.out.set_ 0 _).alloc _).drew
    · have m1 : Blk wr g0 81 #[.int .i64 a0, .pointer (some ⟨k0, 0, none⟩)] := M0.out.below HB.out M0.out.lt
      have e4 : wr.cell? ⟨g0, 0, none⟩ = some (.int .i64 a0) := m1.cell 0
      have e7 : wr.cell? ⟨g0, 1, none⟩ = some (.pointer (some ⟨k0, 0, none⟩)) := m1.cell 1
      have e5 : wr.cell? ⟨gk, 0, none⟩ = some (.int .i64 pj) := MK.out.cell 0
      have l1 : gk < wr.heap.size := MK.out.lt
      have l2 : g0 < wr.heap.size := m1.lt
      clear m1
      go_wp2_with fail
      go_region_held3 (fun w' => w'.cell? ⟨g0, 0, none⟩ = some (.int .i64 a0) ∧ w'.cell? ⟨gk, 0, none⟩ = some (.int .i64 pj) ∧ w'.cell? ⟨g0, 1, none⟩ = some (.pointer (some ⟨k0, 0, none⟩))) (go_keep) (first
          | (go_at_call 54; refine (calc_any _).mono ?_; rintro e w' ⟨rfl, rfl⟩)
          | (go_at_call 60; refine (multiply_calc _ _ _ _).mono ?_; rintro e w' ⟨rfl, rfl⟩))
      all_goals
        go_wp2
        go_ret
        have hz : wr.heap.size + 1 = (wr.alloc (.cells #[] 99)).heap.size := by simp
        have q1 : Blk wr k0 79 c0.cells := Q0.out.below HB.out Q0.out.lt
        refine ⟨_, rfl, ⟨k0, ?_, ((q1.alloc _).alloc _).drew⟩, by have := HB.out.size; omega, ((HB.out.alloc HB.out.size _).alloc (by have := HB.out.size; simp; omega) _).drew⟩
        rw [hz]
        have ht : wmul 1 zs = pj := by rw [HPJ.out, List.take_of_length_le (by omega)]
        rw [ht]
        exact (Blk.new _ _ _).drew

theorem upB_code_size {s : ByteArray} (h : plainB s = true) : (curFor (upB s)).code.size ≤ 1000 := by
  have := plainB_size h
  rw [code_curFor, upB_size]; omega
theorem upB_code_asc {s : ByteArray} (h : plainB s = true) : ascB (curFor (upB s)).code = true := by
  rw [code_curFor]; exact upB_asc s (plainB_asc h)

set_option maxRecDepth 100000 in
set_option maxHeartbeats 1000000 in
theorem implMultiply_any (s : ByteArray) (a : Int) (B : Option Addr) (d : Nat) (zs : List Int) (w : World) (hp : plainB s = true) (hd : Cells w B (intV .i64 zs)) (h0 : 0 < zs.length) (hm : zs.length ≤ 20) :
    Calls Tryd.prog 25 #[.string s, .int .i64 a, .slice B zs.length d] w fun e w' => e = .returned (.int .i64 (wrap64 (a * wmul 1 zs))) ∧ Below w.heap.size w w' := by
  have hs := plainB_size hp
  have HP := Lib.hid hp
  obtain ⟨b, off, rfl⟩ := hd.addr (by simp [intV]; omega)
  have HD := Lib.hid hd
  have hne : ((zs.length : Int) == 0) = false := by rw [beq_eq_false_iff_ne]; omega
  clear hp hd
  go_enter Tryd.func25, Tryd.ntmps25
  go_wp2_with fail
  refine (short_yes s _ (by omega)).mono ?_
  rintro e _ ⟨rfl, rfl⟩
  go_wp2_with fail
  refine (new_any a s _ (by omega) (plainB_asc HP.out)).mono ?_
  rintro e w1 ⟨g1, rfl, hm1, hg1, hb1⟩
  have HM1 := Lib.hid hm1
  have HB1 := Lib.hid hb1
  clear hm1 hb1
  go_wp2_with fail
  refine (mmultiply_any a _ g1 b off d zs _ HM1.out (HD.out.below HB1.out) h0 (by omega) (upB_code_size HP.out) (upB_code_asc HP.out)).mono ?_
  rintro e w2 ⟨g2, rfl, hm2, hg2, hb2⟩
  have HM2 := Lib.hid hm2
  have HB2 := Lib.hid hb2
  clear hm2 hb2
  go_wp2_with fail
  refine (amount_any _ _ g2 _ HM2.out).mono ?_
  rintro e w3 ⟨rfl, rfl⟩
  go_wp2_with fail
  go_ret
  exact ⟨rfl, HB1.out.trans (HB2.out.mono HB1.out.size)⟩

set_option maxRecDepth 100000 in
set_option maxHeartbeats 1000000 in
theorem fnMultiply_in (s : ByteArray) (a : Int) (B : Option Addr) (d : Nat) (zs : List Int) (w : World) (hp : plainB s = true) (hd : Cells w B (intV .i64 zs)) (h0 : 0 < zs.length) (hm : zs.length ≤ 20) (hlo : -9223372036854775808 ≤ a) (hhi : a ≤ 9223372036854775807) (hE : ErrAt w) :
    Calls Tryd.prog 8 #[.string s, .int .i64 a, .slice B zs.length d] w fun e w' => e = .returned (.bool true) ∧ Below w.heap.size w w' := by
  have hs := plainB_size hp
  have HP := Lib.hid hp
  obtain ⟨b, off, rfl⟩ := hd.addr (by simp [intV]; omega)
  have HD := Lib.hid hd
  have HE := Lib.hid hE
  have hne : ((zs.length : Int) == 0) = false := by rw [beq_eq_false_iff_ne]; omega
  have HA : Hid (wrap64 (a * wmul 1 zs) = wmul a zs) := by
    have e : wrap64 a = a := by unfold wrap64; omega
    rw [wmul_from, Int.mul_one, e]; rfl
  clear hp hd hE hlo hhi
  go_enter Tryd.func8, Tryd.ntmps8
  go_wp2_with fail
  refine (plain_any s _ (by unfold maxLen; omega)).mono ?_
  rintro e _ ⟨rfl, rfl⟩
  rw [HP.out]
  go_wp2_with fail
  go_loop [7, 34] (fun p i => ∃ k : Nat, k ≤ zs.length ∧ i = .int .i64 k ∧ p = .int .i64 (wmul a (zs.take k))) (fun _ i => zs.length - (intOf i).toNat)
  case atStart => exact ⟨0, Nat.zero_le _, rfl, rfl⟩
  case round =>
    obtain ⟨k, hk, rfl, rfl⟩ := hrel
    by_cases hlt : k < zs.length
    · have e1 := HD.out.at_ k _ (intV_get .i64 zs k hlt)
      have HW := Lib.hid (show wmul a (zs.take (k + 1)) = wrap64 (wmul a (zs.take k) * zs[k]) by rw [List.take_succ_eq_append_getElem hlt]; exact wmul_snoc _ _ _)
      go_wp2
      exact ⟨⟨k + 1, by omega, by go_num, by rw [HW.out]⟩, by simp [intOf]; omega⟩
    · have HT := Lib.hid (show zs.take k = zs by rw [List.take_of_length_le (by omega)])
      rw [HT.out]
      go_wp2_with fail
      refine (implMultiply_any s a _ d zs _ HP.out HD.out h0 hm).mono ?_
      rintro e w2 ⟨rfl, hb2⟩
      rw [HA.out]
      have HB2 := Lib.hid hb2
      clear hb2
      go_wp2_with fail
      refine (alive_any _ (HE.out.below HB2.out)).mono ?_
      rintro e w4 ⟨rfl, hb4⟩
      have HB4 := Lib.hid (HB2.out.trans (hb4.mono HB2.out.size))
      clear hb4
      go_wp2_with fail
      go_ret
      exact ⟨rfl, HB4.out⟩

set_option maxRecDepth 100000 in
set_option maxHeartbeats 1000000 in
theorem fnMultiply_law (s : ByteArray) (a : Int) (B : Option Addr) (d : Nat) (zs : List Int) (w : World) (hs : s.size ≤ maxLen) (hlo : -9223372036854775808 ≤ a) (hhi : a ≤ 9223372036854775807) (hd : Cells w B (intV .i64 zs)) (_hz : ∀ z ∈ zs, -9223372036854775808 ≤ z ∧ z ≤ 9223372036854775807) (hm : zs.length ≤ maxLen) (hE : ErrAt w) :
    Calls Tryd.prog 8 #[.string s, .int .i64 a, .slice B zs.length d] w fun e w' => e = .returned (.bool true) ∧ Below w.heap.size w w' := by
  by_cases hin : plainB s = true ∧ 0 < zs.length ∧ zs.length ≤ 20
  · exact fnMultiply_in s a B d zs w hin.1 hd hin.2.1 hin.2.2 hlo hhi hE
  · have hs' : s.size ≤ 9223372036854775807 := by unfold maxLen at hs; omega
    have hm' : zs.length ≤ 9223372036854775807 := by unfold maxLen at hm; omega
    have HS := Lib.hid hs
    clear hs hm hd hE hlo hhi _hz
    by_cases hbig : 2147483647 < s.size
    · clear hin
      go_enter Tryd.func8, Tryd.ntmps8
      go_wp2_with fail
      go_ret
      exact ⟨rfl, Below.refl _ _⟩
    · by_cases hbig2 : 2147483647 < zs.length
      · clear hin
        go_enter Tryd.func8, Tryd.ntmps8
        go_wp2_with fail
        go_ret
        exact ⟨rfl, Below.refl _ _⟩
      · cases hp : plainB s with
        | false =>
          have HP := Lib.hid hp
          clear hp hin
          go_enter Tryd.func8, Tryd.ntmps8
          go_wp2_with fail
          refine (plain_any s _ HS.out).mono ?_
          rintro e _ ⟨rfl, rfl⟩
          rw [HP.out]
          go_wp2_with fail
          go_ret
          exact ⟨rfl, Below.refl _ _⟩
        | true =>
          have HP := Lib.hid hp
          by_cases h0 : zs.length = 0
          · have hne : ((zs.length : Int) == 0) = true := by rw [h0]; rfl
            clear hp hin h0
            go_enter Tryd.func8, Tryd.ntmps8
            go_wp2_with fail
            refine (plain_any s _ HS.out).mono ?_
            rintro e _ ⟨rfl, rfl⟩
            rw [HP.out]
            go_wp2_with fail
            go_ret
            exact ⟨rfl, Below.refl _ _⟩
          · have hne : ((zs.length : Int) == 0) = false := by rw [beq_eq_false_iff_ne]; omega
            have h20 : 20 < zs.length := Nat.lt_of_not_le fun h => hin ⟨hp, by omega, h⟩
            clear hp hin h0
            go_enter Tryd.func8, Tryd.ntmps8
            go_wp2_with fail
            refine (plain_any s _ HS.out).mono ?_
            rintro e _ ⟨rfl, rfl⟩
            rw [HP.out]
            go_wp2_with fail
            go_ret
            exact ⟨rfl, Below.refl _ _⟩
end Go.Proofs.YteanfkmchfhfpaaDoor
