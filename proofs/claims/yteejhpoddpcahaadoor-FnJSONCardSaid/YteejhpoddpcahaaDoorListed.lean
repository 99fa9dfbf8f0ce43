/- impl.Split; laws.listed. -/
import Derived.Test.YteejhpoddpcahaaDoorSpSplit
namespace Go.Proofs.YteejhpoddpcahaaDoor
open Go.RowKit

theorem keep3 {W w w' : World} {p0 p1 p2 : Addr} {v0 v1 v2 : Value}
    (h : w.cell? p0 = some v0 ∧ w.cell? p1 = some v1 ∧ w.cell? p2 = some v2 ∧ Below W.heap.size W w) (hb : Below w.heap.size w w') :
    w'.cell? p0 = some v0 ∧ w'.cell? p1 = some v1 ∧ w'.cell? p2 = some v2 ∧ Below W.heap.size W w' := by
  obtain ⟨h0, h1, h2, h7⟩ := h
  exact ⟨keep_cell h0 hb, keep_cell h1 hb, keep_cell h2 hb, h7.trans (hb.mono h7.size)⟩
theorem below3 {W w : World} {p0 p1 p2 : Addr} {v0 v1 v2 : Value}
    (h : w.cell? p0 = some v0 ∧ w.cell? p1 = some v1 ∧ w.cell? p2 = some v2 ∧ Below W.heap.size W w) : Below W.heap.size W w := h.2.2.2
theorem upper_is (s u : ByteArray) (w : World) (hs : s.size ≤ 1000) (hu : u = upB s) :
    Calls Tryd.prog 28 #[.string s] w fun e w' => e = .returned (.string u) ∧ Below w.heap.size w w' := by
  rw [hu]; exact upper_any s w hs

set_option maxRecDepth 100000 in
set_option maxHeartbeats 4000000 in
theorem listed_yes (A B D : Option Addr) (c d e n : Nat) (zs : List Int) (s u : ByteArray) (w : World) (hA : Cells w A (intV .i64 zs)) (hB : Cells w B (strV (strsN u n))) (hD : Cells w D (intV .i64 zs)) (hn : zs.length = n) (hn1 : n ≤ 1000) (hs : s.size ≤ 1000) (hu : u = upB s) :
    Calls Tryd.prog 20 #[.slice A n c, .slice B n d, .slice D n e, .string s] w fun e w' => e = .returned (.bool true) ∧ Below w.heap.size w w' := by
  have HA := Lib.hid hA
  have HBB := Lib.hid hB
  have HD := Lib.hid hD
  have HU := Lib.hid hu
  have HN := Lib.hid hn
  clear hA hB hD hu hn
  have hbq : ((n : Int) == (n : Int)) = true := by simp
  go_enter Tryd.func20, Tryd.ntmps20
  go_wp2
  go_loopw [24] (fun i wr => ∃ k : Nat, k ≤ n ∧ i = .int .i64 k ∧ Hid (Below w.heap.size w wr)) (fun i _ => n - (intOf i).toNat)
  case atStart => exact ⟨0, Nat.zero_le _, rfl, Below.refl _ _⟩
  case round =>
    obtain ⟨k, hk, rfl, HB⟩ := hrel
    by_cases hlt : k < n
    · have hkz : k < zs.length := by have := HN.out; omega
      have hks : k < (strsN u n).length := by simp [strsN, hlt]
      obtain ⟨b1, o1, rfl⟩ := HA.out.addr (by simp [intV]; omega)
      obtain ⟨b2, o2, rfl⟩ := HBB.out.addr (by simp [strV, strsN]; omega)
      obtain ⟨b3, o3, rfl⟩ := HD.out.addr (by simp [intV]; omega)
      have e1 := (HA.out.below HB.out).at_ k _ (intV_get .i64 zs k hkz)
      have e2 := (HBB.out.below HB.out).at_ k _ (strV_get (strsN u n) k hks)
      have e3 := (HD.out.below HB.out).at_ k _ (intV_get .i64 zs k hkz)
      have hx : (strsN u n)[k] = u := by simp [strsN]
      rw [hx] at e2
      clear hx
      generalize zs[k] = z at e1 e3
      go_wp2_with fail
      go_region_held3 (fun w' => w'.cell? ⟨b1, o1 + k, none⟩ = some (.int .i64 z) ∧ w'.cell? ⟨b2, o2 + k, none⟩ = some (.string u) ∧ w'.cell? ⟨b3, o3 + k, none⟩ = some (.int .i64 z) ∧ Below w.heap.size w w') (first | exact ⟨e1, e2, e3, HB.out.drew⟩ | exact keep3 (by assumption) (by assumption)) (first
        | (go_at_call 28; refine (upper_is s u _ hs HU.out).mono ?_; rintro e wa ⟨rfl, hba⟩))
      all_goals
        have HFIN := Lib.hid (below3 (by assumption))
        go_wp2
        exact ⟨⟨k + 1, by omega, by go_num, HFIN⟩, by simp [intOf]; omega⟩
    · go_wp2
      go_ret
      exact ⟨rfl, HB.out⟩

set_option maxRecDepth 100000 in
set_option maxHeartbeats 2000000 in
theorem implSplit_yes (s : ByteArray) (a : Int) (n : Nat) (w : World) (hs : s.size ≤ 100) (ha : ascB s = true) (hn : 0 < n) (hn1 : n ≤ 1000) (h0 : -9223372036854775807 ≤ a) (h1 : a ≤ 9223372036854775807) :
    Calls Tryd.prog 19 #[.string s, .int .i64 a, .int .i64 n] w fun e w' => ∃ A B c d, e = .returned (.tuple #[.slice A n c, .slice B n d, .bool true]) ∧ Cells w' A (intV .i64 (intsF (splitF a n) n)) ∧ Cells w' B (strV (strsN (upB s) n)) ∧ Below w.heap.size w w' := by
  have HA := Lib.hid ha
  clear ha
  go_enter Tryd.func19, Tryd.ntmps19
  go_wp2_with fail
  refine (short_yes s _ hs).mono ?_
  rintro e _ ⟨rfl, rfl⟩
  go_wp2_with fail
  refine (new_any a s _ (by omega) HA.out).mono ?_
  rintro e w1 ⟨g1, rfl, hm1, hg1, hb1⟩
  have HM1 := Lib.hid hm1
  have HB1 := Lib.hid hb1
  clear hm1 hb1
  go_wp2_with fail
  refine (msplit_yes a n _ g1 _ HM1.out hn hn1 h0 h1).mono ?_
  rintro e w2 ⟨P, kc, rfl, hp, hk, hb2⟩
  have HB2 := Lib.hid (HB1.out.trans (hb2.mono HB1.out.size))
  have HP := Lib.hid hp
  have HK := Lib.hid hk
  clear hb2 hp hk
  go_wp2_with fail
  refine (parts_yes P n _ kc n _ (curFor (upB s)) _ HP.out HK.out hn1).mono ?_
  rintro e w3 ⟨v1, v2, rfl, ho1, ho2, hb3⟩
  obtain ⟨A, c, rfl, hc1⟩ := own_slice ho1
  obtain ⟨B, d, rfl, hc2⟩ := own_slice ho2
  rw [code_curFor] at hc2
  have HB3 := Lib.hid (HB2.out.trans (hb3.mono HB2.out.size))
  have HC1 := Lib.hid hc1
  have HC2 := Lib.hid hc2
  clear hb3 ho1 ho2 hc1 hc2
  go_wp2_with fail
  go_ret3
  exact ⟨A, B, c, d, rfl, HC1.out, HC2.out, HB3.out⟩

set_option maxRecDepth 100000 in
set_option maxHeartbeats 2000000 in
theorem implSplit_bad (s : ByteArray) (a n : Int) (w : World) (hs : s.size ≤ 100) (ha : ascB s = true) (hn : n ≤ 0) :
    Calls Tryd.prog 19 #[.string s, .int .i64 a, .int .i64 n] w fun e w' => e = .returned (.tuple #[.slice none 0 0, .slice none 0 0, .bool false]) ∧ Below w.heap.size w w' := by
  have HA := Lib.hid ha
  clear ha
  go_enter Tryd.func19, Tryd.ntmps19
  go_wp2_with fail
  refine (short_yes s _ hs).mono ?_
  rintro e _ ⟨rfl, rfl⟩
  go_wp2_with fail
  refine (new_any a s _ (by omega) HA.out).mono ?_
  rintro e w1 ⟨g1, rfl, hm1, hg1, hb1⟩
  have HB1 := Lib.hid hb1
  clear hm1 hb1
  go_wp2_with fail
  refine (msplit_bad n g1 _ hn).mono ?_
  rintro e w2 ⟨t, v, rfl, hb2⟩
  have HB2 := Lib.hid (HB1.out.trans (hb2.mono HB1.out.size))
  clear hb2
  go_wp2_with fail
  refine (parts_no _ _ _ t v _).mono ?_
  rintro e w3 ⟨rfl, hw3⟩
  obtain rfl := hw3.symm
  go_wp2_with fail
  go_ret3
  exact ⟨rfl, HB2.out⟩
end Go.Proofs.YteejhpoddpcahaaDoor
