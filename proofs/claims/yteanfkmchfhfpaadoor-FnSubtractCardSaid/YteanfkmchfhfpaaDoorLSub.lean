/- FnSubtract, walked. Printed by gensub.py. -/
import Derived.Test.YteanfkmchfhfpaaDoorImpSub
import Derived.Test.YteanfkmchfhfpaaDoorLAdd
namespace Go.Proofs.YteanfkmchfhfpaaDoor
open Go.RowKit


set_option maxRecDepth 100000 in
set_option maxHeartbeats 4000000 in
theorem fnSubtract_in (A B : Option Addr) (c d : Nat) (ss : List ByteArray) (zs : List Int) (w : World) (hc : Cells w A (strV ss)) (hd : Cells w B (intV .i64 zs)) (hl : ss.length = zs.length) (hn : ss.length ≤ 20) (h0 : 0 < ss.length) (hp : plainsB ss = true)
    (hE : ErrAt w) (hz : ∀ z ∈ zs, -9223372036854775808 ≤ z ∧ z ≤ 9223372036854775807) (hcap : zs.length ≤ d) :
    Calls Tryd.prog 11 #[.slice A ss.length c, .slice B ss.length d] w fun e w' => e = .returned (.bool true) ∧ Below w.heap.size w w' := by
  have HC := Lib.hid hc
  have HD := Lib.hid hd
  have HP := Lib.hid hp
  have HL := Lib.hid hl
  have HZ := Lib.hid hz
  have HE := Lib.hid hE
  clear hc hd hp hl hz hE
  have HSZ : Hid (∀ s ∈ ss, s.size ≤ 20) := fun s hs => plainB_size (List.all_eq_true.1 HP.out s hs)
  have HF : Hid (fitsB ss = true) := List.all_eq_true.2 fun s hs => decide_eq_true (by have := HSZ.out s hs; omega)
  go_enter Tryd.func11, Tryd.ntmps11
  go_wp2_with fail
  refine (fits2_any A c ss _ HC.out (by omega) (fun s hs => by have := HSZ.out s hs; unfold maxLen; omega)).mono ?_
  rintro e _ ⟨rfl, rfl⟩
  rw [HF.out]
  go_wp2_with fail
  refine (together_any A B c d ss _ HC.out h0 hn (fun s hs => by have := HSZ.out s hs; omega)).mono ?_
  rintro e w1 ⟨rfl, hb1⟩
  rw [HP.out, Bool.true_and]
  have HB1 := Lib.hid hb1
  clear hb1
  obtain ⟨b2, off2, rfl⟩ := HD.out.addr (by have := HL.out; simp [intV]; omega)
  obtain ⟨z0, zr, hzr⟩ : ∃ z0 zr, zs = z0 :: zr := by
    cases zs with
    | nil => exact absurd HL.out (by simp only [List.length_nil]; omega)
    | cons z0 zr => exact ⟨z0, zr, rfl⟩
  have HZR := Lib.hid hzr
  have hlr : zr.length + 1 = ss.length := by have := HL.out; rw [hzr] at this; simpa using this.symm
  have e0 := (HD.out.below HB1.out).at_ 0 _ (intV_get .i64 zs 0 (by have := HL.out; omega))
  simp only [Nat.add_zero] at e0
  have hz0 : zs[0]'(by have := HL.out; omega) = z0 := by simp [hzr]
  rw [hz0] at e0
  have HW0 : Hid (∀ k, (hk : k < zr.length) → w1.cell? ⟨b2, off2 + 1 + k, none⟩ = some (.int .i64 zr[k])) := fun k hk => by
    have h := (HD.out.below HB1.out).at_ (k + 1) _ (intV_get .i64 zs (k + 1) (by have := HL.out; omega))
    have hx : zs[k + 1]'(by have := HL.out; omega) = zr[k] := by simp [hzr]
    rw [hx] at h
    have ha : off2 + 1 + k = off2 + (k + 1) := by omega
    rw [ha]; exact h
  have HD1 := Lib.hid (show ∀ k, k < zr.length → d ≠ 1 from fun k hk => by have := HL.out; omega)
  have hi1 : (1 : Int) ≤ (ss.length : Int) := by omega
  clear hzr hz0 hcap
  by_cases hd : d = 1
  · have hzr0 : zr.length = 0 := by have := HD1.out 0; omega
    subst hd
    clear HD1
    go_wp2_with fail
    go_loop [7, 35] (fun s i => ∃ k : Nat, k ≤ zr.length ∧ i = .int .i64 k ∧ s = .int .i64 ((zr.take k).foldl (fun r n => wrap64 (r - n)) z0)) (fun _ i => ss.length - (intOf i).toNat)
    case atStart => exact ⟨0, Nat.zero_le _, rfl, rfl⟩
    case round =>
      obtain ⟨k, hk, rfl, rfl⟩ := hrel
      by_cases hlt : k < zr.length
      · exact absurd hlt (by omega)
      · have HT := Lib.hid (show (zr.take k).foldl (fun r n => wrap64 (r - n)) z0 = wdiff zs by rw [List.take_of_length_le (by omega), HZR.out]; rfl)
        rw [HT.out]
        go_wp2_with fail
        refine (implSub_any A _ c 1 ss zs _ (HC.out.below HB1.out) (HD.out.below HB1.out) HL.out hn h0 HP.out (HE.out.below HB1.out) HZ.out).mono ?_
        rintro e w2 ⟨⟨hs, rfl⟩ | ⟨⟨x, hx, hne⟩, rfl⟩, hb2⟩
        · have HO : Hid (oneB ss = true) := (amtList_one ss zs HL.out).2 hs
          have HB2 := Lib.hid (HB1.out.trans (hb2.mono HB1.out.size))
          rw [HO.out, amtList_fst ss zs HL.out]
          obtain ⟨b, off, rfl⟩ := HC.out.addr (by simp [strV]; omega)
          have e2 := (HC.out.below HB2.out).at_ 0 _ (strV_get ss 0 h0)
          simp only [Nat.add_zero] at e2
          have HG := Lib.hid (show ss.getD 0 ⟨#[]⟩ = ss[0] by simp [List.getD, h0])
          rw [HG.out]
          have hz0 : ss[0].size ≤ 20 := HSZ.out _ (List.getElem_mem h0)
          clear hb2 hs
          go_wp2_with fail
          refine (upper_any ss[0] _ (by omega)).mono ?_
          rintro e w3 ⟨rfl, hb3⟩
          have HB3 := Lib.hid (HB2.out.trans (hb3.mono HB2.out.size))
          clear hb3 e2
          go_wp2_with fail
          refine (alive_any _ (HE.out.below HB3.out)).mono ?_
          rintro e w4 ⟨rfl, hb4⟩
          have HB4 := Lib.hid (HB3.out.trans (hb4.mono HB3.out.size))
          clear hb4
          go_wp2_with fail
          go_ret
          exact ⟨rfl, HB4.out⟩
        · have HO : Hid (oneB ss = false) := by
            refine Bool.eq_false_iff.2 fun h => ?_
            exact hne ((amtList_one ss zs HL.out).1 h x hx)
          have HB2 := Lib.hid (HB1.out.trans (hb2.mono HB1.out.size))
          rw [HO.out]
          clear hb2 hx hne
          go_wp2_with fail
          refine (alive_any _ (HE.out.below HB2.out)).mono ?_
          rintro e w4 ⟨rfl, hb4⟩
          have HB4 := Lib.hid (HB2.out.trans (hb4.mono HB2.out.size))
          clear hb4
          go_wp2_with fail
          go_ret
          exact ⟨rfl, HB4.out⟩
  · clear HD1
    go_wp2_with fail
    go_loop [7, 35] (fun s i => ∃ k : Nat, k ≤ zr.length ∧ i = .int .i64 k ∧ s = .int .i64 ((zr.take k).foldl (fun r n => wrap64 (r - n)) z0)) (fun _ i => ss.length - (intOf i).toNat)
    case atStart => exact ⟨0, Nat.zero_le _, rfl, rfl⟩
    case round =>
      obtain ⟨k, hk, rfl, rfl⟩ := hrel
      by_cases hlt : k < zr.length
      · have e1 := HW0.out k hlt
        have HW := Lib.hid (show (zr.take (k + 1)).foldl (fun r n => wrap64 (r - n)) z0 = wrap64 ((zr.take k).foldl (fun r n => wrap64 (r - n)) z0 - zr[k]) by rw [List.take_succ_eq_append_getElem hlt, List.foldl_append]; rfl)
        go_wp2
        exact ⟨⟨k + 1, by omega, by go_num, by rw [HW.out]⟩, by simp [intOf]; omega⟩
      · have HT := Lib.hid (show (zr.take k).foldl (fun r n => wrap64 (r - n)) z0 = wdiff zs by rw [List.take_of_length_le (by omega), HZR.out]; rfl)
        rw [HT.out]
        go_wp2_with fail
        refine (implSub_any A _ c d ss zs _ (HC.out.below HB1.out) (HD.out.below HB1.out) HL.out hn h0 HP.out (HE.out.below HB1.out) HZ.out).mono ?_
        rintro e w2 ⟨⟨hs, rfl⟩ | ⟨⟨x, hx, hne⟩, rfl⟩, hb2⟩
        · have HO : Hid (oneB ss = true) := (amtList_one ss zs HL.out).2 hs
          have HB2 := Lib.hid (HB1.out.trans (hb2.mono HB1.out.size))
          rw [HO.out, amtList_fst ss zs HL.out]
          obtain ⟨b, off, rfl⟩ := HC.out.addr (by simp [strV]; omega)
          have e2 := (HC.out.below HB2.out).at_ 0 _ (strV_get ss 0 h0)
          simp only [Nat.add_zero] at e2
          have HG := Lib.hid (show ss.getD 0 ⟨#[]⟩ = ss[0] by simp [List.getD, h0])
          rw [HG.out]
          have hz0 : ss[0].size ≤ 20 := HSZ.out _ (List.getElem_mem h0)
          clear hb2 hs
          go_wp2_with fail
          refine (upper_any ss[0] _ (by omega)).mono ?_
          rintro e w3 ⟨rfl, hb3⟩
          have HB3 := Lib.hid (HB2.out.trans (hb3.mono HB2.out.size))
          clear hb3 e2
          go_wp2_with fail
          refine (alive_any _ (HE.out.below HB3.out)).mono ?_
          rintro e w4 ⟨rfl, hb4⟩
          have HB4 := Lib.hid (HB3.out.trans (hb4.mono HB3.out.size))
          clear hb4
          go_wp2_with fail
          go_ret
          exact ⟨rfl, HB4.out⟩
        · have HO : Hid (oneB ss = false) := by
            refine Bool.eq_false_iff.2 fun h => ?_
            exact hne ((amtList_one ss zs HL.out).1 h x hx)
          have HB2 := Lib.hid (HB1.out.trans (hb2.mono HB1.out.size))
          rw [HO.out]
          clear hb2 hx hne
          go_wp2_with fail
          refine (alive_any _ (HE.out.below HB2.out)).mono ?_
          rintro e w4 ⟨rfl, hb4⟩
          have HB4 := Lib.hid (HB2.out.trans (hb4.mono HB2.out.size))
          clear hb4
          go_wp2_with fail
          go_ret
          exact ⟨rfl, HB4.out⟩

set_option maxRecDepth 100000 in
set_option maxHeartbeats 1000000 in
theorem fnSubtract_no (A B : Option Addr) (c d : Nat) (ss : List ByteArray) (m : Nat) (w : World) (hc : Cells w A (strV ss)) (hn : ss.length ≤ 9223372036854775807) (hm : m ≤ 9223372036854775807) (hs : ∀ s ∈ ss, s.size ≤ maxLen)
    (hno : ss.length = 0 ∨ ss.length ≠ m ∨ 20 < ss.length ∨ plainsB ss = false) :
    Calls Tryd.prog 11 #[.slice A ss.length c, .slice B m d] w fun e w' => e = .returned (.bool true) ∧ Below w.heap.size w w' := by
  have HC := Lib.hid hc
  have HS := Lib.hid hs
  have HN := Lib.hid hno
  clear hc hs hno
  by_cases hbig : 2147483647 < ss.length
  · go_enter Tryd.func11, Tryd.ntmps11
    go_wp2_with fail
    refine (fits2_big A ss.length c _ hbig hn).mono ?_
    rintro e _ ⟨rfl, rfl⟩
    go_wp2_with fail
    go_ret
    exact ⟨rfl, Below.refl _ _⟩
  · cases hf : fitsB ss with
    | false =>
      have HF := Lib.hid hf
      clear hf
      go_enter Tryd.func11, Tryd.ntmps11
      go_wp2_with fail
      refine (fits2_any A c ss _ HC.out (by omega) HS.out).mono ?_
      rintro e _ ⟨rfl, rfl⟩
      rw [HF.out]
      go_wp2_with fail
      go_ret
      exact ⟨rfl, Below.refl _ _⟩
    | true =>
      have HF := Lib.hid hf
      clear hf
      by_cases hm2 : 2147483647 < m
      · go_enter Tryd.func11, Tryd.ntmps11
        go_wp2_with fail
        refine (fits2_any A c ss _ HC.out (by omega) HS.out).mono ?_
        rintro e _ ⟨rfl, rfl⟩
        rw [HF.out]
        go_wp2_with fail
        go_ret
        exact ⟨rfl, Below.refl _ _⟩
      · by_cases h3 : ss.length = 0 ∨ ss.length ≠ m ∨ 20 < ss.length
        · have H3 := Lib.hid h3
          clear h3
          go_enter Tryd.func11, Tryd.ntmps11
          go_wp2_with fail
          refine (fits2_any A c ss _ HC.out (by omega) HS.out).mono ?_
          rintro e _ ⟨rfl, rfl⟩
          rw [HF.out]
          go_wp2_with fail
          refine (together_no A B ss.length m c d _ (by omega) (by omega) H3.out).mono ?_
          rintro e _ ⟨rfl, rfl⟩
          go_wp2_with fail
          go_ret
          exact ⟨rfl, Below.refl _ _⟩
        · obtain rfl : m = ss.length := by omega
          have HP : Hid (plainsB ss = false) := by
            rcases HN.out with h | h | h | h
            · omega
            · omega
            · omega
            · exact h
          have h0 : 0 < ss.length := by omega
          have h20 : ss.length ≤ 20 := by omega
          clear h3
          go_enter Tryd.func11, Tryd.ntmps11
          go_wp2_with fail
          refine (fits2_any A c ss _ HC.out (by omega) HS.out).mono ?_
          rintro e _ ⟨rfl, rfl⟩
          rw [HF.out]
          go_wp2_with fail
          refine (together_any A B c d ss _ HC.out h0 h20 (fun s hs => of_decide_eq_true (List.all_eq_true.1 HF.out s hs))).mono ?_
          rintro e w1 ⟨rfl, hb1⟩
          rw [HP.out, Bool.false_and]
          go_wp2_with fail
          go_ret
          exact ⟨rfl, hb1⟩

theorem fnSubtract_law (A : Option Addr) (c : Nat) (ss : List ByteArray) (B : Option Addr) (d : Nat) (zs : List Int) (w : World) (hc : Cells w A (strV ss)) (hs : ∀ s ∈ ss, s.size ≤ maxLen) (hn : ss.length ≤ maxLen)
    (hd : Cells w B (intV .i64 zs)) (hz : ∀ z ∈ zs, -9223372036854775808 ≤ z ∧ z ≤ 9223372036854775807) (hm : zs.length ≤ maxLen) (hcap : zs.length ≤ d) (hE : ErrAt w) :
    Calls Tryd.prog 11 #[.slice A ss.length c, .slice B zs.length d] w fun e w' => e = .returned (.bool true) ∧ Below w.heap.size w w' := by
  unfold maxLen at hn hm
  by_cases h : ss.length = 0 ∨ ss.length ≠ zs.length ∨ 20 < ss.length ∨ plainsB ss = false
  · exact fnSubtract_no A B c d ss zs.length w hc (by omega) (by omega) hs h
  · have hl : ss.length = zs.length := Decidable.byContradiction fun h1 => h (.inr (.inl h1))
    have h0 : 0 < ss.length := Nat.pos_of_ne_zero fun h1 => h (.inl h1)
    have h20 : ss.length ≤ 20 := Nat.le_of_not_lt fun h1 => h (.inr (.inr (.inl h1)))
    have hp : plainsB ss = true := by
      cases hp : plainsB ss with
      | true => rfl
      | false => exact absurd (.inr (.inr (.inr hp))) h
    rw [← hl]
    exact fnSubtract_in A B c d ss zs w hc hd hl h20 h0 hp hE hz hcap
end Go.Proofs.YteanfkmchfhfpaaDoor
