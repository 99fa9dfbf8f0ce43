/- FnAdd, walked: whatever the codes and numbers, the law returns true and leaves what was there. -/
import Derived.Test.YteanfkmchfhfpaaDoorAlive
namespace Go.Proofs.YteanfkmchfhfpaaDoor
open Go.RowKit

theorem amtList_fst (ss : List ByteArray) (zs : List Int) (h : ss.length = zs.length) : (amtList ss zs).map (·.1) = zs := by
  unfold amtList
  rw [List.map_map]
  have : ((fun x : Int × Cur => x.1) ∘ fun x : Int × ByteArray => (x.1, curFor (upB x.2))) = Prod.fst := rfl
  rw [this, List.map_fst_zip (by omega)]
theorem amtList_one (ss : List ByteArray) (zs : List Int) (h : ss.length = zs.length) : oneB ss = true ↔ ∀ x ∈ amtList ss zs, x.2.code = upB (ss.getD 0 ⟨#[]⟩) := by
  constructor
  · intro ho x hx
    obtain ⟨y, hy, rfl⟩ := List.mem_map.1 hx
    have hs : y.2 ∈ ss := (List.of_mem_zip hy).2
    have := List.all_eq_true.1 ho y.2 hs
    rw [code_curFor]
    exact bytes_eq this
  · intro hx
    refine List.all_eq_true.2 fun s hs => ?_
    obtain ⟨i, hi⟩ := List.getElem?_of_mem hs
    have hlt := (List.getElem?_eq_some_iff.1 hi).1
    have hm : (zs[i]'(by omega), curFor (upB s)) ∈ amtList ss zs := by
      refine List.mem_of_getElem? (i := i) ?_
      have hi2 : ss[i] = s := (List.getElem?_eq_some_iff.1 hi).2
      rw [List.getElem?_eq_getElem (by rw [amtList_length ss zs h]; exact hlt)]
      simp [amtList, hi2]
    have := hx _ hm
    rw [code_curFor] at this
    rw [this]; simp

theorem ErrAt.lawB {w w' : World} (h : ErrAt w) (hb : Below w.heap.size w w') : ErrAt w' := h.below hb

set_option maxRecDepth 100000 in
set_option maxHeartbeats 1000000 in
theorem fnAdd_in (A B : Option Addr) (c d : Nat) (ss : List ByteArray) (zs : List Int) (w : World) (hc : Cells w A (strV ss)) (hd : Cells w B (intV .i64 zs)) (hl : ss.length = zs.length) (hn : ss.length ≤ 20) (h0 : 0 < ss.length) (hp : plainsB ss = true)
    (hE : ErrAt w) (hz : ∀ z ∈ zs, -9223372036854775808 ≤ z ∧ z ≤ 9223372036854775807) :
    Calls Tryd.prog 4 #[.slice A ss.length c, .slice B ss.length d] w fun e w' => e = .returned (.bool true) ∧ Below w.heap.size w w' := by
  have HC := Lib.hid hc
  have HD := Lib.hid hd
  have HP := Lib.hid hp
  have HL := Lib.hid hl
  have HZ := Lib.hid hz
  have HE := Lib.hid hE
  clear hc hd hp hl hz hE
  have HSZ : Hid (∀ s ∈ ss, s.size ≤ 20) := fun s hs => plainB_size (List.all_eq_true.1 HP.out s hs)
  have HF : Hid (fitsB ss = true) := List.all_eq_true.2 fun s hs => decide_eq_true (by have := HSZ.out s hs; omega)
  go_enter Tryd.func4, Tryd.ntmps4
  go_wp2_with fail
  refine (fits2_any A c ss _ HC.out (by omega) (fun s hs => by have := HSZ.out s hs; unfold maxLen; omega)).mono ?_
  rintro e _ ⟨rfl, rfl⟩
  rw [HF.out]
  go_wp2_with fail
  refine (together_any A B c d ss _ HC.out h0 hn (fun s hs => by have := HSZ.out s hs; omega)).mono ?_
  rintro e w1 ⟨rfl, hb1⟩
  rw [HP.out, Bool.true_and]
  have HB1 := Lib.hid hb1
  clear hb1
  obtain ⟨b2, off2, rfl⟩ := HD.out.addr (by have := HL.out; simp [intV]; omega)
  go_wp2_with fail
  go_loop [7, 31] (fun s i => ∃ k : Nat, k ≤ ss.length ∧ i = .int .i64 k ∧ s = .int .i64 (wsum (zs.take k))) (fun _ i => ss.length - (intOf i).toNat)
  case atStart => exact ⟨0, Nat.zero_le _, rfl, rfl⟩
  case round =>
    obtain ⟨k, hk, rfl, rfl⟩ := hrel
    by_cases hlt : k < ss.length
    · have hlz : k < zs.length := by have := HL.out; omega
      have e1 := (HD.out.below HB1.out).at_ k _ (intV_get .i64 zs k hlz)
      have HW := Lib.hid (show wsum (zs.take (k + 1)) = wrap64 (wsum (zs.take k) + zs[k]) by rw [List.take_succ_eq_append_getElem hlz]; exact wsum_snoc _ _)
      go_wp2
      exact ⟨⟨k + 1, by omega, by go_num, by rw [HW.out]⟩, by simp [intOf]; omega⟩
    · have HT := Lib.hid (show zs.take k = zs by rw [List.take_of_length_le (by have := HL.out; omega)])
      rw [HT.out]
      go_wp2_with fail
      refine (implAdd_any A _ c d ss zs _ (HC.out.below HB1.out) (HD.out.below HB1.out) HL.out hn h0 HP.out (HE.out.below HB1.out) HZ.out).mono ?_
      rintro e w2 ⟨⟨hs, rfl⟩ | ⟨⟨x, hx, hne⟩, rfl⟩, hb2⟩
      · have HO : Hid (oneB ss = true) := (amtList_one ss zs HL.out).2 hs
        have HB2 := Lib.hid (HB1.out.trans (hb2.mono HB1.out.size))
        rw [HO.out, amtList_fst ss zs HL.out]
        obtain ⟨b, off, rfl⟩ := HC.out.addr (by simp [strV]; omega)
        have e2 := (HC.out.below HB2.out).at_ 0 _ (strV_get ss 0 h0)
        simp only [Nat.add_zero] at e2
        have HG := Lib.hid (show ss.getD 0 ⟨#[]⟩ = ss[0] by simp [List.getD, h0])
        rw [HG.out]
        have hz0 : ss[0].size ≤ 20 := HSZ.out _ (List.getElem_mem h0)
        clear hb2 hs
        go_wp2_with fail
        refine (upper_any ss[0] _ (by omega)).mono ?_
        rintro e w3 ⟨rfl, hb3⟩
        have HB3 := Lib.hid (HB2.out.trans (hb3.mono HB2.out.size))
        clear hb3 e2
        go_wp2_with fail
        refine (alive_any _ (HE.out.below HB3.out)).mono ?_
        rintro e w4 ⟨rfl, hb4⟩
        have HB4 := Lib.hid (HB3.out.trans (hb4.mono HB3.out.size))
        clear hb4
        go_wp2_with fail
        go_ret
        exact ⟨rfl, HB4.out⟩
      · have HO : Hid (oneB ss = false) := by
          refine Bool.eq_false_iff.2 fun h => ?_
          exact hne ((amtList_one ss zs HL.out).1 h x hx)
        have HB2 := Lib.hid (HB1.out.trans (hb2.mono HB1.out.size))
        rw [HO.out]
        clear hb2 hx hne
        go_wp2_with fail
        refine (alive_any _ (HE.out.below HB2.out)).mono ?_
        rintro e w4 ⟨rfl, hb4⟩
        have HB4 := Lib.hid (HB2.out.trans (hb4.mono HB2.out.size))
        clear hb4
        go_wp2_with fail
        go_ret
        exact ⟨rfl, HB4.out⟩

set_option maxRecDepth 100000 in
set_option maxHeartbeats 1000000 in
theorem fnAdd_no (A B : Option Addr) (c d : Nat) (ss : List ByteArray) (m : Nat) (w : World) (hc : Cells w A (strV ss)) (hn : ss.length ≤ 9223372036854775807) (hm : m ≤ 9223372036854775807) (hs : ∀ s ∈ ss, s.size ≤ maxLen)
    (hno : ss.length = 0 ∨ ss.length ≠ m ∨ 20 < ss.length ∨ plainsB ss = false) :
    Calls Tryd.prog 4 #[.slice A ss.length c, .slice B m d] w fun e w' => e = .returned (.bool true) ∧ Below w.heap.size w w' := by
  have HC := Lib.hid hc
  have HS := Lib.hid hs
  have HN := Lib.hid hno
  clear hc hs hno
  by_cases hbig : 2147483647 < ss.length
  · go_enter Tryd.func4, Tryd.ntmps4
    go_wp2_with fail
    refine (fits2_big A ss.length c _ hbig hn).mono ?_
    rintro e _ ⟨rfl, rfl⟩
    go_wp2_with fail
    go_ret
    exact ⟨rfl, Below.refl _ _⟩
  · cases hf : fitsB ss with
    | false =>
      have HF := Lib.hid hf
      clear hf
      go_enter Tryd.func4, Tryd.ntmps4
      go_wp2_with fail
      refine (fits2_any A c ss _ HC.out (by omega) HS.out).mono ?_
      rintro e _ ⟨rfl, rfl⟩
      rw [HF.out]
      go_wp2_with fail
      go_ret
      exact ⟨rfl, Below.refl _ _⟩
    | true =>
      have HF := Lib.hid hf
      clear hf
      by_cases hm2 : 2147483647 < m
      · go_enter Tryd.func4, Tryd.ntmps4
        go_wp2_with fail
        refine (fits2_any A c ss _ HC.out (by omega) HS.out).mono ?_
        rintro e _ ⟨rfl, rfl⟩
        rw [HF.out]
        go_wp2_with fail
        go_ret
        exact ⟨rfl, Below.refl _ _⟩
      · by_cases h3 : ss.length = 0 ∨ ss.length ≠ m ∨ 20 < ss.length
        · have H3 := Lib.hid h3
          clear h3
          go_enter Tryd.func4, Tryd.ntmps4
          go_wp2_with fail
          refine (fits2_any A c ss _ HC.out (by omega) HS.out).mono ?_
          rintro e _ ⟨rfl, rfl⟩
          rw [HF.out]
          go_wp2_with fail
          refine (together_no A B ss.length m c d _ (by omega) (by omega) H3.out).mono ?_
          rintro e _ ⟨rfl, rfl⟩
          go_wp2_with fail
          go_ret
          exact ⟨rfl, Below.refl _ _⟩
        · obtain rfl : m = ss.length := by omega
          have HP : Hid (plainsB ss = false) := by
            rcases HN.out with h | h | h | h
            · omega
            · omega
            · omega
            · exact h
          have h0 : 0 < ss.length := by omega
          have h20 : ss.length ≤ 20 := by omega
          clear h3
          go_enter Tryd.func4, Tryd.ntmps4
          go_wp2_with fail
          refine (fits2_any A c ss _ HC.out (by omega) HS.out).mono ?_
          rintro e _ ⟨rfl, rfl⟩
          rw [HF.out]
          go_wp2_with fail
          refine (together_any A B c d ss _ HC.out h0 h20 (fun s hs => of_decide_eq_true (List.all_eq_true.1 HF.out s hs))).mono ?_
          rintro e w1 ⟨rfl, hb1⟩
          rw [HP.out, Bool.false_and]
          go_wp2_with fail
          go_ret
          exact ⟨rfl, hb1⟩

theorem fnAdd_law (A : Option Addr) (c : Nat) (ss : List ByteArray) (B : Option Addr) (d : Nat) (zs : List Int) (w : World) (hc : Cells w A (strV ss)) (hs : ∀ s ∈ ss, s.size ≤ maxLen) (hn : ss.length ≤ maxLen)
    (hd : Cells w B (intV .i64 zs)) (hz : ∀ z ∈ zs, -9223372036854775808 ≤ z ∧ z ≤ 9223372036854775807) (hm : zs.length ≤ maxLen) (hE : ErrAt w) :
    Calls Tryd.prog 4 #[.slice A ss.length c, .slice B zs.length d] w fun e w' => e = .returned (.bool true) ∧ Below w.heap.size w w' := by
  unfold maxLen at hn hm
  by_cases h : ss.length = 0 ∨ ss.length ≠ zs.length ∨ 20 < ss.length ∨ plainsB ss = false
  · exact fnAdd_no A B c d ss zs.length w hc (by omega) (by omega) hs h
  · have hl : ss.length = zs.length := Decidable.byContradiction fun h1 => h (.inr (.inl h1))
    have h0 : 0 < ss.length := Nat.pos_of_ne_zero fun h1 => h (.inl h1)
    have h20 : ss.length ≤ 20 := Nat.le_of_not_lt fun h1 => h (.inr (.inr (.inl h1)))
    have hp : plainsB ss = true := by
      cases hp : plainsB ss with
      | true => rfl
      | false => exact absurd (.inr (.inr (.inr hp))) h
    rw [← hl]
    exact fnAdd_in A B c d ss zs w hc hd hl h20 h0 hp hE hz
end Go.Proofs.YteanfkmchfhfpaaDoor
