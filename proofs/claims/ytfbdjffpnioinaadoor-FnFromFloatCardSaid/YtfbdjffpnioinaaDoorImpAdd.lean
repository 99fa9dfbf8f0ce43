/- impl.Add: amounts of one currency are added, of several ones they are not. -/
import Derived.Test.YtfbdjffpnioinaaDoorImp
import Derived.Deep.RegionHeld3
namespace Go.Proofs.YtfbdjffpnioinaaDoor
open Go.RowKit

set_option maxRecDepth 100000 in
set_option maxHeartbeats 4000000 in
theorem implAdd_any (A B : Option Addr) (c d : Nat) (ss : List ByteArray) (zs : List Int) (w : World) (hc : Cells w A (strV ss)) (hd : Cells w B (intV .i64 zs)) (hl : ss.length = zs.length) (hn : ss.length ≤ 20) (h0 : 0 < ss.length) (hp : plainsB ss = true) (hE : ErrAt w) (hz : ∀ z ∈ zs, -9223372036854775808 ≤ z ∧ z ≤ 9223372036854775807) :
    Calls Tryd.prog 26 #[.slice A ss.length c, .slice B ss.length d] w (AddRes w (amtList ss zs) (upB (ss.getD 0 ⟨#[]⟩))) := by
  have HC := Lib.hid hc
  have HD := Lib.hid hd
  have HP := Lib.hid hp
  have HL := Lib.hid hl
  have HZ := Lib.hid hz
  have HE := Lib.hid hE
  clear hc hd hp hl hz hE
  go_enter Tryd.func26, Tryd.ntmps26
  go_wp2_with fail
  refine (amounts_any A B c d ss zs _ HC.out HD.out HL.out hn h0 HP.out).mono ?_
  rintro e w1 ⟨v, rfl, hm1, hb1⟩
  have hlen := amtList_length ss zs HL.out
  obtain ⟨g, cap, rfl, hcap⟩ := hm1.form (by omega)
  rw [hlen] at hm1 hcap ⊢
  have HM1 := Lib.hid hm1.amts
  have HB1 := Lib.hid hb1
  clear hm1 hb1
  have e0 : ((ss.length : Int) == 0) = false := by rw [beq_eq_false_iff_ne]; omega
  obtain ⟨x, l, hx⟩ : ∃ x l, amtList ss zs = x :: l := by
    cases h : amtList ss zs with
    | nil => rw [h] at hlen; simp at hlen; omega
    | cons x l => exact ⟨x, l, rfl⟩
  obtain ⟨g0, hg0, hx0⟩ := HM1.out.at_ 0 x (by rw [hx]; rfl)
  simp only [Nat.add_zero] at hg0
  have HX := Lib.hid hx
  have HX0 := Lib.hid hx0
  clear hx hx0 hlen
  have hll : l.length + 1 = ss.length := by have := amtList_length ss zs HL.out; rw [HX.out] at this; simpa using this
  have hhead := amtList_head HX.out
  have hg0 : ss.getD 0 ⟨#[]⟩ = ss[0] := by simp [List.getD, h0]
  have hp0 := plains_get ss HP.out 0 h0
  have HU : Hid (upB (ss.getD 0 ⟨#[]⟩) = x.2.code) := by rw [hhead.2, code_curFor]; rfl
  have HS : Hid (x.2.code.size ≤ 1000) := by
    have := plainB_size hp0
    rw [hhead.2, code_curFor, upB_size, hg0]
    show ss[0].size ≤ 1000
    omega
  have HAS : Hid (ascB x.2.code = true) := by
    rw [hhead.2, code_curFor, hg0]
    exact upB_asc _ (plainB_asc hp0)
  have HZ0 := Lib.hid (HZ.out x.1 hhead.1)
  have HG0 := Lib.hid hg0
  clear hhead hg0 hp0
  have HA1 := Lib.hid (show Amts w1 (some ⟨g, 0, none⟩) (x :: l) by rw [← HX.out]; exact HM1.out)
  have hi1 : (1 : Int) ≤ (ss.length : Int) := by omega
  by_cases hcap1 : cap = 1
  · have hn1 : ss.length = 1 := by omega
    have hl0 : l.length = 0 := by omega
    have hlnil : l = [] := List.eq_nil_of_length_eq_zero hl0
    subst hlnil
    clear hl0
    have HT := Lib.hid (show Amts w1 (some ⟨g, 0, none⟩) [] from fun h => by simp at h)
    have HSAME := Lib.hid (show ∀ y ∈ ([] : List (Int × Cur)), y.2.code = x.2.code from fun _ h => by cases h)
    rw [hn1] at *
    subst hcap1
    clear hll hcap hi1
    have hi1 : (1 : Int) ≤ 1 := by omega
    have HCALL := Lib.hid (fun (wx : World) (hS : wx.cell? ⟨g, 0, none⟩ = some (.pointer (some ⟨g0, 0, none⟩)) ∧ Below w1.heap.size w1 wx) => madd_yes x.1 x.2 g0 (some ⟨g, 0, none⟩) (0) (0) [] wx (HX0.out.below hS.2) (HT.out.below hS.2) rfl (by simp) HS.out HAS.out ((HE.out.below HB1.out).below hS.2) HZ0.out.1 HZ0.out.2 HSAME.out)
    go_wp2_with fail
    go_region_held3 (fun w' => w'.cell? ⟨g, 0, none⟩ = some (.pointer (some ⟨g0, 0, none⟩)) ∧ Below w1.heap.size w1 w') (first | exact ⟨hg0, (Below.refl _ _).drew⟩ | exact keepS (by assumption) (by assumption)) (first
      | (go_at_call 36; refine (HCALL.out _ (by assumption)).mono ?_; rintro e w2 ⟨gr, rfl, hgr, hbr⟩)
      | (go_at_call 35; refine (told_yesB _ _ gr _ hgr).mono ?_; rintro e w3 ⟨rfl, hbr3⟩))
    all_goals
      have hfin := And.right (show _ ∧ Below w1.heap.size w1 _ by assumption)
      have HFIN := Lib.hid hfin
      clear hfin
      go_wp2
      go_ret3
      refine ⟨.inl ⟨fun y hy => ?_, ?_⟩, ?_⟩
      · rw [HX.out] at hy
        first | rw [HU.out] | rw [HG0.out.symm, HU.out]
        rcases List.mem_cons.1 hy with rfl | hy
        · rfl
        · exact HSAME.out y hy
      · rw [HX.out]; first | rw [HU.out] | rw [HG0.out.symm, HU.out]
        rw [List.map_cons, wsum_cons]; rfl
      · exact HB1.out.trans (HFIN.out.mono HB1.out.size)
  · have hcap3 : 2 ≤ cap := by omega
    have HT := Lib.hid (show Amts w1 (some ⟨g, 1, none⟩) l by have := Amts.tail HA1.out; simpa using this)
    by_cases hsame : ∀ y ∈ l, y.2.code = x.2.code
    · have HSAME := Lib.hid hsame
      clear hsame
      have HCALL := Lib.hid (fun (wx : World) (hS : wx.cell? ⟨g, 0, none⟩ = some (.pointer (some ⟨g0, 0, none⟩)) ∧ Below w1.heap.size w1 wx) => madd_yes x.1 x.2 g0 (some ⟨g, 1, none⟩) (ss.length - 1) (cap - 1) l wx (HX0.out.below hS.2) (HT.out.below hS.2) (by omega) (by omega) HS.out HAS.out ((HE.out.below HB1.out).below hS.2) HZ0.out.1 HZ0.out.2 HSAME.out)
      go_wp2_with fail
      go_region_held3 (fun w' => w'.cell? ⟨g, 0, none⟩ = some (.pointer (some ⟨g0, 0, none⟩)) ∧ Below w1.heap.size w1 w') (first | exact ⟨hg0, (Below.refl _ _).drew⟩ | exact keepS (by assumption) (by assumption)) (first
        | (go_at_call 36; refine (HCALL.out _ (by assumption)).mono ?_; rintro e w2 ⟨gr, rfl, hgr, hbr⟩)
        | (go_at_call 35; refine (told_yesB _ _ gr _ hgr).mono ?_; rintro e w3 ⟨rfl, hbr3⟩))
      all_goals
        have hfin := And.right (show _ ∧ Below w1.heap.size w1 _ by assumption)
        have HFIN := Lib.hid hfin
        clear hfin
        go_wp2
        go_ret3
        refine ⟨.inl ⟨fun y hy => ?_, ?_⟩, ?_⟩
        · rw [HX.out] at hy
          first | rw [HU.out] | rw [HG0.out.symm, HU.out]
          rcases List.mem_cons.1 hy with rfl | hy
          · rfl
          · exact HSAME.out y hy
        · rw [HX.out]; first | rw [HU.out] | rw [HG0.out.symm, HU.out]
          rw [List.map_cons, wsum_cons]; rfl
        · exact HB1.out.trans (HFIN.out.mono HB1.out.size)
    · have HSAME := Lib.hid (show ∃ y ∈ l, y.2.code ≠ x.2.code by simpa using hsame)
      clear hsame
      have HCALL := Lib.hid (fun (wx : World) (hS : wx.cell? ⟨g, 0, none⟩ = some (.pointer (some ⟨g0, 0, none⟩)) ∧ Below w1.heap.size w1 wx) => madd_no x.1 x.2 g0 (some ⟨g, 1, none⟩) (ss.length - 1) (cap - 1) l wx (HX0.out.below hS.2) (HT.out.below hS.2) (by omega) (by omega) HS.out HAS.out ((HE.out.below HB1.out).below hS.2) HZ0.out.1 HZ0.out.2 HSAME.out)
      go_wp2_with fail
      go_region_held3 (fun w' => w'.cell? ⟨g, 0, none⟩ = some (.pointer (some ⟨g0, 0, none⟩)) ∧ Below w1.heap.size w1 w') (first | exact ⟨hg0, (Below.refl _ _).drew⟩ | exact keepS (by assumption) (by assumption)) (first
        | (go_at_call 36; refine (HCALL.out _ (by assumption)).mono ?_; rintro e w2 ⟨tr, vr, rfl, hbr⟩)
        | (go_at_call 35; refine (told_noB none tr vr _).mono ?_; rintro e w3 ⟨rfl, hbr3⟩))
      all_goals
        have hfin := And.right (show _ ∧ Below w1.heap.size w1 _ by assumption)
        have HFIN := Lib.hid hfin
        clear hfin
        go_wp2
        go_ret3
        refine ⟨.inr ⟨?_, rfl⟩, ?_⟩
        · obtain ⟨y, hy, hne⟩ := HSAME.out
          exact ⟨y, by rw [HX.out]; exact List.mem_cons_of_mem _ hy, by first | (rw [HU.out]; exact hne) | (rw [HG0.out.symm, HU.out]; exact hne)⟩
        · exact HB1.out.trans (HFIN.out.mono HB1.out.size)
end Go.Proofs.YtfbdjffpnioinaaDoor
