/- Currency.Formatter, Money.Display, impl.Display; FnDisplay, walked. -/
import Derived.Test.YteejhpoddpcahaaDoorLFmt
import Derived.Test.YteejhpoddpcahaaDoorCoin
namespace Go.Proofs.YteejhpoddpcahaaDoor
open Go.RowKit

set_option maxRecDepth 100000 in
set_option maxHeartbeats 2000000 in
theorem cfmt_any (c : Cur) (f : Nat) (g : Nat) (w : World) (h : Blk w g 87 c.cells) (hf : c.frac = f) :
    Calls Tryd.prog 54 #[.pointer (some ⟨g, 0, none⟩)] w (GotFmt f c.dec c.thou c.graph c.tmpl w) := by
  have e2 : w.cell? ⟨g, 2, none⟩ = some (.int .i64 f) := by rw [← hf]; exact h.cell 2
  have e3 : w.cell? ⟨g, 3, none⟩ = some (.string c.graph) := h.cell 3
  have e4 : w.cell? ⟨g, 4, none⟩ = some (.string c.tmpl) := h.cell 4
  have e5 : w.cell? ⟨g, 5, none⟩ = some (.string c.dec) := h.cell 5
  have e6 : w.cell? ⟨g, 6, none⟩ = some (.string c.thou) := h.cell 6
  clear h hf
  go_enter Tryd.func54, Tryd.ntmps54
  go_wp2_with fail
  go_still_tail 21, (by kernel_rfl)
  change wpList _ _ _ _ _ w.drew
  have HB := Lib.hid ((Below.refl w.heap.size w).drew)
  have hz : w.drew.heap.size = w.heap.size := rfl
  generalize w.drew = w1 at *
  have HZ := Lib.hid hz
  clear hz e2 e3 e4 e5 e6
  go_wp2
  go_ret
  exact ⟨_, rfl, Blk.new _ _ _, HB.out.alloc HB.out.size _⟩

def curFairB (c : Cur) : Bool := decide (0 ≤ c.frac) && decide (c.frac ≤ 4) && decide (c.graph.size ≤ 20) && decide (c.tmpl.size ≤ 20) && decide (c.dec.size ≤ 20) && decide (c.thou.size ≤ 20)
theorem tab_fair : (curTab.all curFairB) = true := by kernel_rfl
theorem curFor_fair (u : ByteArray) (hu : u.size ≤ 20) : curFairB (curFor u) = true := by
  unfold curFor
  cases h : curOf u with
  | none =>
    show curFairB (defCur u) = true
    unfold curFairB defCur
    have : decide (u.size ≤ 20) = true := decide_eq_true hu
    simp only [this]; rfl
  | some c =>
    unfold curOf curFind at h
    exact List.all_eq_true.1 tab_fair c (List.mem_of_find?_eq_some h)
/-- A currency's figures and texts are bounded. -/
theorem curFor_bounds (u : ByteArray) (hu : u.size ≤ 20) : ∃ f : Nat, (curFor u).frac = f ∧ f ≤ 4 ∧ (curFor u).graph.size ≤ 20 ∧ (curFor u).tmpl.size ≤ 20 ∧ (curFor u).dec.size ≤ 20 ∧ (curFor u).thou.size ≤ 20 := by
  have h := curFor_fair u hu
  unfold curFairB at h
  simp only [Bool.and_eq_true, decide_eq_true_eq] at h
  obtain ⟨⟨⟨⟨⟨h0, h1⟩, h2⟩, h3⟩, h4⟩, h5⟩ := h
  exact ⟨(curFor u).frac.toNat, by omega, by omega, h2, h3, h4, h5⟩

theorem get_is (c : Cur) (g : Nat) (w : World) (h : Blk w g 87 c.cells) (hc : curFor c.code = c) :
    Calls Tryd.prog 53 #[.pointer (some ⟨g, 0, none⟩)] w (GotCur c w) := by
  have := get_any c g w h
  rw [hc] at this
  exact this
theorem cfmt_is (c : Cur) (f : Nat) (g : Nat) (w : World) (h : Blk w g 87 c.cells) (hf : c.frac = f) :
    Calls Tryd.prog 54 #[.pointer (some ⟨g, 0, none⟩)] w fun e w' => ∃ g, e = .returned (.pointer (some ⟨g, 0, none⟩)) ∧ Hid (Blk w' g 79 (fmtCells f c.dec c.thou c.graph c.tmpl)) ∧ Below w.heap.size w w' := cfmt_any c f g w h hf
theorem format_is (f : Nat) (D T G M : ByteArray) (a : Int) (g : Nat) (R : ByteArray) (w : World) (hR : R = ofL (fmtL f D.data.toList T.data.toList G.data.toList M.data.toList a)) (hb : Blk w g 79 (fmtCells f D T G M)) (hf : f ≤ 18) (hD : D.size ≤ 100) (hT : T.size ≤ 100) (hG : G.size ≤ 100) (hM : M.size ≤ 100)
    (h0 : -9223372036854775807 ≤ a) (h1 : a ≤ 9223372036854775807) (hTab : TabAt w) :
    Calls Tryd.prog 31 #[.pointer (some ⟨g, 0, none⟩), .int .i64 a] w fun e w' => e = .returned (.string R) ∧ Below w.heap.size w w' := by
  rw [hR]; exact format_any f D T G M a g w hb hf hD hT hG hM h0 h1 hTab

set_option maxRecDepth 100000 in
set_option maxHeartbeats 4000000 in
theorem mdisplay_any (a : Int) (c : Cur) (f : Nat) (g : Nat) (R : ByteArray) (w : World) (hm : MoneyAt w g a c) (hc : curFor c.code = c) (hR : R = ofL (fmtL f c.dec.data.toList c.thou.data.toList c.graph.data.toList c.tmpl.data.toList a))
    (hf : c.frac = f) (hf4 : f ≤ 4) (h3 : c.graph.size ≤ 20) (h4 : c.tmpl.size ≤ 20) (h5 : c.dec.size ≤ 20) (h6 : c.thou.size ≤ 20) (h0 : -9223372036854775807 ≤ a) (h1 : a ≤ 9223372036854775807) (hT : TabAt w) :
    Calls Tryd.prog 39 #[.pointer (some ⟨g, 0, none⟩)] w fun e w' => e = .returned (.string R) ∧ Below w.heap.size w w' := by
  obtain ⟨kc, hb, hk⟩ := hm
  have HM := Lib.hid hb
  have HK := Lib.hid hk
  have HC := Lib.hid hc
  have HR := Lib.hid hR
  have HF := Lib.hid hf
  have HT := Lib.hid hT
  have e1 : w.cell? ⟨g, 1, none⟩ = some (.pointer (some ⟨kc, 0, none⟩)) := hb.cell 1
  clear hb hk hc hR hf hT
  go_enter Tryd.func39, Tryd.ntmps39
  go_wp2_with fail
  refine (get_is c kc _ HK.out HC.out).mono ?_
  rintro e w1 ⟨gc, rfl, hgc, _, hb1⟩
  have HB1 := Lib.hid hb1
  have HG := Lib.hid hgc
  have e0 : w1.cell? ⟨g, 0, none⟩ = some (.int .i64 a) := (HM.out.below hb1 HM.out.lt).cell 0
  clear hb1 hgc e1
  go_wp2_with fail
  go_region_held3 (fun w' => w'.cell? ⟨g, 0, none⟩ = some (.int .i64 a) ∧ Below w1.heap.size w1 w') (first | exact ⟨e0, (Below.refl _ _).drew⟩ | exact keepS (by assumption) (by assumption)) (first
    | (go_at_call 54; refine (cfmt_is c f gc _ (HG.out.below (And.right (by assumption)) HG.out.lt) HF.out).mono ?_; rintro e w2 ⟨gf, rfl, HGF, hb2⟩)
    | (go_at_call 31; refine (format_is f c.dec c.thou c.graph c.tmpl a gf R _ HR.out HGF.out (by omega) (by omega) (by omega) (by omega) (by omega) h0 h1 (HT.out.below (HB1.out.trans (Below.mono (And.right (by assumption)) HB1.out.size)))).mono ?_; rintro e w3 ⟨rfl, hb3⟩))
  all_goals
    have HFIN := Lib.hid (And.right (by assumption) : Below w1.heap.size w1 _)
    go_wp2
    go_ret
    exact ⟨rfl, HB1.out.trans (HFIN.out.mono HB1.out.size)⟩

theorem code_twice (u : ByteArray) : curFor (curFor u).code = curFor u := by rw [code_curFor]

set_option maxRecDepth 100000 in
set_option maxHeartbeats 2000000 in
theorem implDisplay_any (a : Int) (s : ByteArray) (c : Cur) (f : Nat) (R : ByteArray) (w : World) (hs : s.size ≤ 100) (ha : ascB s = true) (hc : c = curFor (upB s)) (hR : R = ofL (fmtL f c.dec.data.toList c.thou.data.toList c.graph.data.toList c.tmpl.data.toList a))
    (hf : c.frac = f) (hf4 : f ≤ 4) (h3 : c.graph.size ≤ 20) (h4 : c.tmpl.size ≤ 20) (h5 : c.dec.size ≤ 20) (h6 : c.thou.size ≤ 20) (h0 : -9223372036854775807 ≤ a) (h1 : a ≤ 9223372036854775807) (hT : TabAt w) :
    Calls Tryd.prog 18 #[.int .i64 a, .string s] w fun e w' => e = .returned (.string R) ∧ Below w.heap.size w w' := by
  have HA := Lib.hid ha
  have HC := Lib.hid hc
  have HC2 := Lib.hid (show curFor c.code = c by rw [hc]; exact code_twice _)
  have HR := Lib.hid hR
  have HF := Lib.hid hf
  have HT := Lib.hid hT
  clear ha hc hR hf hT
  go_enter Tryd.func18, Tryd.ntmps18
  go_wp2_with fail
  refine (short_yes s _ hs).mono ?_
  rintro e _ ⟨rfl, rfl⟩
  go_wp2_with fail
  refine (new_any a s _ (by omega) HA.out).mono ?_
  rintro e w1 ⟨g1, rfl, hm1, hg1, hb1⟩
  rw [← HC.out] at hm1
  have HM1 := Lib.hid hm1
  have HB1 := Lib.hid hb1
  clear hm1 hb1
  go_wp2_with fail
  refine (mdisplay_any a c f g1 R _ HM1.out HC2.out HR.out HF.out hf4 h3 h4 h5 h6 h0 h1 (HT.out.below HB1.out)).mono ?_
  rintro e w2 ⟨rfl, hb2⟩
  have HB2 := Lib.hid (HB1.out.trans (hb2.mono HB1.out.size))
  clear hb2
  go_wp2_with fail
  go_ret
  exact ⟨rfl, HB2.out⟩

theorem implOf_is (s : ByteArray) (c : Cur) (f : Nat) (w : World) (hs : s.size ≤ 100) (ha : ascB s = true) (hc : c = curFor (upB s)) (hf : c.frac = f) :
    Calls Tryd.prog 17 #[.string s] w fun e w' => e = .returned (.agg #[.string c.code, .string c.num, .int .i64 f, .string c.graph, .string c.tmpl, .string c.dec, .string c.thou]) ∧ Below w.heap.size w w' :=
  (implOf_any s w hs ha).mono fun e w' ⟨he, hb⟩ => ⟨by rw [he, ← hc, ← hf, Cur.val, Cur.cells], hb⟩

set_option maxRecDepth 100000 in
set_option maxHeartbeats 4000000 in
theorem fnDisplay_in (a : Int) (s : ByteArray) (w : World) (hp : plainB s = true) (h0 : -9223372036854775807 ≤ a) (h1 : a ≤ 9223372036854775807) (hE : ErrAt w) (hT : TabAt w) :
    Calls Tryd.prog 4 #[.int .i64 a, .string s] w fun e w' => e = .returned (.bool true) ∧ Below w.heap.size w w' := by
  have hs := plainB_size hp
  have HA := Lib.hid (plainB_asc hp)
  have HP := Lib.hid hp
  have HE := Lib.hid hE
  have HT := Lib.hid hT
  have hne : (a == -9223372036854775808) = false := by rw [beq_eq_false_iff_ne]; omega
  obtain ⟨c, hc⟩ : ∃ c, c = curFor (upB s) := ⟨_, rfl⟩
  obtain ⟨f, hf, hf4, h3, h4, h5, h6⟩ := curFor_bounds (upB s) (by rw [upB_size]; exact hs)
  rw [← hc] at hf h3 h4 h5 h6
  have HC := Lib.hid hc
  have HF := Lib.hid hf
  obtain ⟨R, hR⟩ : ∃ R, R = ofL (fmtL f c.dec.data.toList c.thou.data.toList c.graph.data.toList c.tmpl.data.toList a) := ⟨_, rfl⟩
  have HR := Lib.hid hR
  clear hp hE hT hc hf hR
  go_enter Tryd.func4, Tryd.ntmps4
  go_wp2_with fail
  refine (plain_any s _ (by unfold maxLen; omega)).mono ?_
  rintro e _ ⟨rfl, rfl⟩
  rw [HP.out]
  go_wp2_with fail
  refine (implOf_is s c f _ (by omega) HA.out HC.out HF.out).mono ?_
  rintro e w2 ⟨rfl, hb2⟩
  have HB2 := Lib.hid hb2
  clear hb2
  go_wp2_with fail
  have hf7 := Blk.new w2 23 #[.string c.code, .string c.num, .int .i64 f, .string c.graph, .string c.tmpl, .string c.dec, .string c.thou]
  have HB := Lib.hid (HB2.out.alloc HB2.out.size (.cells #[.string c.code, .string c.num, .int .i64 f, .string c.graph, .string c.tmpl, .string c.dec, .string c.thou] 23))
  generalize w2.alloc _ = w3 at *
  generalize w2.heap.size = k at *
  have e0 := hf7.cell 0
  have e1 := hf7.cell 1
  have e2 := hf7.cell 2
  have e3 := hf7.cell 3
  have e4 := hf7.cell 4
  have e5 := hf7.cell 5
  have e6 := hf7.cell 6
  simp only [List.getElem?_toArray, List.getElem?_cons_zero, List.getElem?_cons_succ] at e0 e1 e2 e3 e4 e5 e6
  clear hf7
  go_region_held3 (fun w' => w'.cell? ⟨k, 0, none⟩ = some (.string c.code) ∧ w'.cell? ⟨k, 1, none⟩ = some (.string c.num) ∧ w'.cell? ⟨k, 2, none⟩ = some (.int .i64 f) ∧ w'.cell? ⟨k, 3, none⟩ = some (.string c.graph) ∧ w'.cell? ⟨k, 4, none⟩ = some (.string c.tmpl) ∧ w'.cell? ⟨k, 5, none⟩ = some (.string c.dec) ∧ w'.cell? ⟨k, 6, none⟩ = some (.string c.thou) ∧ Below w.heap.size w w') (first | exact ⟨e0, e1, e2, e3, e4, e5, e6, HB.out.drew⟩ | exact keepC (by assumption) (by assumption)) (first
    | (go_at_call 18; refine (implDisplay_any a s c f R _ (by omega) HA.out HC.out HR.out HF.out hf4 h3 h4 h5 h6 h0 h1 (HT.out.below (belowC (by assumption)))).mono ?_; rintro e w4 ⟨rfl, hb4⟩)
    | (go_at_call 14; refine (specFormat_is f c.dec c.thou c.graph c.tmpl a R _ HR.out (by omega) (by omega) (by omega) (by omega) (by omega) h0 h1).mono ?_; rintro e w5 ⟨rfl, hb5⟩)
    | (go_at_call 15; refine (alive_any _ (HE.out.below (belowC (by assumption)))).mono ?_; rintro e w6 ⟨rfl, hb6⟩))
  all_goals
    have HFIN := Lib.hid (belowC (by assumption))
    go_wp2
    go_ret
    exact ⟨rfl, HFIN.out⟩

set_option maxRecDepth 100000 in
set_option maxHeartbeats 1000000 in
theorem fnDisplay_law (a : Int) (s : ByteArray) (w : World) (h0 : -9223372036854775808 ≤ a) (h1 : a ≤ 9223372036854775807) (hs : s.size ≤ maxLen) (hE : ErrAt w) (hT : TabAt w) :
    Calls Tryd.prog 4 #[.int .i64 a, .string s] w fun e w' => e = .returned (.bool true) ∧ Below w.heap.size w w' := by
  have hs' : s.size ≤ 9223372036854775807 := by unfold maxLen at hs; omega
  by_cases hin : plainB s = true ∧ a ≠ -9223372036854775808
  · exact fnDisplay_in a s w hin.1 (by omega) h1 hE hT
  · have HS := Lib.hid hs
    clear hs hE hT
    by_cases hbig : 2147483647 < s.size
    · clear hin
      go_enter Tryd.func4, Tryd.ntmps4
      go_wp2_with fail
      go_ret
      exact ⟨rfl, Below.refl _ _⟩
    · cases hp : plainB s with
      | false =>
        have HP := Lib.hid hp
        clear hp hin
        go_enter Tryd.func4, Tryd.ntmps4
        go_wp2_with fail
        refine (plain_any s _ HS.out).mono ?_
        rintro e _ ⟨rfl, rfl⟩
        rw [HP.out]
        go_wp2_with fail
        go_ret
        exact ⟨rfl, Below.refl _ _⟩
      | true =>
        have HP := Lib.hid hp
        obtain rfl : a = -9223372036854775808 := by
          by_cases h : a = -9223372036854775808
          · exact h
          · exact absurd ⟨hp, h⟩ hin
        clear hp hin h0 h1
        go_enter Tryd.func4, Tryd.ntmps4
        go_wp2_with fail
        refine (plain_any s _ HS.out).mono ?_
        rintro e _ ⟨rfl, rfl⟩
        rw [HP.out]
        go_wp2_with fail
        go_ret
        exact ⟨rfl, Below.refl _ _⟩
end Go.Proofs.YteejhpoddpcahaaDoor
