/- Currency.Formatter, Money.AsMajorUnits, impl.MajorOf; FnMajorOf, walked. -/
import Derived.Test.YtfbdjffpnioinaaDoorMaj
import Derived.Test.YtfbdjffpnioinaaDoorCoin
import Derived.StillTailTactics
namespace Go.Proofs.YtfbdjffpnioinaaDoor
open Go.RowKit

set_option maxRecDepth 100000 in
set_option maxHeartbeats 2000000 in
theorem cfmt_any (c : Cur) (f : Nat) (g : Nat) (w : World) (h : Blk w g 42 c.cells) (hf : c.frac = f) :
    Calls Tryd.prog 38 #[.pointer (some ⟨g, 0, none⟩)] w (GotFmt f c.dec c.thou c.graph c.tmpl w) := by
  have e2 : w.cell? ⟨g, 2, none⟩ = some (.int .i64 f) := by rw [← hf]; exact h.cell 2
  have e3 : w.cell? ⟨g, 3, none⟩ = some (.string c.graph) := h.cell 3
  have e4 : w.cell? ⟨g, 4, none⟩ = some (.string c.tmpl) := h.cell 4
  have e5 : w.cell? ⟨g, 5, none⟩ = some (.string c.dec) := h.cell 5
  have e6 : w.cell? ⟨g, 6, none⟩ = some (.string c.thou) := h.cell 6
  clear h hf
  go_enter Tryd.func38, Tryd.ntmps38
  go_wp2_with fail
  go_still_tail 21, (by kernel_rfl)
  change wpList _ _ _ _ _ w.drew
  have HB := Lib.hid ((Below.refl w.heap.size w).drew)
  have hz : w.drew.heap.size = w.heap.size := rfl
  generalize w.drew = w1 at *
  have HZ := Lib.hid hz
  clear hz e2 e3 e4 e5 e6
  go_wp2
  go_ret
  exact ⟨_, rfl, Blk.new _ _ _, HB.out.alloc HB.out.size _⟩

def curFairB (c : Cur) : Bool := decide (0 ≤ c.frac) && decide (c.frac ≤ 4) && decide (c.graph.size ≤ 20) && decide (c.tmpl.size ≤ 20) && decide (c.dec.size ≤ 20) && decide (c.thou.size ≤ 20)
theorem tab_fair : (curTab.all curFairB) = true := by kernel_rfl
theorem curFor_fair (u : ByteArray) (hu : u.size ≤ 20) : curFairB (curFor u) = true := by
  unfold curFor
  cases h : curOf u with
  | none =>
    show curFairB (defCur u) = true
    unfold curFairB defCur
    have : decide (u.size ≤ 20) = true := decide_eq_true hu
    simp only [this]; rfl
  | some c =>
    unfold curOf curFind at h
    exact List.all_eq_true.1 tab_fair c (List.mem_of_find?_eq_some h)
/-- A currency's figures and texts are bounded. -/
theorem curFor_bounds (u : ByteArray) (hu : u.size ≤ 20) : ∃ f : Nat, (curFor u).frac = f ∧ f ≤ 4 ∧ (curFor u).graph.size ≤ 20 ∧ (curFor u).tmpl.size ≤ 20 ∧ (curFor u).dec.size ≤ 20 ∧ (curFor u).thou.size ≤ 20 := by
  have h := curFor_fair u hu
  unfold curFairB at h
  simp only [Bool.and_eq_true, decide_eq_true_eq] at h
  obtain ⟨⟨⟨⟨⟨h0, h1⟩, h2⟩, h3⟩, h4⟩, h5⟩ := h
  exact ⟨(curFor u).frac.toNat, by omega, by omega, h2, h3, h4, h5⟩

theorem get_is (c : Cur) (g : Nat) (w : World) (h : Blk w g 42 c.cells) (hc : curFor c.code = c) :
    Calls Tryd.prog 33 #[.pointer (some ⟨g, 0, none⟩)] w (GotCur c w) := by
  have := get_any c g w h
  rw [hc] at this
  exact this
theorem cfmt_is (c : Cur) (f : Nat) (g : Nat) (w : World) (h : Blk w g 42 c.cells) (hf : c.frac = f) :
    Calls Tryd.prog 38 #[.pointer (some ⟨g, 0, none⟩)] w fun e w' => ∃ g, e = .returned (.pointer (some ⟨g, 0, none⟩)) ∧ Hid (Blk w' g 74 (fmtCells f c.dec c.thou c.graph c.tmpl)) ∧ Below w.heap.size w w' := cfmt_any c f g w h hf
theorem code_twice (u : ByteArray) : curFor (curFor u).code = curFor u := by rw [code_curFor]

theorem implOf_is (s : ByteArray) (c : Cur) (f : Nat) (w : World) (hs : s.size ≤ 100) (ha : ascB s = true) (hc : c = curFor (upB s)) (hf : c.frac = f) :
    Calls Tryd.prog 10 #[.string s] w fun e w' => e = .returned (.agg #[.string c.code, .string c.num, .int .i64 f, .string c.graph, .string c.tmpl, .string c.dec, .string c.thou]) ∧ Below w.heap.size w w' :=
  (implOf_any s w hs ha).mono fun e w' ⟨he, hb⟩ => ⟨by rw [he, ← hc, ← hf, Cur.val, Cur.cells], hb⟩


set_option maxRecDepth 100000 in
set_option maxHeartbeats 4000000 in
theorem masmajor_any (a : Int) (c : Cur) (f : Nat) (g : Nat) (x : Nat) (w : World) (hm : MoneyAt w g a c) (hc : curFor c.code = c) (hx : majF a f = x)
    (hf : c.frac = f) (hf4 : f ≤ 4) (h0 : -9223372036854775808 ≤ a) (h1 : a ≤ 9223372036854775807) (hT : PowAt w) :
    Calls Tryd.prog 30 #[.pointer (some ⟨g, 0, none⟩)] w fun e w' => e = .returned (.float .f64 x) ∧ Below w.heap.size w w' := by
  obtain ⟨kc, hb, hk⟩ := hm
  have HM := Lib.hid hb
  have HK := Lib.hid hk
  have HC := Lib.hid hc
  have HX := Lib.hid hx
  have HF := Lib.hid hf
  have HT := Lib.hid hT
  have e1 : w.cell? ⟨g, 1, none⟩ = some (.pointer (some ⟨kc, 0, none⟩)) := hb.cell 1
  clear hb hk hc hx hf hT
  go_enter Tryd.func30, Tryd.ntmps30
  go_wp2_with fail
  refine (get_is c kc _ HK.out HC.out).mono ?_
  rintro e w1 ⟨gc, rfl, hgc, _, hb1⟩
  have HB1 := Lib.hid hb1
  have HG := Lib.hid hgc
  have e0 : w1.cell? ⟨g, 0, none⟩ = some (.int .i64 a) := (HM.out.below hb1 HM.out.lt).cell 0
  clear hb1 hgc e1
  go_wp2_with fail
  go_region_held3 (fun w' => w'.cell? ⟨g, 0, none⟩ = some (.int .i64 a) ∧ Below w1.heap.size w1 w') (first | exact ⟨e0, (Below.refl _ _).drew⟩ | exact keepS (by assumption) (by assumption)) (first
    | (go_at_call 38; refine (cfmt_is c f gc _ (HG.out.below (And.right (by assumption)) HG.out.lt) HF.out).mono ?_; rintro e w2 ⟨gf, rfl, HGF, hb2⟩)
    | (go_at_call 29; refine (tomajor_any f c.dec c.thou c.graph c.tmpl a gf x _ HGF.out (by omega) h0 h1 HX.out (HT.out.below (HB1.out.trans (Below.mono (And.right (by assumption)) HB1.out.size)))).mono ?_; rintro e w3 ⟨rfl, hb3⟩))
  all_goals
    have HFIN := Lib.hid (And.right (by assumption) : Below w1.heap.size w1 _)
    go_wp2
    go_ret
    exact ⟨rfl, HB1.out.trans (HFIN.out.mono HB1.out.size)⟩

set_option maxRecDepth 100000 in
set_option maxHeartbeats 2000000 in
theorem implMajorOf_any (a : Int) (s : ByteArray) (c : Cur) (f : Nat) (x : Nat) (w : World) (hs : s.size ≤ 100) (ha : ascB s = true) (hc : c = curFor (upB s)) (hx : majF a f = x)
    (hf : c.frac = f) (hf4 : f ≤ 4) (h0 : -9223372036854775808 ≤ a) (h1 : a ≤ 9223372036854775807) (hT : PowAt w) :
    Calls Tryd.prog 16 #[.int .i64 a, .string s] w fun e w' => e = .returned (.int .u64 x) ∧ Below w.heap.size w w' := by
  have HA := Lib.hid ha
  have HC := Lib.hid hc
  have HC2 := Lib.hid (show curFor c.code = c by rw [hc]; exact code_twice _)
  have HX := Lib.hid hx
  have HF := Lib.hid hf
  have HT := Lib.hid hT
  have hbits := run_bits x
  clear ha hc hx hf hT
  go_enter Tryd.func16, Tryd.ntmps16
  go_wp2_with fail
  refine (short_yes s _ hs).mono ?_
  rintro e _ ⟨rfl, rfl⟩
  go_wp2_with fail
  refine (new_any a s _ (by omega) HA.out).mono ?_
  rintro e w1 ⟨g1, rfl, hm1, hg1, hb1⟩
  rw [← HC.out] at hm1
  have HM1 := Lib.hid hm1
  have HB1 := Lib.hid hb1
  clear hm1 hb1
  go_wp2_with fail
  refine (masmajor_any a c f g1 x _ HM1.out HC2.out HX.out HF.out hf4 h0 h1 (HT.out.below HB1.out)).mono ?_
  rintro e w2 ⟨rfl, hb2⟩
  have HB2 := Lib.hid (HB1.out.trans (hb2.mono HB1.out.size))
  clear hb2
  go_wp2_with fail
  go_ret
  exact ⟨rfl, HB2.out⟩

theorem field_frac (c0 c1 c3 c4 c5 c6 : ByteArray) (f : Nat) : ∀ w, (Instr.field 29 (.agg #[.string c0, .string c1, .int .i64 f, .string c3, .string c4, .string c5, .string c6]) 2).run Tryd.prog w = .ok (.int .i64 f) w := fun _ => by kernel_rfl
set_option maxRecDepth 100000 in
set_option maxHeartbeats 4000000 in
theorem fnMajorOf_in (a : Int) (s : ByteArray) (w : World) (hp : plainB s = true) (h0 : -9223372036854775808 ≤ a) (h1 : a ≤ 9223372036854775807) (hE : ErrAt w) (hT : PowAt w) :
    Calls Tryd.prog 5 #[.int .i64 a, .string s] w fun e w' => e = .returned (.bool true) ∧ Below w.heap.size w w' := by
  have hs := plainB_size hp
  have HA := Lib.hid (plainB_asc hp)
  have HP := Lib.hid hp
  have HE := Lib.hid hE
  have HT := Lib.hid hT
  obtain ⟨c, hc⟩ : ∃ c, c = curFor (upB s) := ⟨_, rfl⟩
  obtain ⟨f, hf, hf4, h3, h4, h5, h6⟩ := curFor_bounds (upB s) (by rw [upB_size]; exact hs)
  rw [← hc] at hf
  have HC := Lib.hid hc
  have HF := Lib.hid hf
  obtain ⟨x, hx⟩ : ∃ x, majF a f = x := ⟨_, rfl⟩
  have HX := Lib.hid hx
  obtain ⟨z, hz⟩ : ∃ z, z = ((10 ^ f : Nat) : Int) := ⟨_, rfl⟩
  have HZ := Lib.hid hz
  have HZF := Lib.hid (show floatOfInt .f64 z = p10 f by rw [hz]; exact p10_int f (by omega))
  have HOP : Hid (∀ t w, (binOp .quo t (.float .f64 (floatOfInt .f64 a)) (.float .f64 (p10 f))).run Tryd.prog w = .ok (.float .f64 x) w) := fun t w => run_float_arith w .quo t .f64 _ _ _ (by rw [← hx]; exact maj_some a f (by omega) (by omega))
  have HBI := Lib.hid (run_bits x)
  clear hp hE hT hc hf h3 h4 h5 h6 hx hz
  go_enter Tryd.func5, Tryd.ntmps5
  go_wp2_with fail
  refine (plain_any s _ (by unfold maxLen; omega)).mono ?_
  rintro e _ ⟨rfl, rfl⟩
  rw [HP.out]
  go_wp2_with fail
  refine (implMajorOf_any a s c f x _ (by omega) HA.out HC.out HX.out HF.out hf4 h0 h1 HT.out).mono ?_
  rintro e w1 ⟨rfl, hb1⟩
  have HB1 := Lib.hid hb1
  clear hb1
  go_wp2_with fail
  refine (implOf_is s c f _ (by omega) HA.out HC.out HF.out).mono ?_
  rintro e w2 ⟨rfl, hb2⟩
  have HB2 := Lib.hid (HB1.out.trans (hb2.mono HB1.out.size))
  have hfd := field_frac c.code c.num c.graph c.tmpl c.dec c.thou f
  clear hb2
  go_wp2_with fail
  clear hfd
  refine (powerB f z _ (by omega) HZ.out).mono ?_
  rintro e w3 ⟨rfl, hb3⟩
  have HB3 := Lib.hid (HB2.out.trans (hb3.mono HB2.out.size))
  have hzf := HZF.out
  have hop := HOP.out
  have hbits := HBI.out
  clear hb3
  go_wp2_with fail
  refine (alive_any _ (HE.out.below HB3.out)).mono ?_
  rintro e w4 ⟨rfl, hb4⟩
  have HB4 := Lib.hid (HB3.out.trans (hb4.mono HB3.out.size))
  clear hb4
  go_wp2_with fail
  go_ret
  exact ⟨rfl, HB4.out⟩

set_option maxRecDepth 100000 in
set_option maxHeartbeats 1000000 in
theorem fnMajorOf_law (a : Int) (s : ByteArray) (w : World) (h0 : -9223372036854775808 ≤ a) (h1 : a ≤ 9223372036854775807) (hs : s.size ≤ maxLen) (hE : ErrAt w) (hT : PowAt w) :
    Calls Tryd.prog 5 #[.int .i64 a, .string s] w fun e w' => e = .returned (.bool true) ∧ Below w.heap.size w w' := by
  have hs' : s.size ≤ 9223372036854775807 := by unfold maxLen at hs; omega
  cases hp : plainB s with
  | true => exact fnMajorOf_in a s w hp h0 h1 hE hT
  | false =>
    have HP := Lib.hid hp
    have HS := Lib.hid hs
    clear hs hE hT hp
    by_cases hbig : 2147483647 < s.size
    · go_enter Tryd.func5, Tryd.ntmps5
      go_wp2_with fail
      go_ret
      exact ⟨rfl, Below.refl _ _⟩
    · go_enter Tryd.func5, Tryd.ntmps5
      go_wp2_with fail
      refine (plain_any s _ HS.out).mono ?_
      rintro e _ ⟨rfl, rfl⟩
      rw [HP.out]
      go_wp2_with fail
      go_ret
      exact ⟨rfl, Below.refl _ _⟩
end Go.Proofs.YtfbdjffpnioinaaDoor
