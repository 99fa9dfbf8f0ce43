/- Money.Split. -/
import Derived.Test.YteejhpoddpcahaaDoorParts
import Derived.Test.YteejhpoddpcahaaDoorLAbs
import Derived.Laws.MakeOwn
namespace Go.Proofs.YteejhpoddpcahaaDoor
open Go.RowKit

set_option maxHeartbeats 400000 in
theorem errNew_any (s : ByteArray) (w : World) :
    Calls Tryd.prog 56 #[.string s] w fun e w' => IsErr e ∧ Below w.heap.size w w' := by
  go_enter Tryd.func56, Tryd.ntmps56
  go_wp2
  go_ret
  exact ⟨⟨_, _, rfl⟩, (Below.refl _ _).alloc (Nat.le_refl _) _⟩
set_option maxHeartbeats 400000 in
theorem divide_any (p : Option Addr) (a : Int) (n : Nat) (w : World) (h0 : -9223372036854775807 ≤ a) (h1 : a ≤ 9223372036854775807) (hn : 0 < n) (hn1 : n ≤ 9223372036854775807) :
    Calls Tryd.prog 58 #[.pointer p, .int .i64 a, .int .i64 n] w fun e w' => e = .returned (.int .i64 (a.tdiv n)) ∧ w = w' := by
  go_enter Tryd.func58, Tryd.ntmps58
  go_wp2
  go_ret
  exact ⟨rfl, rfl⟩
set_option maxHeartbeats 400000 in
theorem modulus_any (p : Option Addr) (a : Int) (n : Nat) (w : World) (hn : 0 < n) (hn1 : n ≤ 9223372036854775807) :
    Calls Tryd.prog 59 #[.pointer p, .int .i64 a, .int .i64 n] w fun e w' => e = .returned (.int .i64 (a.tmod n)) ∧ w = w' := by
  go_enter Tryd.func59, Tryd.ntmps59
  go_wp2
  go_ret
  exact ⟨rfl, rfl⟩

theorem calcB (w : World) : Calls Tryd.prog 57 #[] w fun e w' => e = .returned (.pointer (some ⟨w.heap.size, 0, none⟩)) ∧ Below w.heap.size w w' :=
  (calc_any w).mono fun _ _ ⟨he, hw⟩ => ⟨he, by rw [hw]; exact (Below.refl _ _).alloc (Nat.le_refl _) _⟩
theorem divideB (p : Option Addr) (a : Int) (n : Nat) (q : Int) (w : World) (h0 : -9223372036854775807 ≤ a) (h1 : a ≤ 9223372036854775807) (hn : 0 < n) (hn1 : n ≤ 9223372036854775807) (hq : q = a.tdiv n) :
    Calls Tryd.prog 58 #[.pointer p, .int .i64 a, .int .i64 n] w fun e w' => e = .returned (.int .i64 q) ∧ Below w.heap.size w w' :=
  (divide_any p a n w h0 h1 hn hn1).mono fun _ _ ⟨he, hw⟩ => ⟨by rw [he, hq], by rw [← hw]; exact Below.refl _ _⟩
theorem modulusB (p : Option Addr) (a : Int) (n : Nat) (r : Int) (w : World) (hn : 0 < n) (hn1 : n ≤ 9223372036854775807) (hr : r = a.tmod n) :
    Calls Tryd.prog 59 #[.pointer p, .int .i64 a, .int .i64 n] w fun e w' => e = .returned (.int .i64 r) ∧ Below w.heap.size w w' :=
  (modulus_any p a n w hn hn1).mono fun _ _ ⟨he, hw⟩ => ⟨by rw [he, hr], by rw [← hw]; exact Below.refl _ _⟩

set_option maxRecDepth 100000 in
set_option maxHeartbeats 2000000 in
theorem msplit_bad (n : Int) (g : Nat) (w : World) (hn : n ≤ 0) :
    Calls Tryd.prog 41 #[.pointer (some ⟨g, 0, none⟩), .int .i64 n] w fun e w' => ∃ t v, e = .returned (.tuple #[.slice none 0 0, .iface t v]) ∧ Below w.heap.size w w' := by
  go_enter Tryd.func41, Tryd.ntmps41
  go_wp2_with fail
  refine (errNew_any _ _).mono ?_
  rintro e w1 ⟨⟨t, v, rfl⟩, hb⟩
  go_wp2_with fail
  go_ret2
  exact ⟨t, v, rfl, hb⟩

/-- The first k of n amounts q are made; the pointers to them lie in block A. -/
def Made (wr : World) (A n k kc : Nat) (q : Int) : Prop :=
  wr.heap.size = A + 1 + k ∧ (∃ C : Array Value, C.size = n ∧ Blk wr A 61 C ∧ ∀ i, i < k → C[i]? = some (.pointer (some ⟨A + 1 + i, 0, none⟩))) ∧ ∀ i, i < k → Blk wr (A + 1 + i) 90 #[.int .i64 q, .pointer (some ⟨kc, 0, none⟩)]
theorem Made.step {wr : World} {A n k kc : Nat} {q : Int} (h : Made wr A n k kc q) (hk : k < n) :
    Made ((wr.setCell ⟨A, k, none⟩ (.pointer (some ⟨wr.heap.size, 0, none⟩))).alloc (.cells #[.int .i64 q, .pointer (some ⟨kc, 0, none⟩)] 90)) A n (k + 1) kc q := by
  obtain ⟨hs, ⟨C, hC, hA, hc⟩, hp⟩ := h
  refine ⟨by simp [World.setCell]; omega, ⟨_, ?_, (hA.set_ k _).alloc _, fun i hi => ?_⟩, fun i hi => ?_⟩
  · simpa using hC
  · by_cases hik : i = k
    · subst hik
      rw [hs]
      simp [hC, hk]
    · rw [Array.getElem?_setIfInBounds_ne (by omega)]
      exact hc i (by omega)
  · by_cases hik : i = k
    · subst hik
      have := Blk.new (wr.setCell ⟨A, i, none⟩ (.pointer (some ⟨wr.heap.size, 0, none⟩))) 90 #[.int .i64 q, .pointer (some ⟨kc, 0, none⟩)]
      have hz : (wr.setCell ⟨A, i, none⟩ (.pointer (some ⟨wr.heap.size, 0, none⟩))).heap.size = A + 1 + i := by simp [World.setCell]; omega
      rw [hz] at this
      exact this
    · exact ((hp i (by omega)).far (show A + 1 + i ≠ A by omega) _).alloc _
theorem Made.cell {wr : World} {A n k kc : Nat} {q : Int} (h : Made wr A n k kc q) (hk : k < n) : (∃ u, wr.cell? ⟨A, k, none⟩ = some u) ∧ wr.frozen? ⟨A, k, none⟩ = false ∧ A < wr.heap.size := by
  obtain ⟨hs, ⟨C, hC, hA, hc⟩, hp⟩ := h
  exact ⟨⟨C[k]'(by omega), by rw [hA.cell k]; exact Array.getElem?_eq_getElem (by omega)⟩, hA.frozen k, hA.lt⟩
theorem Made.parts {wr : World} {A n kc : Nat} {q : Int} (h : Made wr A n n kc q) : Parts wr A (fun i => A + 1 + i) kc n (fun _ => q) := by
  obtain ⟨hs, ⟨C, hC, hA, hc⟩, hp⟩ := h
  exact ⟨fun i hi => by rw [hA.cell i]; exact hc i hi, hp⟩

theorem ptr_infoS : (Tryd.prog.info? 61).map (fun i => (i.zero, i.size, i.bytes)) = some (some (.pointer none), 1, 8) := by kernel_rfl
theorem make_ptrs (n : Nat) (hn : n ≤ 1000) (w : World) : ∃ C : Array Value, C.size = n ∧ (Instr.makeSlice 66 (.int .i64 (n : Int)) (.int .i64 (n : Int))).run Tryd.prog w = .ok (.slice (some ⟨w.heap.size, 0, none⟩) n n) (w.alloc (.cells C 61)) := by
  obtain ⟨i0, hi, hz0, hz1, hz2⟩ := info_parts ptr_infoS
  refine ⟨madeCells (Value.pointer none).cells n, size_madeCells _ _, ?_⟩
  have h := run_make (P := Tryd.prog) w 66 61 i0 _ Tryd.underlying66 hi hz0 .i64 .i64 (n : Int) (n : Int) (by omega) (by omega) (by rw [hz2]; omega) (by omega)
  rw [hz1] at h
  simpa using h

def splitQ (a : Int) (n : Nat) : Int := a.tdiv n
def splitR (a : Int) (n : Nat) : Nat := (a.tmod n).natAbs
def sgn (a : Int) : Int := if a < 0 then -1 else 1
/-- The i-th of n parts. -/
def splitF (a : Int) (n : Nat) (i : Nat) : Int := if i < splitR a n then wrap64 (splitQ a n + sgn a) else splitQ a n
def splitTo (a : Int) (n p : Nat) (i : Nat) : Int := if i < p then wrap64 (splitQ a n + sgn a) else splitQ a n

theorem Parts.step {w : World} {A kc n p : Nat} {a : Int} (h : Parts w A (fun i => A + 1 + i) kc n (splitTo a n p)) (hp : p < n) :
    Parts (w.setCell ⟨A + 1 + p, 0, none⟩ (.int .i64 (wrap64 (splitQ a n + sgn a)))) A (fun i => A + 1 + i) kc n (splitTo a n (p + 1)) := by
  refine ⟨fun i hi => ?_, fun i hi => ?_⟩
  · have h1 := h.1 i hi
    have hb : (w.setCell ⟨A + 1 + p, 0, none⟩ (.int .i64 (wrap64 (splitQ a n + sgn a)))).heap[A]? = w.heap[A]? := Below.heap_setCell w _ _ A (show A ≠ A + 1 + p by omega)
    rw [World.cell?_of_block (w := w) hb]
    exact h1
  · by_cases hip : i = p
    · subst hip
      have h2 := (h.2 i hi).set_ 0 (.int .i64 (wrap64 (splitQ a n + sgn a)))
      have e : splitTo a n (i + 1) i = wrap64 (splitQ a n + sgn a) := if_pos (by omega)
      rw [e]
      exact h2
    · have e : splitTo a n (p + 1) i = splitTo a n p i := by
        unfold splitTo
        by_cases h3 : i < p
        · rw [if_pos h3, if_pos (by omega)]
        · rw [if_neg h3, if_neg (by omega)]
      rw [e]
      exact (h.2 i hi).far (show A + 1 + i ≠ A + 1 + p by omega) _

theorem keepP {w : World} {p : Addr} {v : Value} {o : Obj} (h : w.cell? p = some v) : (w.alloc o).drew.cell? p = some v :=
  keep_cell h (((Below.refl _ _).alloc (Nat.le_refl _) o).drew)
theorem keepP3 {w : World} {A p q : Nat} {v u : Value} {o : Obj} (h : w.cell? ⟨A, p, none⟩ = some v) (hne : A ≠ q) : ((w.setCell ⟨q, 0, none⟩ u).alloc o).drew.cell? ⟨A, p, none⟩ = some v := by
  have hb : (w.setCell ⟨q, 0, none⟩ u).heap[A]? = w.heap[A]? := Below.heap_setCell w _ _ A hne
  have h1 : (w.setCell ⟨q, 0, none⟩ u).cell? ⟨A, p, none⟩ = some v := by rw [World.cell?_of_block (w := w) hb]; exact h
  exact keepP h1

set_option maxRecDepth 100000 in
set_option maxHeartbeats 4000000 in
theorem msplit_yes (a : Int) (n : Nat) (c : Cur) (g : Nat) (w : World) (hm : MoneyAt w g a c) (hn : 0 < n) (hn1 : n ≤ 1000) (h0 : -9223372036854775807 ≤ a) (h1 : a ≤ 9223372036854775807) :
    Calls Tryd.prog 41 #[.pointer (some ⟨g, 0, none⟩), .int .i64 n] w fun e w' => ∃ A kc, e = .returned (.tuple #[.slice (some ⟨A, 0, none⟩) n n, .nilIface]) ∧ Parts w' A (fun i => A + 1 + i) kc n (splitF a n) ∧ Blk w' kc 87 c.cells ∧ Below w.heap.size w w' := by
  obtain ⟨kc, hb, hk⟩ := hm
  have e0 : w.cell? ⟨g, 0, none⟩ = some (.int .i64 a) := hb.cell 0
  have HM := Lib.hid hb
  have HK := Lib.hid hk
  clear hb hk
  have hnz : ((n : Int)) ≠ 0 := by omega
  have hnp : (0 : Int) < n := by omega
  obtain ⟨q, hq⟩ : ∃ q, q = a.tdiv n := ⟨_, rfl⟩
  have HQ := Lib.hid hq
  go_enter Tryd.func41, Tryd.ntmps41
  go_wp2_with fail
  go_region_held3 (fun w' => w'.cell? ⟨g, 0, none⟩ = some (.int .i64 a) ∧ Below w.heap.size w w') (first | exact ⟨e0, (Below.refl _ _).drew⟩ | exact ⟨(And.left (by assumption)), And.right (by assumption)⟩ | exact keepS (by assumption) (by assumption)) (first
    | (go_at_call 57; refine (calcB _).mono ?_; rintro e wa ⟨rfl, hba⟩)
    | (go_at_call 58; refine (divideB _ a n q _ h0 h1 hn (by omega) HQ.out).mono ?_; rintro e wb ⟨rfl, hbb⟩))
  have hbw : Below w.heap.size w wb := And.right (by assumption)
  have HB1 := Lib.hid hbw
  clear hbw hbb hba e0
  have e2 : wb.cell? ⟨g, 1, none⟩ = some (.pointer (some ⟨kc, 0, none⟩)) := (HM.out.below HB1.out HM.out.lt).cell 1
  obtain ⟨C, hC, hmk⟩ := make_ptrs n hn1 wb
  have HC := Lib.hid hC
  clear hC
  go_wp2_with fail
  have hmade : Made (wb.alloc (.cells C 61)) wb.heap.size n 0 kc (a.tdiv n) := ⟨by simp, ⟨C, HC.out, Blk.new _ _ _, fun i hi => by omega⟩, fun i hi => by omega⟩
  have HMADE := Lib.hid hmade
  have HBA := Lib.hid (HB1.out.alloc HB1.out.size (.cells C 61))
  have hA : w.heap.size ≤ wb.heap.size := HB1.out.size
  clear hmade hmk e2 HB1
  generalize wb.alloc _ = wc at *
  generalize wb.heap.size = A at *
  generalize hqq : a.tdiv (n : Int) = q1 at *
  go_loopw [8] (fun i wr => ∃ k : Nat, k ≤ n ∧ i = .int .i64 k ∧ Hid (Made wr A n k kc q1) ∧ Hid (Below w.heap.size w wr)) (fun i _ => n - (intOf i).toNat)
  case atStart => exact ⟨0, Nat.zero_le _, rfl, HMADE, HBA⟩
  case round =>
    clear HMADE HBA
    obtain ⟨k, hk, rfl, HD, HB⟩ := hrel
    by_cases hlt : k < n
    · obtain ⟨⟨u, e3⟩, f3, l3⟩ := HD.out.cell hlt
      have e2 : wr.cell? ⟨g, 1, none⟩ = some (.pointer (some ⟨kc, 0, none⟩)) := (HM.out.below HB.out HM.out.lt).cell 1
      have hgl : g < w.heap.size := HM.out.lt
      have HNX := Lib.hid (HD.out.step hlt)
      have HBN := Lib.hid ((HB.out.setCell (p := ⟨A, k, none⟩) hA (.pointer (some ⟨wr.heap.size, 0, none⟩))).alloc (by have := HB.out.size; simpa [World.setCell] using this) (.cells #[.int .i64 q1, .pointer (some ⟨kc, 0, none⟩)] 90))
      go_wp2
      exact ⟨⟨k + 1, by omega, by go_num, HNX, HBN⟩, by simp [intOf]; omega⟩
    · obtain rfl : n = k := by omega
      have HP := Lib.hid HD.out.parts
      have e0 : wr.cell? ⟨g, 0, none⟩ = some (.int .i64 a) := (HM.out.below HB.out HM.out.lt).cell 0
      clear HD
      go_wp2_with fail
      obtain ⟨r, hr⟩ : ∃ r, r = a.tmod n := ⟨_, rfl⟩
      have HR := Lib.hid hr
      clear hr
      go_region_held3 (fun w' => w'.cell? ⟨g, 0, none⟩ = some (.int .i64 a) ∧ Below wr.heap.size wr w') (first | exact ⟨e0, (Below.refl _ _).drew⟩ | exact ⟨(And.left (by assumption)), And.right (by assumption)⟩ | exact keepS (by assumption) (by assumption)) (first
        | (go_at_call 57; refine (calcB _).mono ?_; rintro e wd ⟨rfl, hbd⟩)
        | (go_at_call 59; refine (modulusB _ a n r _ hn (by omega) HR.out).mono ?_; rintro e we ⟨rfl, hbe⟩))
      have hbw : Below wr.heap.size wr we := And.right (by assumption)
      have HB2 := Lib.hid (HB.out.trans (hbw.mono HB.out.size))
      have HP2 := Lib.hid (HP.out.below hbw)
      have HRB := Lib.hid (show splitR a n < n by
        unfold splitR
        have := Int.natAbs_tmod a (n : Int)
        rw [this]
        simp only [Int.natAbs_natCast]
        exact Nat.mod_lt _ hn)
      have hrr : r.natAbs = splitR a n := by rw [HR.out]; rfl
      have hrb := HRB.out
      have HABS := Lib.hid (show absoluteI r = (splitR a n : Int) by unfold absoluteI; split <;> omega)
      have hr1 : -9223372036854775807 ≤ r := by omega
      have hr2 : r ≤ 9223372036854775807 := by omega
      clear hbw hbd hbe HB HP HR e0 hrr
      go_wp2_with fail
      refine (calcB _).mono ?_
      rintro e wf ⟨rfl, hbf⟩
      have HB3 := Lib.hid (HB2.out.trans (hbf.mono HB2.out.size))
      have HP3 := Lib.hid (HP2.out.below hbf)
      clear hbf HB2 HP2
      go_wp2_with fail
      refine (absolute_calc _ r _ hr1 hr2).mono ?_
      rintro e wg ⟨rfl, hwg⟩
      obtain rfl := hwg
      rw [HABS.out]
      have HQ1 := Lib.hid (show a.tdiv (n : Int) = q1 from hqq)
      have HPF : Hid (Parts wf A (fun i => A + 1 + i) kc n (splitTo a n 0)) := by
        have h : splitTo a n 0 = fun _ => q1 := by funext i; unfold splitTo splitQ; rw [if_neg (by omega)]; exact hqq
        rw [h]; exact HP3.out
      have HBF := HB3
      have e0 : wf.cell? ⟨g, 0, none⟩ = some (.int .i64 a) := (HM.out.below HB3.out HM.out.lt).cell 0
      clear HB3 HP3 HABS hr1 hr2 hrb hqq
      by_cases hneg : a < 0
      · have HSG := Lib.hid (show sgn a = -1 from if_pos hneg)
        go_wp2_with fail
        go_loopw [10, 12] (fun lv pv wr => ∃ p l : Nat, p + l = splitR a n ∧ lv = .int .i64 l ∧ pv = .int .i64 p ∧ Hid (Parts wr A (fun i => A + 1 + i) kc n (splitTo a n p)) ∧ Hid (Below w.heap.size w wr)) (fun lv _ _ => (intOf lv).toNat)
        case atStart => exact ⟨0, splitR a n, by omega, rfl, rfl, HPF, HBF⟩
        case round =>
          clear HPF HBF e0
          obtain ⟨p, l, hpl, rfl, rfl, HP, HB⟩ := hrel
          by_cases hlt : 0 < l
          · have hpn : p < n := by have := HRB.out; omega
            have HWL := Lib.hid (show wrap64 ((l : Int) - 1) = ((l - 1 : Nat) : Int) by have := HRB.out; unfold wrap64; omega)
            have e3 := HP.out.1 p hpn
            have hblk := HP.out.2 p hpn
            have e4 := hblk.cell 0
            have e5 := hblk.frozen 0
            have l1 := hblk.lt
            have l2 : A < wr.heap.size := cell_lt e3
            have hval : splitTo a n p p = q1 := by unfold splitTo splitQ; rw [if_neg (by omega)]; exact HQ1.out
            have HST := Lib.hid (HP.out.step hpn)
            rw [show sgn a = -1 from HSG.out, show splitQ a n = q1 from HQ1.out] at HST
            rw [hval] at e4
            simp only [List.getElem?_toArray, List.getElem?_cons_zero] at e4
            clear hblk hval
            go_wp2_with fail
            go_region_with (first
              | (go_at_call 57; refine (calc_any _).mono ?_; rintro e w' ⟨rfl, rfl⟩)
              | (go_at_call 61; refine (add_any _ _ _ _).mono ?_; rintro e w' ⟨rfl, rfl⟩))
            all_goals
              go_wp2
              exact ⟨⟨p + 1, l - 1, by omega, by rw [HWL.out], by go_num, HST.out.below (((Below.refl _ _).alloc (Nat.le_refl _) _).drew), ((HB.out.setCell (p := ⟨A + 1 + p, 0, none⟩) (show w.heap.size ≤ A + 1 + p by omega) _).alloc (by have := HB.out.size; simpa [World.setCell] using this) _).drew⟩, by simp [intOf, HWL.out]; omega⟩
          · obtain rfl : l = 0 := by omega
            go_wp2
            go_ret2
            have hp0 : p = splitR a n := by omega
            subst hp0
            exact ⟨A, kc, rfl, HP.out, HK.out.below HB.out HK.out.lt, HB.out⟩
      · have HSG := Lib.hid (show sgn a = 1 from if_neg hneg)
        go_wp2_with fail
        go_loopw [10, 12] (fun lv pv wr => ∃ p l : Nat, p + l = splitR a n ∧ lv = .int .i64 l ∧ pv = .int .i64 p ∧ Hid (Parts wr A (fun i => A + 1 + i) kc n (splitTo a n p)) ∧ Hid (Below w.heap.size w wr)) (fun lv _ _ => (intOf lv).toNat)
        case atStart => exact ⟨0, splitR a n, by omega, rfl, rfl, HPF, HBF⟩
        case round =>
          clear HPF HBF e0
          obtain ⟨p, l, hpl, rfl, rfl, HP, HB⟩ := hrel
          by_cases hlt : 0 < l
          · have hpn : p < n := by have := HRB.out; omega
            have HWL := Lib.hid (show wrap64 ((l : Int) - 1) = ((l - 1 : Nat) : Int) by have := HRB.out; unfold wrap64; omega)
            have e3 := HP.out.1 p hpn
            have hblk := HP.out.2 p hpn
            have e4 := hblk.cell 0
            have e5 := hblk.frozen 0
            have l1 := hblk.lt
            have l2 : A < wr.heap.size := cell_lt e3
            have hval : splitTo a n p p = q1 := by unfold splitTo splitQ; rw [if_neg (by omega)]; exact HQ1.out
            have HST := Lib.hid (HP.out.step hpn)
            rw [show sgn a = 1 from HSG.out, show splitQ a n = q1 from HQ1.out] at HST
            rw [hval] at e4
            simp only [List.getElem?_toArray, List.getElem?_cons_zero] at e4
            clear hblk hval
            go_wp2_with fail
            go_region_with (first
              | (go_at_call 57; refine (calc_any _).mono ?_; rintro e w' ⟨rfl, rfl⟩)
              | (go_at_call 61; refine (add_any _ _ _ _).mono ?_; rintro e w' ⟨rfl, rfl⟩))
            all_goals
              go_wp2
              exact ⟨⟨p + 1, l - 1, by omega, by rw [HWL.out], by go_num, HST.out.below (((Below.refl _ _).alloc (Nat.le_refl _) _).drew), ((HB.out.setCell (p := ⟨A + 1 + p, 0, none⟩) (show w.heap.size ≤ A + 1 + p by omega) _).alloc (by have := HB.out.size; simpa [World.setCell] using this) _).drew⟩, by simp [intOf, HWL.out]; omega⟩
          · obtain rfl : l = 0 := by omega
            go_wp2
            go_ret2
            have hp0 : p = splitR a n := by omega
            subst hp0
            exact ⟨A, kc, rfl, HP.out, HK.out.below HB.out HK.out.lt, HB.out⟩
end Go.Proofs.YteejhpoddpcahaaDoor
