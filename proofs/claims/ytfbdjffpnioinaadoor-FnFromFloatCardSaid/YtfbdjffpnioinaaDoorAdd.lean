/- Sums of amounts: assertSameCurrency, the calculator, Money.Add, Money.Subtract. -/
import Derived.Test.YtfbdjffpnioinaaDoorSmall
import Derived.RegionCalls
import Derived.Deep.RegionWith
import Derived.Deep.RegionHeld3
namespace Go.Proofs.YtfbdjffpnioinaaDoor
open Go.RowKit

/-- The package's one error value lies in its variable. -/
def ErrAt (w : World) : Prop := ∃ t v, w.cell? ⟨4, 0, none⟩ = some (.iface t v)
theorem ErrAt.below {w w' : World} (h : ErrAt w) (hb : Below w.heap.size w w') : ErrAt w' := by
  obtain ⟨t, v, hc⟩ := h
  exact ⟨t, v, by rw [hb.cell (cell_lt hc)]; exact hc⟩
theorem ErrAt.drewN {w : World} (h : ErrAt w) (n : Nat) : ErrAt (w.drewN n) := h

def IsErr (e : Ending) : Prop := ∃ t v, e = .returned (.iface t v)

set_option maxHeartbeats 400000 in
theorem assert_yes (a1 a2 : Int) (c1 c2 : Cur) (g1 g2 : Nat) (w : World) (h1 : MoneyAt w g1 a1 c1) (h2 : MoneyAt w g2 a2 c2) (he : c1.code = c2.code) :
    Calls Tryd.prog 42 #[.pointer (some ⟨g1, 0, none⟩), .pointer (some ⟨g2, 0, none⟩)] w fun e w' => e = .returned .nilIface ∧ ∃ n, w' = w.drewN n := by
  have H1 := Lib.hid h1
  have H2 := Lib.hid h2
  have HE := Lib.hid (show (c1.code.toList == c2.code.toList) = true by rw [he]; simp)
  clear h1 h2 he
  go_enter Tryd.func42, Tryd.ntmps42
  go_wp2_with fail
  refine (same_any a1 a2 c1 c2 g1 g2 _ H1.out H2.out).mono ?_
  rintro e w1 ⟨rfl, n, rfl⟩
  rw [HE.out]
  go_wp2_with fail
  go_ret
  exact ⟨rfl, n, rfl⟩

set_option maxHeartbeats 400000 in
theorem assert_no (a1 a2 : Int) (c1 c2 : Cur) (g1 g2 : Nat) (w : World) (h1 : MoneyAt w g1 a1 c1) (h2 : MoneyAt w g2 a2 c2) (he : c1.code ≠ c2.code) (hE : ErrAt w) :
    Calls Tryd.prog 42 #[.pointer (some ⟨g1, 0, none⟩), .pointer (some ⟨g2, 0, none⟩)] w fun e w' => IsErr e ∧ ∃ n, w' = w.drewN n := by
  have H1 := Lib.hid h1
  have H2 := Lib.hid h2
  have HE := Lib.hid (show (c1.code.toList == c2.code.toList) = false by
    rw [Bool.eq_false_iff]; exact fun h => he (bytes_eq h))
  clear h1 h2 he
  obtain ⟨t, v, hc⟩ := hE
  go_enter Tryd.func42, Tryd.ntmps42
  go_wp2_with fail
  refine (same_any a1 a2 c1 c2 g1 g2 _ H1.out H2.out).mono ?_
  rintro e w1 ⟨rfl, n, rfl⟩
  rw [HE.out]
  go_wp2_with fail
  go_ret
  exact ⟨⟨t, v, rfl⟩, n, rfl⟩

set_option maxHeartbeats 400000 in
theorem calc_any (w : World) : Calls Tryd.prog 43 #[] w fun e w' => e = .returned (.pointer (some ⟨w.heap.size, 0, none⟩)) ∧ w' = w.alloc (.cells #[] 96) := by
  go_enter Tryd.func43, Tryd.ntmps43
  go_wp2
  go_ret
  exact ⟨rfl, rfl⟩
set_option maxHeartbeats 400000 in
theorem add_any (p : Option Addr) (a b : Int) (w : World) : Calls Tryd.prog 44 #[.pointer p, .int .i64 a, .int .i64 b] w fun e w' => e = .returned (.int .i64 (wrap64 (a + b))) ∧ w = w' := by
  go_enter Tryd.func44, Tryd.ntmps44
  go_wp2
  go_ret
  exact ⟨rfl, rfl⟩

/-- A slice of pointers to amounts. -/
def Amts (w : World) (A : Option Addr) (l : List (Int × Cur)) : Prop :=
  0 < l.length → ∃ b off, A = some ⟨b, off, none⟩ ∧ ∀ i x, l[i]? = some x → ∃ g, w.cell? ⟨b, off + i, none⟩ = some (.pointer (some ⟨g, 0, none⟩)) ∧ MoneyAt w g x.1 x.2
theorem Amts.below {w w' : World} {A : Option Addr} {l : List (Int × Cur)} (h : Amts w A l) (hb : Below w.heap.size w w') : Amts w' A l := fun h0 => by
  obtain ⟨b, off, rfl, hc⟩ := h h0
  refine ⟨b, off, rfl, fun i x hx => ?_⟩
  obtain ⟨g, h1, h2⟩ := hc i x hx
  exact ⟨g, by rw [hb.cell (cell_lt h1)]; exact h1, h2.below hb⟩
theorem Amts.at_ {w : World} {b off : Nat} {l : List (Int × Cur)} (h : Amts w (some ⟨b, off, none⟩) l) (i : Nat) (x : Int × Cur) (hx : l[i]? = some x) :
    ∃ g, w.cell? ⟨b, off + i, none⟩ = some (.pointer (some ⟨g, 0, none⟩)) ∧ MoneyAt w g x.1 x.2 := by
  obtain ⟨b', off', h1, hc⟩ := h (by have := (List.getElem?_eq_some_iff.1 hx).1; omega)
  cases h1
  exact hc i x hx

/-- The sum that goes round at 64 bits. -/
def wsum (l : List Int) : Int := l.foldl (fun s a => wrap64 (s + a)) 0
theorem wsum_snoc (l : List Int) (a : Int) : wsum (l ++ [a]) = wrap64 (wsum l + a) := by simp [wsum]

def sumTo (l : List (Int × Cur)) (j : Nat) : Int := wsum ((l.take j).map (·.1))
theorem sumTo_succ (l : List (Int × Cur)) (j : Nat) (h : j < l.length) : sumTo l (j + 1) = wrap64 (sumTo l j + l[j].1) := by
  unfold sumTo
  rw [List.take_succ_eq_append_getElem h, List.map_append]
  exact wsum_snoc _ _
theorem sumTo_all (l : List (Int × Cur)) (j : Nat) (h : l.length ≤ j) : sumTo l j = wsum (l.map (·.1)) := by
  unfold sumTo
  rw [List.take_of_length_le h]
def sameTo (c : Cur) (l : List (Int × Cur)) (j : Nat) : Prop := ∀ x ∈ l.take j, x.2.code = c.code
theorem sameTo_succ (c : Cur) (l : List (Int × Cur)) (j : Nat) (h : j < l.length) (hs : sameTo c l j) (hj : l[j].2.code = c.code) : sameTo c l (j + 1) := by
  intro x hx
  rw [List.take_succ_eq_append_getElem h] at hx
  rcases List.mem_append.1 hx with hx | hx
  · exact hs x hx
  · rw [List.mem_singleton.1 hx]; exact hj

def AddPost (w : World) (a0 : Int) (c0 : Cur) (l : List (Int × Cur)) (e : Ending) (w' : World) : Prop :=
  (((∀ x ∈ l, x.2.code = c0.code) ∧ ∃ g, e = .returned (.tuple #[.pointer (some ⟨g, 0, none⟩), .nilIface]) ∧ MoneyAt w' g (wrap64 (a0 + wsum (l.map (·.1)))) c0) ∨
    ((∃ x ∈ l, x.2.code ≠ c0.code) ∧ ∃ t v, e = .returned (.tuple #[.pointer none, .iface t v]))) ∧ Below w.heap.size w w'

theorem maddNil (a0 : Int) (c0 : Cur) (g0 : Nat) (A : Option Addr) (cap : Nat) (w : World) (h0 : MoneyAt w g0 a0 c0) (hlo : -9223372036854775808 ≤ a0) (hhi : a0 ≤ 9223372036854775807) :
    Calls Tryd.prog 36 #[.pointer (some ⟨g0, 0, none⟩), .slice A 0 cap] w (AddPost w a0 c0 []) := by
  have H0 := Lib.hid h0
  have HW := Lib.hid (show wrap64 (a0 + wsum (([] : List (Int × Cur)).map (·.1))) = a0 by simp only [wsum, List.map_nil, List.foldl_nil]; unfold wrap64; omega)
  clear h0
  go_enter Tryd.func36, Tryd.ntmps36
  go_wp2_with fail
  go_ret2
  exact ⟨.inl ⟨(fun _ h => by cases h), g0, rfl, by rw [HW.out]; exact H0.out⟩, Below.refl _ _⟩

set_option maxHeartbeats 1000000 in
theorem madd_some (a0 : Int) (c0 : Cur) (g0 : Nat) (b off cap : Nat) (l : List (Int × Cur)) (w : World) (h0 : MoneyAt w g0 a0 c0) (hl : Amts w (some ⟨b, off, none⟩) l) (hn : 0 < l.length) (hm : l.length ≤ 1000)
    (hs : c0.code.size ≤ 1000) (ha : ascB c0.code = true) (hE : ErrAt w) :
    Calls Tryd.prog 36 #[.pointer (some ⟨g0, 0, none⟩), .slice (some ⟨b, off, none⟩) l.length cap] w (AddPost w a0 c0 l) := by
  obtain ⟨k0, m0, q0⟩ := h0
  have e0 : w.cell? ⟨g0, 0, none⟩ = some (.int .i64 a0) := m0.cell 0
  have e1 : w.cell? ⟨g0, 1, none⟩ = some (.pointer (some ⟨k0, 0, none⟩)) := m0.cell 1
  have e2 : w.cell? ⟨k0, 0, none⟩ = some (.string c0.code) := q0.cell 0
  have M0 := Lib.hid m0
  have Q0 := Lib.hid q0
  have HL := Lib.hid hl
  have HA := Lib.hid ha
  have HE := Lib.hid hE
  clear m0 q0 hl ha hE
  go_enter Tryd.func36, Tryd.ntmps36
  go_wp2_with fail
  refine (new_any 0 c0.code _ hs HA.out).mono ?_
  rintro e w1 ⟨gk, rfl, hk, hgk, hb1⟩
  obtain ⟨kk, mk, qk⟩ := hk
  have MK := Lib.hid mk
  have HB1 := Lib.hid hb1
  clear e0 e1 e2 mk qk hb1
  go_wp2_with fail
  go_loopw [24] (fun i wr => ∃ j : Nat, j ≤ l.length ∧ i = .int .i64 j ∧ Hid (sameTo c0 l j) ∧ Hid (Blk wr gk 64 #[.int .i64 (sumTo l j), .pointer (some ⟨kk, 0, none⟩)]) ∧ Hid (Below w.heap.size w wr)) (fun i _ => l.length - (intOf i).toNat)
  case atStart => exact ⟨0, Nat.zero_le _, rfl, (fun _ h => by simp at h), MK, HB1⟩
  case round =>
    clear MK HB1
    obtain ⟨j, hj, rfl, HS, MK, HB⟩ := hrel
    by_cases hlt : j < l.length
    · obtain ⟨g, hc, hm⟩ := HL.out.at_ j l[j] (List.getElem?_eq_getElem hlt)
      have hne : g ≠ gk := by have := hm.lt; omega
      have e3 : wr.cell? ⟨b, off + j, none⟩ = some (.pointer (some ⟨g, 0, none⟩)) := by rw [HB.out.cell (cell_lt hc)]; exact hc
      have M2 := Lib.hid (hm.below HB.out)
      clear hc hm
      by_cases hcode : l[j].2.code = c0.code
      · have HC := Lib.hid hcode
        clear hcode
        go_wp2_with fail
        refine (assert_yes a0 l[j].1 c0 l[j].2 g0 g _ (MoneyAt.below ⟨k0, M0.out, Q0.out⟩ HB.out) M2.out HC.out.symm).mono ?_
        rintro e w3 ⟨rfl, n3, hw3⟩
        have MK3 : Blk w3 gk 64 #[.int .i64 (sumTo l j), .pointer (some ⟨kk, 0, none⟩)] := by rw [hw3]; exact MK.out.drewN n3
        have HB3 := Lib.hid (show Below w.heap.size w w3 by rw [hw3]; exact below_drewN HB.out n3)
        obtain ⟨k2, m2, _⟩ := M2.out
        have m3 : Blk w3 g 64 #[.int .i64 l[j].1, .pointer (some ⟨k2, 0, none⟩)] := by rw [hw3]; exact m2.drewN n3
        clear e3 hw3 m2
        have e4 : w3.cell? ⟨g, 0, none⟩ = some (.int .i64 l[j].1) := m3.cell 0
        have e5 : w3.cell? ⟨gk, 0, none⟩ = some (.int .i64 (sumTo l j)) := MK3.cell 0
        have e6 : w3.frozen? ⟨gk, 0, none⟩ = false := MK3.frozen 0
        have l1 : gk < w3.heap.size := MK3.lt
        have l2 : g < w3.heap.size := m3.lt
        have MK3H := Lib.hid MK3
        clear m3 MK3
        go_wp2_with fail
        go_region_with (first
          | (go_at_call 43; refine (calc_any _).mono ?_; rintro e w' ⟨rfl, rfl⟩)
          | (go_at_call 44; refine (add_any _ _ _ _).mono ?_; rintro e w' ⟨rfl, rfl⟩))
        all_goals
          go_wp2
          refine ⟨⟨j + 1, by omega, by go_num, sameTo_succ c0 l j hlt HS.out HC.out, ?_, ((HB3.out.setCell hgk _).alloc (by have := HB3.out.size; simpa [World.setCell] using this) _).drew⟩, by simp [intOf]; omega⟩
          rw [sumTo_succ l j hlt]
          exact ((MK3H.out.set_ 0 _).alloc _).drew
      · have HC := Lib.hid hcode
        clear hcode
        go_wp2_with fail
        refine (assert_no a0 l[j].1 c0 l[j].2 g0 g _ (MoneyAt.below ⟨k0, M0.out, Q0.out⟩ HB.out) M2.out (fun h => HC.out h.symm) (HE.out.below HB.out)).mono ?_
        rintro e w3 ⟨⟨t, v, rfl⟩, n3, rfl⟩
        go_wp2_with fail
        go_ret2
        exact ⟨.inr ⟨⟨l[j], List.getElem_mem hlt, HC.out⟩, t, v, rfl⟩, below_drewN HB.out n3⟩
    · have m1 : Blk wr g0 64 #[.int .i64 a0, .pointer (some ⟨k0, 0, none⟩)] := M0.out.below HB.out M0.out.lt
      have e4 : wr.cell? ⟨g0, 0, none⟩ = some (.int .i64 a0) := m1.cell 0
      have e7 : wr.cell? ⟨g0, 1, none⟩ = some (.pointer (some ⟨k0, 0, none⟩)) := m1.cell 1
      have e5 : wr.cell? ⟨gk, 0, none⟩ = some (.int .i64 (sumTo l j)) := MK.out.cell 0
      have l1 : gk < wr.heap.size := MK.out.lt
      have l2 : g0 < wr.heap.size := m1.lt
      clear m1
      go_wp2_with fail
      go_region_held3 (fun w' => w'.cell? ⟨g0, 0, none⟩ = some (.int .i64 a0) ∧ w'.cell? ⟨gk, 0, none⟩ = some (.int .i64 (sumTo l j)) ∧ w'.cell? ⟨g0, 1, none⟩ = some (.pointer (some ⟨k0, 0, none⟩))) (go_keep) (first
          | (go_at_call 43; refine (calc_any _).mono ?_; rintro e w' ⟨rfl, rfl⟩)
          | (go_at_call 44; refine (add_any _ _ _ _).mono ?_; rintro e w' ⟨rfl, rfl⟩))
      all_goals
        go_wp2
        go_ret2
        have hS : ∀ x ∈ l, x.2.code = c0.code := fun x hx => HS.out x (by rw [List.take_of_length_le (by omega)]; exact hx)
        have hz : wr.heap.size + 1 = (wr.alloc (.cells #[] 96)).heap.size := by simp
        have q1 : Blk wr k0 42 c0.cells := Q0.out.below HB.out Q0.out.lt
        refine ⟨.inl ⟨hS, _, rfl, ⟨k0, ?_, ((q1.alloc _).alloc _).drew⟩⟩, ((HB.out.alloc HB.out.size _).alloc (by have := HB.out.size; simp; omega) _).drew⟩
        rw [← sumTo_all l j (by omega), hz]
        exact (Blk.new _ _ _).drew
end Go.Proofs.YtfbdjffpnioinaaDoor
