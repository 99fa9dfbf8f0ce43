/- Money.Subtract. Printed by gensub.py. -/
import Derived.Test.YteanfkmchfhfpaaDoorImp
namespace Go.Proofs.YteanfkmchfhfpaaDoor
open Go.RowKit

set_option maxHeartbeats 400000 in
theorem sub_any (p : Option Addr) (a b : Int) (w : World) : Calls Tryd.prog 62 #[.pointer p, .int .i64 a, .int .i64 b] w fun e w' => e = .returned (.int .i64 (wrap64 (a - b))) ∧ w = w' := by
  go_enter Tryd.func62, Tryd.ntmps62
  go_wp2
  go_ret
  exact ⟨rfl, rfl⟩
def SubPost (w : World) (a0 : Int) (c0 : Cur) (l : List (Int × Cur)) (e : Ending) (w' : World) : Prop :=
  (((∀ x ∈ l, x.2.code = c0.code) ∧ ∃ g, e = .returned (.tuple #[.pointer (some ⟨g, 0, none⟩), .nilIface]) ∧ MoneyAt w' g (wrap64 (a0 - wsum (l.map (·.1)))) c0) ∨
    ((∃ x ∈ l, x.2.code ≠ c0.code) ∧ ∃ t v, e = .returned (.tuple #[.pointer none, .iface t v]))) ∧ Below w.heap.size w w'

theorem msubNil (a0 : Int) (c0 : Cur) (g0 : Nat) (A : Option Addr) (cap : Nat) (w : World) (h0 : MoneyAt w g0 a0 c0) (hlo : -9223372036854775808 ≤ a0) (hhi : a0 ≤ 9223372036854775807) :
    Calls Tryd.prog 45 #[.pointer (some ⟨g0, 0, none⟩), .slice A 0 cap] w (SubPost w a0 c0 []) := by
  have H0 := Lib.hid h0
  have HW := Lib.hid (show wrap64 (a0 - wsum (([] : List (Int × Cur)).map (·.1))) = a0 by simp only [wsum, List.map_nil, List.foldl_nil]; unfold wrap64; omega)
  clear h0
  go_enter Tryd.func45, Tryd.ntmps45
  go_wp2_with fail
  go_ret2
  exact ⟨.inl ⟨(fun _ h => by cases h), g0, rfl, by rw [HW.out]; exact H0.out⟩, Below.refl _ _⟩

set_option maxHeartbeats 1000000 in
theorem msub_some (a0 : Int) (c0 : Cur) (g0 : Nat) (b off cap : Nat) (l : List (Int × Cur)) (w : World) (h0 : MoneyAt w g0 a0 c0) (hl : Amts w (some ⟨b, off, none⟩) l) (hn : 0 < l.length) (hm : l.length ≤ 1000)
    (hs : c0.code.size ≤ 1000) (ha : ascB c0.code = true) (hE : ErrAt w) :
    Calls Tryd.prog 45 #[.pointer (some ⟨g0, 0, none⟩), .slice (some ⟨b, off, none⟩) l.length cap] w (SubPost w a0 c0 l) := by
  obtain ⟨k0, m0, q0⟩ := h0
  have e0 : w.cell? ⟨g0, 0, none⟩ = some (.int .i64 a0) := m0.cell 0
  have e1 : w.cell? ⟨g0, 1, none⟩ = some (.pointer (some ⟨k0, 0, none⟩)) := m0.cell 1
  have e2 : w.cell? ⟨k0, 0, none⟩ = some (.string c0.code) := q0.cell 0
  have M0 := Lib.hid m0
  have Q0 := Lib.hid q0
  have HL := Lib.hid hl
  have HA := Lib.hid ha
  have HE := Lib.hid hE
  clear m0 q0 hl ha hE
  go_enter Tryd.func45, Tryd.ntmps45
  go_wp2_with fail
  refine (new_any 0 c0.code _ hs HA.out).mono ?_
  rintro e w1 ⟨gk, rfl, hk, hgk, hb1⟩
  obtain ⟨kk, mk, qk⟩ := hk
  have MK := Lib.hid mk
  have HB1 := Lib.hid hb1
  clear e0 e1 e2 mk qk hb1
  go_wp2_with fail
  go_loopw [24] (fun i wr => ∃ j : Nat, j ≤ l.length ∧ i = .int .i64 j ∧ Hid (sameTo c0 l j) ∧ Hid (Blk wr gk 81 #[.int .i64 (sumTo l j), .pointer (some ⟨kk, 0, none⟩)]) ∧ Hid (Below w.heap.size w wr)) (fun i _ => l.length - (intOf i).toNat)
  case atStart => exact ⟨0, Nat.zero_le _, rfl, (fun _ h => by simp at h), MK, HB1⟩
  case round =>
    clear MK HB1
    obtain ⟨j, hj, rfl, HS, MK, HB⟩ := hrel
    by_cases hlt : j < l.length
    · obtain ⟨g, hc, hm⟩ := HL.out.at_ j l[j] (List.getElem?_eq_getElem hlt)
      have hne : g ≠ gk := by have := hm.lt; omega
      have e3 : wr.cell? ⟨b, off + j, none⟩ = some (.pointer (some ⟨g, 0, none⟩)) := by rw [HB.out.cell (cell_lt hc)]; exact hc
      have M2 := Lib.hid (hm.below HB.out)
      clear hc hm
      by_cases hcode : l[j].2.code = c0.code
      · have HC := Lib.hid hcode
        clear hcode
        go_wp2_with fail
        refine (assert_yes a0 l[j].1 c0 l[j].2 g0 g _ (MoneyAt.below ⟨k0, M0.out, Q0.out⟩ HB.out) M2.out HC.out.symm).mono ?_
        rintro e w3 ⟨rfl, n3, hw3⟩
        have MK3 : Blk w3 gk 81 #[.int .i64 (sumTo l j), .pointer (some ⟨kk, 0, none⟩)] := by rw [hw3]; exact MK.out.drewN n3
        have HB3 := Lib.hid (show Below w.heap.size w w3 by rw [hw3]; exact below_drewN HB.out n3)
        obtain ⟨k2, m2, _⟩ := M2.out
        have m3 : Blk w3 g 81 #[.int .i64 l[j].1, .pointer (some ⟨k2, 0, none⟩)] := by rw [hw3]; exact m2.drewN n3
        clear e3 hw3 m2
        have e4 : w3.cell? ⟨g, 0, none⟩ = some (.int .i64 l[j].1) := m3.cell 0
        have e5 : w3.cell? ⟨gk, 0, none⟩ = some (.int .i64 (sumTo l j)) := MK3.cell 0
        have e6 : w3.frozen? ⟨gk, 0, none⟩ = false := MK3.frozen 0
        have l1 : gk < w3.heap.size := MK3.lt
        have l2 : g < w3.heap.size := m3.lt
        have MK3H := Lib.hid MK3
        clear m3 MK3
        go_wp2_with fail
        go_region_with (first
          | (go_at_call 54; refine (calc_any _).mono ?_; rintro e w' ⟨rfl, rfl⟩)
          | (go_at_call 55; refine (add_any _ _ _ _).mono ?_; rintro e w' ⟨rfl, rfl⟩))
        all_goals
          go_wp2
          refine ⟨⟨j + 1, by omega, by go_num, sameTo_succ c0 l j hlt HS.out HC.out, ?_, ((HB3.out.setCell hgk _).alloc (by have := HB3.out.size; simpa [World.setCell] using this) _).drew⟩, by simp [intOf]; omega⟩
          rw [sumTo_succ l j hlt]
          exact ((MK3H.out.set_ 0 _).alloc _).drew
      · have HC := Lib.hid hcode
        clear hcode
        go_wp2_with fail
        refine (assert_no a0 l[j].1 c0 l[j].2 g0 g _ (MoneyAt.below ⟨k0, M0.out, Q0.out⟩ HB.out) M2.out (fun h => HC.out h.symm) (HE.out.below HB.out)).mono ?_
        rintro e w3 ⟨⟨t, v, rfl⟩, n3, rfl⟩
        go_wp2_with fail
        go_ret2
        exact ⟨.inr ⟨⟨l[j], List.getElem_mem hlt, HC.out⟩, t, v, rfl⟩, below_drewN HB.out n3⟩
    · have m1 : Blk wr g0 81 #[.int .i64 a0, .pointer (some ⟨k0, 0, none⟩)] := M0.out.below HB.out M0.out.lt
      have e4 : wr.cell? ⟨g0, 0, none⟩ = some (.int .i64 a0) := m1.cell 0
      have e7 : wr.cell? ⟨g0, 1, none⟩ = some (.pointer (some ⟨k0, 0, none⟩)) := m1.cell 1
      have e5 : wr.cell? ⟨gk, 0, none⟩ = some (.int .i64 (sumTo l j)) := MK.out.cell 0
      have l1 : gk < wr.heap.size := MK.out.lt
      have l2 : g0 < wr.heap.size := m1.lt
      clear m1
      go_wp2_with fail
      go_region_held3 (fun w' => w'.cell? ⟨g0, 0, none⟩ = some (.int .i64 a0) ∧ w'.cell? ⟨gk, 0, none⟩ = some (.int .i64 (sumTo l j)) ∧ w'.cell? ⟨g0, 1, none⟩ = some (.pointer (some ⟨k0, 0, none⟩))) (go_keep) (first
          | (go_at_call 54; refine (calc_any _).mono ?_; rintro e w' ⟨rfl, rfl⟩)
          | (go_at_call 62; refine (sub_any _ _ _ _).mono ?_; rintro e w' ⟨rfl, rfl⟩))
      all_goals
        go_wp2
        go_ret2
        have hS : ∀ x ∈ l, x.2.code = c0.code := fun x hx => HS.out x (by rw [List.take_of_length_le (by omega)]; exact hx)
        have hz : wr.heap.size + 1 = (wr.alloc (.cells #[] 99)).heap.size := by simp
        have q1 : Blk wr k0 79 c0.cells := Q0.out.below HB.out Q0.out.lt
        refine ⟨.inl ⟨hS, _, rfl, ⟨k0, ?_, ((q1.alloc _).alloc _).drew⟩⟩, ((HB.out.alloc HB.out.size _).alloc (by have := HB.out.size; simp; omega) _).drew⟩
        rw [← sumTo_all l j (by omega), hz]
        exact (Blk.new _ _ _).drew
/-- What Subtract comes to, for any number of other amounts. -/
theorem msub_any (a0 : Int) (c0 : Cur) (g0 : Nat) (A : Option Addr) (n cap : Nat) (l : List (Int × Cur)) (w : World) (h0 : MoneyAt w g0 a0 c0) (hl : Amts w A l) (hn : l.length = n) (hm : l.length ≤ 1000)
    (hs : c0.code.size ≤ 1000) (ha : ascB c0.code = true) (hE : ErrAt w) (hlo : -9223372036854775808 ≤ a0) (hhi : a0 ≤ 9223372036854775807) :
    Calls Tryd.prog 45 #[.pointer (some ⟨g0, 0, none⟩), .slice A n cap] w (SubPost w a0 c0 l) := by
  subst hn
  cases l with
  | nil => exact msubNil a0 c0 g0 A cap w h0 hlo hhi
  | cons x l =>
    obtain ⟨b, off, rfl, _⟩ := hl (by simp)
    exact msub_some a0 c0 g0 b off cap (x :: l) w h0 hl (by simp) hm hs ha hE

theorem msub_yes (a0 : Int) (c0 : Cur) (g0 : Nat) (A : Option Addr) (n cap : Nat) (l : List (Int × Cur)) (w : World) (h0 : MoneyAt w g0 a0 c0) (hl : Amts w A l) (hn : l.length = n) (hm : l.length ≤ 1000)
    (hs : c0.code.size ≤ 1000) (ha : ascB c0.code = true) (hE : ErrAt w) (hlo : -9223372036854775808 ≤ a0) (hhi : a0 ≤ 9223372036854775807) (hsame : ∀ x ∈ l, x.2.code = c0.code) :
    Calls Tryd.prog 45 #[.pointer (some ⟨g0, 0, none⟩), .slice A n cap] w fun e w' => ∃ g, e = .returned (.tuple #[.pointer (some ⟨g, 0, none⟩), .nilIface]) ∧ MoneyAt w' g (wrap64 (a0 - wsum (l.map (·.1)))) c0 ∧ Below w.heap.size w w' := by
  refine (msub_any a0 c0 g0 A n cap l w h0 hl hn hm hs ha hE hlo hhi).mono ?_
  rintro e w' ⟨⟨_, g, he, hg⟩ | ⟨⟨x, hx, hne⟩, _⟩, hb⟩
  · exact ⟨g, he, hg, hb⟩
  · exact absurd (hsame x hx) hne
theorem msub_no (a0 : Int) (c0 : Cur) (g0 : Nat) (A : Option Addr) (n cap : Nat) (l : List (Int × Cur)) (w : World) (h0 : MoneyAt w g0 a0 c0) (hl : Amts w A l) (hn : l.length = n) (hm : l.length ≤ 1000)
    (hs : c0.code.size ≤ 1000) (ha : ascB c0.code = true) (hE : ErrAt w) (hlo : -9223372036854775808 ≤ a0) (hhi : a0 ≤ 9223372036854775807) (hsame : ∃ x ∈ l, x.2.code ≠ c0.code) :
    Calls Tryd.prog 45 #[.pointer (some ⟨g0, 0, none⟩), .slice A n cap] w fun e w' => ∃ t v, e = .returned (.tuple #[.pointer none, .iface t v]) ∧ Below w.heap.size w w' := by
  refine (msub_any a0 c0 g0 A n cap l w h0 hl hn hm hs ha hE hlo hhi).mono ?_
  rintro e w' ⟨⟨hs, _⟩ | ⟨_, t, v, he⟩, hb⟩
  · obtain ⟨x, hx, hne⟩ := hsame
    exact absurd (hs x hx) hne
  · exact ⟨t, v, he, hb⟩


/-- The first number without the others, going round at 64 bits. -/
def wdiff : List Int → Int
  | [] => 0
  | a :: l => l.foldl (fun r n => wrap64 (r - n)) a
theorem wrap_sub' (a b : Int) : wrap64 (wrap64 a - b) = wrap64 (a - b) := by unfold wrap64; omega
theorem wrap_sub (a b : Int) : wrap64 (a - wrap64 b) = wrap64 (a - b) := by unfold wrap64; omega
theorem fold_sub (l : List Int) : ∀ s : Int, l.foldl (fun r n => wrap64 (r - n)) (wrap64 s) = wrap64 (s - l.sum) := by
  induction l with
  | nil => intro s; simp
  | cons a l ih =>
    intro s
    rw [List.foldl_cons, wrap_sub', ih, List.sum_cons]
    congr 1; omega
theorem wdiff_cons (a : Int) (l : List Int) (hlo : -9223372036854775808 ≤ a) (hhi : a ≤ 9223372036854775807) : wrap64 (a - wsum l) = wdiff (a :: l) := by
  have h := fold_sub l a
  have h0 : wrap64 a = a := by unfold wrap64; omega
  rw [h0] at h
  rw [wsum_eq, wrap_sub]
  exact h.symm
def SubRes (w : World) (l : List (Int × Cur)) (u : ByteArray) (e : Ending) (w' : World) : Prop :=
  (((∀ x ∈ l, x.2.code = u) ∧ e = .returned (.tuple #[.int .i64 (wdiff (l.map (·.1))), .string u, .bool true])) ∨
    ((∃ x ∈ l, x.2.code ≠ u) ∧ e = .returned (.tuple #[.int .i64 0, .string ⟨#[]⟩, .bool false]))) ∧ Below w.heap.size w w'

end Go.Proofs.YteanfkmchfhfpaaDoor
