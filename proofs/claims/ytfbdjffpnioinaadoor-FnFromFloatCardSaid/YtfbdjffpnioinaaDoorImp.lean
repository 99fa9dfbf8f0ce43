/- impl.told, impl.Add, laws.alive: sums of amounts of one currency, refused for several. -/
import Derived.Test.YtfbdjffpnioinaaDoorAmts
namespace Go.Proofs.YtfbdjffpnioinaaDoor
open Go.RowKit

set_option maxHeartbeats 400000 in
theorem amount_any (a : Int) (c : Cur) (g : Nat) (w : World) (h : MoneyAt w g a c) :
    Calls Tryd.prog 24 #[.pointer (some ⟨g, 0, none⟩)] w fun e w' => e = .returned (.int .i64 a) ∧ w' = w := by
  obtain ⟨k, m, q⟩ := h
  have e1 : w.cell? ⟨g, 0, none⟩ = some (.int .i64 a) := m.cell 0
  clear m q
  go_enter Tryd.func24, Tryd.ntmps24
  go_wp2
  go_ret
  exact ⟨rfl, rfl⟩
set_option maxHeartbeats 400000 in
theorem currency_any (a : Int) (kc g : Nat) (w : World) (m : Blk w g 64 #[.int .i64 a, .pointer (some ⟨kc, 0, none⟩)]) :
    Calls Tryd.prog 22 #[.pointer (some ⟨g, 0, none⟩)] w fun e w' => e = .returned (.pointer (some ⟨kc, 0, none⟩)) ∧ w' = w := by
  have e1 : w.cell? ⟨g, 1, none⟩ = some (.pointer (some ⟨kc, 0, none⟩)) := m.cell 1
  clear m
  go_enter Tryd.func22, Tryd.ntmps22
  go_wp2
  go_ret
  exact ⟨rfl, rfl⟩

set_option maxHeartbeats 400000 in
theorem told_yes (a : Int) (c : Cur) (g : Nat) (w : World) (h : MoneyAt w g a c) :
    Calls Tryd.prog 35 #[.pointer (some ⟨g, 0, none⟩), .nilIface] w fun e w' => e = .returned (.tuple #[.int .i64 a, .string c.code, .bool true]) ∧ ∃ n, w' = w.drewN n := by
  have H := Lib.hid h
  obtain ⟨k, m, q⟩ := h
  have M := Lib.hid m
  have e2 : w.cell? ⟨k, 0, none⟩ = some (.string c.code) := q.cell 0
  clear m q
  go_enter Tryd.func35, Tryd.ntmps35
  go_wp2_with fail
  go_quiet ((first | (go_at_call 24; exact Calls.quiet_of_same (amount_any a c g _ (MoneyAt.drewN H.out _))) | (go_at_call 22; exact Calls.quiet_of_same (currency_any a k g _ (M.out.drewN _)))))
  go_wp2
  go_ret3
  exact ⟨rfl, _, rfl⟩
set_option maxHeartbeats 400000 in
theorem told_no (p : Option Addr) (t : TypeId) (v : Value) (w : World) :
    Calls Tryd.prog 35 #[.pointer p, .iface t v] w fun e w' => e = .returned (.tuple #[.int .i64 0, .string ⟨#[]⟩, .bool false]) ∧ w' = w := by
  go_enter Tryd.func35, Tryd.ntmps35
  go_wp2
  go_ret3
  exact ⟨rfl, rfl⟩

/-- What Add comes to, for any number of other amounts. -/
theorem madd_any (a0 : Int) (c0 : Cur) (g0 : Nat) (A : Option Addr) (n cap : Nat) (l : List (Int × Cur)) (w : World) (h0 : MoneyAt w g0 a0 c0) (hl : Amts w A l) (hn : l.length = n) (hm : l.length ≤ 1000)
    (hs : c0.code.size ≤ 1000) (ha : ascB c0.code = true) (hE : ErrAt w) (hlo : -9223372036854775808 ≤ a0) (hhi : a0 ≤ 9223372036854775807) :
    Calls Tryd.prog 36 #[.pointer (some ⟨g0, 0, none⟩), .slice A n cap] w (AddPost w a0 c0 l) := by
  subst hn
  cases l with
  | nil => exact maddNil a0 c0 g0 A cap w h0 hlo hhi
  | cons x l =>
    obtain ⟨b, off, rfl, _⟩ := hl (by simp)
    exact madd_some a0 c0 g0 b off cap (x :: l) w h0 hl (by simp) hm hs ha hE

theorem madd_yes (a0 : Int) (c0 : Cur) (g0 : Nat) (A : Option Addr) (n cap : Nat) (l : List (Int × Cur)) (w : World) (h0 : MoneyAt w g0 a0 c0) (hl : Amts w A l) (hn : l.length = n) (hm : l.length ≤ 1000)
    (hs : c0.code.size ≤ 1000) (ha : ascB c0.code = true) (hE : ErrAt w) (hlo : -9223372036854775808 ≤ a0) (hhi : a0 ≤ 9223372036854775807) (hsame : ∀ x ∈ l, x.2.code = c0.code) :
    Calls Tryd.prog 36 #[.pointer (some ⟨g0, 0, none⟩), .slice A n cap] w fun e w' => ∃ g, e = .returned (.tuple #[.pointer (some ⟨g, 0, none⟩), .nilIface]) ∧ MoneyAt w' g (wrap64 (a0 + wsum (l.map (·.1)))) c0 ∧ Below w.heap.size w w' := by
  refine (madd_any a0 c0 g0 A n cap l w h0 hl hn hm hs ha hE hlo hhi).mono ?_
  rintro e w' ⟨⟨_, g, he, hg⟩ | ⟨⟨x, hx, hne⟩, _⟩, hb⟩
  · exact ⟨g, he, hg, hb⟩
  · exact absurd (hsame x hx) hne
theorem madd_no (a0 : Int) (c0 : Cur) (g0 : Nat) (A : Option Addr) (n cap : Nat) (l : List (Int × Cur)) (w : World) (h0 : MoneyAt w g0 a0 c0) (hl : Amts w A l) (hn : l.length = n) (hm : l.length ≤ 1000)
    (hs : c0.code.size ≤ 1000) (ha : ascB c0.code = true) (hE : ErrAt w) (hlo : -9223372036854775808 ≤ a0) (hhi : a0 ≤ 9223372036854775807) (hsame : ∃ x ∈ l, x.2.code ≠ c0.code) :
    Calls Tryd.prog 36 #[.pointer (some ⟨g0, 0, none⟩), .slice A n cap] w fun e w' => ∃ t v, e = .returned (.tuple #[.pointer none, .iface t v]) ∧ Below w.heap.size w w' := by
  refine (madd_any a0 c0 g0 A n cap l w h0 hl hn hm hs ha hE hlo hhi).mono ?_
  rintro e w' ⟨⟨hs, _⟩ | ⟨_, t, v, he⟩, hb⟩
  · obtain ⟨x, hx, hne⟩ := hsame
    exact absurd (hs x hx) hne
  · exact ⟨t, v, he, hb⟩

theorem Amts.tail {w : World} {b off : Nat} {x : Int × Cur} {l : List (Int × Cur)} (h : Amts w (some ⟨b, off, none⟩) (x :: l)) : Amts w (some ⟨b, off + 1, none⟩) l := fun _ =>
  ⟨b, off + 1, rfl, fun i y hy => by
    have := h.at_ (i + 1) y (by simpa using hy)
    have e : off + 1 + i = off + (i + 1) := by omega
    rw [e]; exact this⟩

theorem wrap_add (a b : Int) : wrap64 (a + wrap64 b) = wrap64 (a + b) := by unfold wrap64; omega
theorem wrap_add' (a b : Int) : wrap64 (wrap64 a + b) = wrap64 (a + b) := by unfold wrap64; omega
theorem fold_wrap (l : List Int) : ∀ s : Int, l.foldl (fun s a => wrap64 (s + a)) (wrap64 s) = wrap64 (s + l.sum) := by
  induction l with
  | nil => intro s; simp
  | cons a l ih =>
    intro s
    rw [List.foldl_cons, wrap_add', ih, List.sum_cons]
    congr 1; omega
theorem wsum_eq (l : List Int) : wsum l = wrap64 l.sum := by
  have h := fold_wrap l 0
  have h0 : wrap64 0 = 0 := by unfold wrap64; omega
  rw [h0, Int.zero_add] at h
  exact h
theorem wsum_cons (a : Int) (l : List Int) : wsum (a :: l) = wrap64 (a + wsum l) := by
  rw [wsum_eq, wsum_eq, wrap_add, List.sum_cons]
theorem amtList_head {ss : List ByteArray} {zs : List Int} {x : Int × Cur} {l : List (Int × Cur)} (h : amtList ss zs = x :: l) : x.1 ∈ zs ∧ x.2 = curFor (upB (ss.getD 0 ⟨#[]⟩)) := by
  cases zs with
  | nil => simp [amtList] at h
  | cons z zs =>
    cases ss with
    | nil => simp [amtList] at h
    | cons s ss =>
      simp only [amtList, List.zip_cons_cons, List.map_cons, List.cons.injEq] at h
      obtain ⟨rfl, _⟩ := h
      exact ⟨by simp, by simp⟩

theorem below_of_drewN {w w' : World} {n : Nat} (h : w' = w.drewN n) : Below w.heap.size w w' := by rw [h]; exact below_drewN (Below.refl _ _) n
theorem below_of_eq {w w' : World} (h : w' = w) : Below w.heap.size w w' := by rw [h]; exact Below.refl _ _

theorem told_yesB (a : Int) (c : Cur) (g : Nat) (w : World) (h : MoneyAt w g a c) :
    Calls Tryd.prog 35 #[.pointer (some ⟨g, 0, none⟩), .nilIface] w fun e w' => e = .returned (.tuple #[.int .i64 a, .string c.code, .bool true]) ∧ Below w.heap.size w w' :=
  (told_yes a c g w h).mono fun _ _ ⟨he, _, hw⟩ => ⟨he, below_of_drewN hw⟩
theorem told_noB (p : Option Addr) (t : TypeId) (v : Value) (w : World) :
    Calls Tryd.prog 35 #[.pointer p, .iface t v] w fun e w' => e = .returned (.tuple #[.int .i64 0, .string ⟨#[]⟩, .bool false]) ∧ Below w.heap.size w w' :=
  (told_no p t v w).mono fun _ _ ⟨he, hw⟩ => ⟨he, below_of_eq hw⟩

def AddRes (w : World) (l : List (Int × Cur)) (u : ByteArray) (e : Ending) (w' : World) : Prop :=
  (((∀ x ∈ l, x.2.code = u) ∧ e = .returned (.tuple #[.int .i64 (wsum (l.map (·.1))), .string u, .bool true])) ∨
    ((∃ x ∈ l, x.2.code ≠ u) ∧ e = .returned (.tuple #[.int .i64 0, .string ⟨#[]⟩, .bool false]))) ∧ Below w.heap.size w w'

end Go.Proofs.YtfbdjffpnioinaaDoor
