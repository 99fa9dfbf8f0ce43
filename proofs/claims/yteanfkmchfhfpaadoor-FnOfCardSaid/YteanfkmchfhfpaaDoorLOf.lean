/- FnOf, walked. -/
import Derived.Test.YteanfkmchfhfpaaDoorLCurr
namespace Go.Proofs.YteanfkmchfhfpaaDoor
open Go.RowKit

/-- Seven cells of a currency at block k. -/
def At7 (w : World) (k : Nat) (c : Cur) : Prop :=
  w.cell? ⟨k, 0, none⟩ = some (.string c.code) ∧ w.cell? ⟨k, 1, none⟩ = some (.string c.num) ∧ w.cell? ⟨k, 2, none⟩ = some (.int .i64 c.frac) ∧ w.cell? ⟨k, 3, none⟩ = some (.string c.graph) ∧ w.cell? ⟨k, 4, none⟩ = some (.string c.tmpl) ∧ w.cell? ⟨k, 5, none⟩ = some (.string c.dec) ∧ w.cell? ⟨k, 6, none⟩ = some (.string c.thou)

theorem upper_twice (b : UInt8) : Lib.upperB (Lib.upperB b) = Lib.upperB b := by
  have h : ∀ n : Fin 256, Lib.upperB (Lib.upperB ⟨⟨n⟩⟩) = Lib.upperB ⟨⟨n⟩⟩ := by decide +kernel
  exact h b.toBitVec.toFin
theorem upB_twice (s : ByteArray) : upB (upB s) = upB s := by
  unfold upB Lib.toUpperA
  simp [upper_twice]

theorem implOf_val (s : ByteArray) (c : Cur) (w : World) (hs : s.size ≤ 100) (ha : ascB s = true) (hc : curFor (upB s) = c) :
    Calls Tryd.prog 27 #[.string s] w fun e w' => e = .returned (.agg #[.string c.code, .string c.num, .int .i64 c.frac, .string c.graph, .string c.tmpl, .string c.dec, .string c.thou]) ∧ Below w.heap.size w w' :=
  (implOf_any s w hs ha).mono fun e w' ⟨he, hb⟩ => ⟨by rw [he, hc, Cur.val, Cur.cells], hb⟩

theorem implOf_def (s : ByteArray) (w : World) (hs : s.size ≤ 100) (ha : ascB s = true) (hc : curFor (upB s) = defCur (upB s)) :
    Calls Tryd.prog 27 #[.string s] w fun e w' => e = .returned (.agg #[.string (upB s), .string ⟨#[]⟩, .int .i64 2, .string (upB s), .string ⟨#[49, 36]⟩, .string ⟨#[46]⟩, .string ⟨#[44]⟩]) ∧ Below w.heap.size w w' :=
  (implOf_any s w hs ha).mono fun e w' ⟨he, hb⟩ => ⟨by rw [he, hc]; rfl, hb⟩

theorem keep7 {W w w' : World} {p0 p1 p2 p3 p4 p5 p6 : Addr} {v0 v1 v2 v3 v4 v5 v6 : Value}
    (h : w.cell? p0 = some v0 ∧ w.cell? p1 = some v1 ∧ w.cell? p2 = some v2 ∧ w.cell? p3 = some v3 ∧ w.cell? p4 = some v4 ∧ w.cell? p5 = some v5 ∧ w.cell? p6 = some v6 ∧ Below W.heap.size W w) (hb : Below w.heap.size w w') :
    w'.cell? p0 = some v0 ∧ w'.cell? p1 = some v1 ∧ w'.cell? p2 = some v2 ∧ w'.cell? p3 = some v3 ∧ w'.cell? p4 = some v4 ∧ w'.cell? p5 = some v5 ∧ w'.cell? p6 = some v6 ∧ Below W.heap.size W w' := by
  obtain ⟨h0, h1, h2, h3, h4, h5, h6, h7⟩ := h
  exact ⟨keep_cell h0 hb, keep_cell h1 hb, keep_cell h2 hb, keep_cell h3 hb, keep_cell h4 hb, keep_cell h5 hb, keep_cell h6 hb, h7.trans (hb.mono h7.size)⟩

theorem below7 {W w : World} {p0 p1 p2 p3 p4 p5 p6 : Addr} {v0 v1 v2 v3 v4 v5 v6 : Value}
    (h : w.cell? p0 = some v0 ∧ w.cell? p1 = some v1 ∧ w.cell? p2 = some v2 ∧ w.cell? p3 = some v3 ∧ w.cell? p4 = some v4 ∧ w.cell? p5 = some v5 ∧ w.cell? p6 = some v6 ∧ Below W.heap.size W w) : Below W.heap.size W w := h.2.2.2.2.2.2.2

set_option maxRecDepth 100000 in
set_option maxHeartbeats 4000000 in
theorem fnOf_some (s : ByteArray) (c : Cur) (w : World) (hp : plainB s = true) (hc : curOf (upB s) = some c) (hE : ErrAt w) :
    Calls Tryd.prog 10 #[.string s] w fun e w' => e = .returned (.bool true) ∧ Below w.heap.size w w' := by
  have hs := plainB_size hp
  have HA := Lib.hid (plainB_asc hp)
  have HA2 := Lib.hid (upB_asc _ HA.out)
  have HP := Lib.hid hp
  have HC := Lib.hid (show curOf (upB (upB s)) = some c by rw [upB_twice]; exact hc)
  have HCF := Lib.hid (show curFor (upB s) = c by unfold curFor; rw [hc]; rfl)
  have HE := Lib.hid hE
  have HZ := Lib.hid (show (upB s).size ≤ 20 by rw [upB_size]; exact hs)
  clear hp hc hE
  go_enter Tryd.func10, Tryd.ntmps10
  go_wp2_with fail
  refine (plain_any s _ (by unfold maxLen; omega)).mono ?_
  rintro e _ ⟨rfl, rfl⟩
  rw [HP.out]
  go_wp2_with fail
  refine (upper_any s _ (by omega)).mono ?_
  rintro e w1 ⟨rfl, hb1⟩
  have HB1 := Lib.hid hb1
  clear hb1
  go_wp2_with fail
  refine (implCurrency_some (upB s) c _ (by have := HZ.out; omega) HA2.out HC.out).mono ?_
  rintro e w2 ⟨he, hb2⟩
  unfold Cur.val Cur.cells at he
  subst he
  have HB2 := Lib.hid (HB1.out.trans (hb2.mono HB1.out.size))
  clear hb2
  go_wp2_with fail
  have hf := Blk.new w2 26 #[.string c.code, .string c.num, .int .i64 c.frac, .string c.graph, .string c.tmpl, .string c.dec, .string c.thou]
  have HB := Lib.hid (HB2.out.alloc HB2.out.size (.cells #[.string c.code, .string c.num, .int .i64 c.frac, .string c.graph, .string c.tmpl, .string c.dec, .string c.thou] 26))
  generalize w2.alloc _ = w3 at *
  generalize w2.heap.size = k at *
  have h0 := hf.cell 0
  have h1 := hf.cell 1
  have h2 := hf.cell 2
  have h3 := hf.cell 3
  have h4 := hf.cell 4
  have h5 := hf.cell 5
  have h6 := hf.cell 6
  have H7 := Lib.hid (show At7 w3 k c from ⟨h0, h1, h2, h3, h4, h5, h6⟩)
  clear hf h0 h1 h2 h3 h4 h5 h6
  go_region_held3 (fun w' => w'.cell? ⟨k, 0, none⟩ = some (.string c.code) ∧ w'.cell? ⟨k, 1, none⟩ = some (.string c.num) ∧ w'.cell? ⟨k, 2, none⟩ = some (.int .i64 c.frac) ∧ w'.cell? ⟨k, 3, none⟩ = some (.string c.graph) ∧ w'.cell? ⟨k, 4, none⟩ = some (.string c.tmpl) ∧ w'.cell? ⟨k, 5, none⟩ = some (.string c.dec) ∧ w'.cell? ⟨k, 6, none⟩ = some (.string c.thou) ∧ Below w.heap.size w w') (first | exact ⟨H7.out.1, H7.out.2.1, H7.out.2.2.1, H7.out.2.2.2.1, H7.out.2.2.2.2.1, H7.out.2.2.2.2.2.1, H7.out.2.2.2.2.2.2, HB.out.drew⟩ | exact keep7 (by assumption) (by assumption)) (first
    | (go_at_call 27; refine (implOf_val s c _ (by omega) HA.out HCF.out).mono ?_; rintro e w4 ⟨rfl, hb4⟩)
    | (go_at_call 20; refine (alive_any _ (HE.out.below (below7 (by assumption)))).mono ?_; rintro e w5 ⟨rfl, hb5⟩))
  all_goals
    have HFIN := Lib.hid (below7 (by assumption))
    go_wp2
    go_ret
    exact ⟨rfl, HFIN.out⟩
set_option maxRecDepth 100000 in
set_option maxHeartbeats 4000000 in
theorem fnOf_none (s : ByteArray) (w : World) (hp : plainB s = true) (hc : curOf (upB s) = none) (hE : ErrAt w) :
    Calls Tryd.prog 10 #[.string s] w fun e w' => e = .returned (.bool true) ∧ Below w.heap.size w w' := by
  have hs := plainB_size hp
  have HA := Lib.hid (plainB_asc hp)
  have HA2 := Lib.hid (upB_asc _ HA.out)
  have HP := Lib.hid hp
  have HC := Lib.hid (show curOf (upB (upB s)) = none by rw [upB_twice]; exact hc)
  have HCF := Lib.hid (show curFor (upB s) = defCur (upB s) by unfold curFor; rw [hc]; rfl)
  have HE := Lib.hid hE
  have HZ := Lib.hid (show (upB s).size ≤ 20 by rw [upB_size]; exact hs)
  clear hp hc hE
  go_enter Tryd.func10, Tryd.ntmps10
  go_wp2_with fail
  refine (plain_any s _ (by unfold maxLen; omega)).mono ?_
  rintro e _ ⟨rfl, rfl⟩
  rw [HP.out]
  go_wp2_with fail
  refine (upper_any s _ (by omega)).mono ?_
  rintro e w1 ⟨rfl, hb1⟩
  have HB1 := Lib.hid hb1
  clear hb1
  go_wp2_with fail
  refine (implCurrency_none (upB s) _ (by have := HZ.out; omega) HA2.out HC.out).mono ?_
  rintro e w2 ⟨he, hb2⟩
  unfold noCur Cur.val Cur.cells at he
  subst he
  have HB2 := Lib.hid (HB1.out.trans (hb2.mono HB1.out.size))
  clear hb2
  go_wp2_with fail
  have hf := Blk.new w2 26 #[.string (upB s), .string ⟨#[]⟩, .int .i64 2, .string (upB s), .string ⟨#[49, 36]⟩, .string ⟨#[46]⟩, .string ⟨#[44]⟩]
  have HB := Lib.hid (HB2.out.alloc HB2.out.size (.cells #[.string (upB s), .string ⟨#[]⟩, .int .i64 2, .string (upB s), .string ⟨#[49, 36]⟩, .string ⟨#[46]⟩, .string ⟨#[44]⟩] 26))
  generalize w2.alloc _ = w3 at *
  generalize w2.heap.size = k at *
  have h0 := hf.cell 0
  have h1 := hf.cell 1
  have h2 := hf.cell 2
  have h3 := hf.cell 3
  have h4 := hf.cell 4
  have h5 := hf.cell 5
  have h6 := hf.cell 6
  have H7 := Lib.hid (show At7 w3 k (defCur (upB s)) from ⟨h0, h1, h2, h3, h4, h5, h6⟩)
  clear hf h0 h1 h2 h3 h4 h5 h6
  go_region_held3 (fun w' => w'.cell? ⟨k, 0, none⟩ = some (.string (upB s)) ∧ w'.cell? ⟨k, 1, none⟩ = some (.string ⟨#[]⟩) ∧ w'.cell? ⟨k, 2, none⟩ = some (.int .i64 2) ∧ w'.cell? ⟨k, 3, none⟩ = some (.string (upB s)) ∧ w'.cell? ⟨k, 4, none⟩ = some (.string ⟨#[49, 36]⟩) ∧ w'.cell? ⟨k, 5, none⟩ = some (.string ⟨#[46]⟩) ∧ w'.cell? ⟨k, 6, none⟩ = some (.string ⟨#[44]⟩) ∧ Below w.heap.size w w') (first | exact ⟨H7.out.1, H7.out.2.1, H7.out.2.2.1, H7.out.2.2.2.1, H7.out.2.2.2.2.1, H7.out.2.2.2.2.2.1, H7.out.2.2.2.2.2.2, HB.out.drew⟩ | exact keep7 (by assumption) (by assumption)) (first
    | (go_at_call 27; refine (implOf_def s _ (by omega) HA.out HCF.out).mono ?_; rintro e w4 ⟨rfl, hb4⟩)
    | (go_at_call 20; refine (alive_any _ (HE.out.below (below7 (by assumption)))).mono ?_; rintro e w5 ⟨rfl, hb5⟩))
  all_goals
    have HFIN := Lib.hid (below7 (by assumption))
    go_wp2
    go_ret
    exact ⟨rfl, HFIN.out⟩

set_option maxRecDepth 100000 in
set_option maxHeartbeats 1000000 in
theorem fnOf_out (s : ByteArray) (w : World) (hs : s.size ≤ maxLen) (hp : plainB s = false) :
    Calls Tryd.prog 10 #[.string s] w fun e w' => e = .returned (.bool true) ∧ Below w.heap.size w w' := by
  have HP := Lib.hid hp
  have HS := Lib.hid hs
  unfold maxLen at hs
  clear hp
  by_cases hbig : 2147483647 < s.size
  · go_enter Tryd.func10, Tryd.ntmps10
    go_wp2_with fail
    go_ret
    exact ⟨rfl, Below.refl _ _⟩
  · go_enter Tryd.func10, Tryd.ntmps10
    go_wp2_with fail
    refine (plain_any s _ HS.out).mono ?_
    rintro e _ ⟨rfl, rfl⟩
    rw [HP.out]
    go_wp2_with fail
    go_ret
    exact ⟨rfl, Below.refl _ _⟩

theorem fnOf_law (s : ByteArray) (w : World) (hs : s.size ≤ maxLen) (hE : ErrAt w) :
    Calls Tryd.prog 10 #[.string s] w fun e w' => e = .returned (.bool true) ∧ Below w.heap.size w w' := by
  cases hp : plainB s with
  | false => exact fnOf_out s w hs hp
  | true =>
    cases hc : curOf (upB s) with
    | none => exact fnOf_none s w hp hc hE
    | some c => exact fnOf_some s c w hp hc hE
end Go.Proofs.YteanfkmchfhfpaaDoor
