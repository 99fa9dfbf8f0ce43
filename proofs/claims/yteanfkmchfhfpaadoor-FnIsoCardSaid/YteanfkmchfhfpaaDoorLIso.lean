/- FnIso, walked: the numbers and figures of 38 currencies. -/
import Derived.Test.YteanfkmchfhfpaaDoorLCurr
import Derived.Test.YteanfkmchfhfpaaDoorFig
namespace Go.Proofs.YteanfkmchfhfpaaDoor
open Go.RowKit

def isoTab : List (ByteArray × ByteArray × ByteArray) := [
  (⟨#[65, 69, 68]⟩, ⟨#[55, 56, 52]⟩, ⟨#[50]⟩), (⟨#[65, 82, 83]⟩, ⟨#[48, 51, 50]⟩, ⟨#[50]⟩), (⟨#[65, 85, 68]⟩, ⟨#[48, 51, 54]⟩, ⟨#[50]⟩), (⟨#[66, 72, 68]⟩, ⟨#[48, 52, 56]⟩, ⟨#[51]⟩),
  (⟨#[66, 82, 76]⟩, ⟨#[57, 56, 54]⟩, ⟨#[50]⟩), (⟨#[67, 65, 68]⟩, ⟨#[49, 50, 52]⟩, ⟨#[50]⟩), (⟨#[67, 72, 70]⟩, ⟨#[55, 53, 54]⟩, ⟨#[50]⟩), (⟨#[67, 78, 89]⟩, ⟨#[49, 53, 54]⟩, ⟨#[50]⟩),
  (⟨#[67, 90, 75]⟩, ⟨#[50, 48, 51]⟩, ⟨#[50]⟩), (⟨#[68, 75, 75]⟩, ⟨#[50, 48, 56]⟩, ⟨#[50]⟩), (⟨#[69, 71, 80]⟩, ⟨#[56, 49, 56]⟩, ⟨#[50]⟩), (⟨#[69, 85, 82]⟩, ⟨#[57, 55, 56]⟩, ⟨#[50]⟩),
  (⟨#[71, 66, 80]⟩, ⟨#[56, 50, 54]⟩, ⟨#[50]⟩), (⟨#[72, 75, 68]⟩, ⟨#[51, 52, 52]⟩, ⟨#[50]⟩), (⟨#[72, 85, 70]⟩, ⟨#[51, 52, 56]⟩, ⟨#[50]⟩), (⟨#[73, 76, 83]⟩, ⟨#[51, 55, 54]⟩, ⟨#[50]⟩),
  (⟨#[73, 78, 82]⟩, ⟨#[51, 53, 54]⟩, ⟨#[50]⟩), (⟨#[74, 79, 68]⟩, ⟨#[52, 48, 48]⟩, ⟨#[51]⟩), (⟨#[74, 80, 89]⟩, ⟨#[51, 57, 50]⟩, ⟨#[48]⟩), (⟨#[75, 82, 87]⟩, ⟨#[52, 49, 48]⟩, ⟨#[48]⟩),
  (⟨#[75, 87, 68]⟩, ⟨#[52, 49, 52]⟩, ⟨#[51]⟩), (⟨#[77, 88, 78]⟩, ⟨#[52, 56, 52]⟩, ⟨#[50]⟩), (⟨#[77, 89, 82]⟩, ⟨#[52, 53, 56]⟩, ⟨#[50]⟩), (⟨#[78, 79, 75]⟩, ⟨#[53, 55, 56]⟩, ⟨#[50]⟩),
  (⟨#[78, 90, 68]⟩, ⟨#[53, 53, 52]⟩, ⟨#[50]⟩), (⟨#[79, 77, 82]⟩, ⟨#[53, 49, 50]⟩, ⟨#[51]⟩), (⟨#[80, 72, 80]⟩, ⟨#[54, 48, 56]⟩, ⟨#[50]⟩), (⟨#[80, 76, 78]⟩, ⟨#[57, 56, 53]⟩, ⟨#[50]⟩),
  (⟨#[83, 65, 82]⟩, ⟨#[54, 56, 50]⟩, ⟨#[50]⟩), (⟨#[83, 69, 75]⟩, ⟨#[55, 53, 50]⟩, ⟨#[50]⟩), (⟨#[83, 71, 68]⟩, ⟨#[55, 48, 50]⟩, ⟨#[50]⟩), (⟨#[84, 72, 66]⟩, ⟨#[55, 54, 52]⟩, ⟨#[50]⟩),
  (⟨#[84, 78, 68]⟩, ⟨#[55, 56, 56]⟩, ⟨#[51]⟩), (⟨#[84, 82, 89]⟩, ⟨#[57, 52, 57]⟩, ⟨#[50]⟩), (⟨#[85, 65, 72]⟩, ⟨#[57, 56, 48]⟩, ⟨#[50]⟩), (⟨#[85, 83, 68]⟩, ⟨#[56, 52, 48]⟩, ⟨#[50]⟩),
  (⟨#[86, 78, 68]⟩, ⟨#[55, 48, 52]⟩, ⟨#[48]⟩), (⟨#[90, 65, 82]⟩, ⟨#[55, 49, 48]⟩, ⟨#[50]⟩)]
def isoCells : Array Value := (isoTab.flatMap fun x => [Value.string x.1, Value.string x.2.1, Value.string x.2.2]).toArray

set_option maxRecDepth 100000 in
set_option maxHeartbeats 4000000 in
theorem specIso_any (w : World) :
    Calls Tryd.prog 13 #[] w fun e w' => e = .returned (.slice (some ⟨w.heap.size, 0, none⟩) 38 38) ∧ w' = w.alloc (.cells isoCells 24) := by
  go_enter Tryd.func13, Tryd.ntmps13
  go_wp2
  go_ret
  exact ⟨rfl, congrArg (fun c => w.alloc (.cells c 24)) (show _ = isoCells by kernel_rfl)⟩

/-- A row is as the table of currencies has it. -/
def isoFind (s : ByteArray) : Option Cur := curTab.find? fun c => s.data.toList == c.code.data.toList
theorem curOf_find (s : ByteArray) : curOf s = isoFind s := by
  unfold curOf curFind isoFind
  congr 1
  funext c
  rw [Lib.toList_data, Lib.toList_data]
def isoGood (x : ByteArray × ByteArray × ByteArray) : Bool :=
  match isoFind (upB x.1) with
  | some c => decide (x.1.size ≤ 100) && ascB x.1 && (c.num.data.toList == x.2.1.data.toList) && decide (0 ≤ c.frac) && decide (c.frac < 10) && (x.2.2.data.toList == [UInt8.ofNat (48 + c.frac.toNat)])
  | none => false
theorem iso_good : isoTab.all isoGood = true := by decide +kernel
theorem arr_eq {a b : ByteArray} (h : (a.data.toList == b.data.toList) = true) : a = b :=
  bytes_eq (by rw [Lib.toList_data, Lib.toList_data]; exact h)
theorem iso_row (x : ByteArray × ByteArray × ByteArray) (h : x ∈ isoTab) : ∃ c, curOf (upB x.1) = some c ∧ x.1.size ≤ 100 ∧ ascB x.1 = true ∧ c.num = x.2.1 ∧ ∃ f : Nat, c.frac = (f : Int) ∧ f < 10 ∧ x.2.2 = ⟨(Lib.decDigits f).toArray⟩ := by
  have hg := List.all_eq_true.1 iso_good x h
  unfold isoGood at hg
  rw [← curOf_find] at hg
  cases hc : curOf (upB x.1) with
  | none => rw [hc] at hg; cases hg
  | some c =>
    rw [hc] at hg
    simp only [Bool.and_eq_true, decide_eq_true_eq] at hg
    obtain ⟨⟨⟨⟨⟨h1, h2⟩, h3⟩, h4⟩, h5⟩, h6⟩ := hg
    refine ⟨c, rfl, h1, h2, arr_eq h3, c.frac.toNat, by omega, by omega, ?_⟩
    rw [Lib.decDigits_one (by omega)]
    clear h3 hc
    generalize x.2.2 = z at h6 ⊢
    obtain ⟨⟨l⟩⟩ := z
    have h7 : l = [UInt8.ofNat (48 + c.frac.toNat)] := by simpa using h6
    rw [h7]
theorem isoTab_length : isoTab.length = 38 := by kernel_rfl
theorem iso_cells (j : Nat) (h : j < 38) : ∃ x, x ∈ isoTab ∧ isoCells[j * 3]? = some (.string x.1) ∧ isoCells[j * 3 + 1]? = some (.string x.2.1) ∧ isoCells[j * 3 + 2]? = some (.string x.2.2) := by
  have hall : ∀ j : Fin 38, isoCells[j.val * 3]? = some (.string (isoTab[j.val]'(by rw [isoTab_length]; exact j.isLt)).1) ∧ isoCells[j.val * 3 + 1]? = some (.string (isoTab[j.val]'(by rw [isoTab_length]; exact j.isLt)).2.1) ∧ isoCells[j.val * 3 + 2]? = some (.string (isoTab[j.val]'(by rw [isoTab_length]; exact j.isLt)).2.2) := by
    intro j
    have hj := j.isLt
    match j, hj with
    | ⟨j, hj⟩, _ =>
      have hc : ∀ (l : List (ByteArray × ByteArray × ByteArray)) (j : Nat) (h : j < l.length), (l.flatMap fun x => [Value.string x.1, Value.string x.2.1, Value.string x.2.2])[j * 3]? = some (.string l[j].1) ∧ (l.flatMap fun x => [Value.string x.1, Value.string x.2.1, Value.string x.2.2])[j * 3 + 1]? = some (.string l[j].2.1) ∧ (l.flatMap fun x => [Value.string x.1, Value.string x.2.1, Value.string x.2.2])[j * 3 + 2]? = some (.string l[j].2.2) := by
        intro l
        induction l with
        | nil => intro j h; simp at h
        | cons x l ih =>
          intro j h
          cases j with
          | zero => simp
          | succ j =>
            have := ih j (by simpa using h)
            have e0 : (j + 1) * 3 = j * 3 + 1 + 1 + 1 := by omega
            simp only [List.flatMap_cons, List.cons_append, List.nil_append, e0, List.getElem_cons_succ, List.getElem?_cons_succ]
            exact this
      have := hc isoTab j (by rw [isoTab_length]; exact hj)
      simpa [isoCells] using this
  have := hall ⟨j, h⟩
  exact ⟨_, List.getElem_mem _, this⟩

theorem keep4 {W w w' : World} {p0 p1 p2 p3 : Addr} {v0 v1 v2 v3 : Value}
    (h : w.cell? p0 = some v0 ∧ w.cell? p1 = some v1 ∧ w.cell? p2 = some v2 ∧ w.cell? p3 = some v3 ∧ Below W.heap.size W w) (hb : Below w.heap.size w w') :
    w'.cell? p0 = some v0 ∧ w'.cell? p1 = some v1 ∧ w'.cell? p2 = some v2 ∧ w'.cell? p3 = some v3 ∧ Below W.heap.size W w' := by
  obtain ⟨h0, h1, h2, h3, h7⟩ := h
  exact ⟨keep_cell h0 hb, keep_cell h1 hb, keep_cell h2 hb, keep_cell h3 hb, h7.trans (hb.mono h7.size)⟩
theorem below4 {W w : World} {p0 p1 p2 p3 : Addr} {v0 v1 v2 v3 : Value}
    (h : w.cell? p0 = some v0 ∧ w.cell? p1 = some v1 ∧ w.cell? p2 = some v2 ∧ w.cell? p3 = some v3 ∧ Below W.heap.size W w) : Below W.heap.size W w := h.2.2.2.2
theorem figuresIs (f : Nat) (s : ByteArray) (w : World) (hf : f < 10) (hs : s = ⟨(Lib.decDigits f).toArray⟩) :
    Calls Tryd.prog 15 #[.int .u64 (IntKind.u64.wrap (f : Int))] w fun e w' => e = .returned (.string s) ∧ Below w.heap.size w w' := by
  have hw : IntKind.u64.wrap (f : Int) = f := by unfold IntKind.wrap; simp [IntKind.bits, IntKind.signed]; omega
  rw [hs, hw]
  exact figures_any f w (by omega)

set_option maxRecDepth 100000 in
set_option maxHeartbeats 4000000 in
theorem fnIso_law (k : Int) (w : World) (h0 : 0 ≤ k) (h1 : k ≤ 255) :
    Calls Tryd.prog 3 #[.int .u8 k] w fun e w' => e = .returned (.bool true) ∧ Below w.heap.size w w' := by
  obtain ⟨n, rfl⟩ : ∃ n : Nat, k = n := ⟨k.toNat, by omega⟩
  obtain ⟨x, hx, hc0, hc1, hc2⟩ := iso_cells (n % 38) (Nat.mod_lt _ (by omega))
  obtain ⟨c, hc, hs, ha, hnum, f, hf, hf10, hfig⟩ := iso_row x hx
  obtain ⟨s0, s1, s2⟩ := x
  simp only at hc0 hc1 hc2 hc hs ha hnum hfig
  have HCC := Lib.hid hc
  have HAA := Lib.hid ha
  have HFIG := Lib.hid hfig
  clear hx hc ha hfig
  go_enter Tryd.func3, Tryd.ntmps3
  go_wp2_with fail
  refine (specIso_any _).mono ?_
  rintro e w1 ⟨rfl, hw1⟩
  have hb := Blk.new w 24 isoCells
  have e0 := (hb.cell (n % 38 * 3)).trans hc0
  have e1 := (hb.cell (n % 38 * 3 + 1)).trans hc1
  have e2 := (hb.cell (n % 38 * 3 + 2)).trans hc2
  have HB1 := Lib.hid (show Below w.heap.size w w1 by rw [hw1]; exact (Below.refl _ _).alloc (Nat.le_refl _) _)
  rw [← hw1] at e0 e1 e2
  clear hw1 hb hc0 hc1 hc2
  go_wp2_with fail
  have hf1 := Blk.new w1 24 #[.string s0, .string s1, .string s2]
  have HB2 := Lib.hid (HB1.out.alloc HB1.out.size (.cells #[.string s0, .string s1, .string s2] 24))
  clear e0 e1 e2 HB1
  generalize w1.alloc _ = w2 at *
  generalize w1.heap.size = g1 at *
  have HF1 := Lib.hid hf1
  clear hf1
  refine (implCurrency_some s0 c _ hs HAA.out HCC.out).mono ?_
  rintro e w3 ⟨he, hb3⟩
  unfold Cur.val Cur.cells at he
  rw [hnum, hf] at he
  subst he
  have HF3 := Lib.hid (HF1.out.below hb3 HF1.out.lt)
  have HB3 := Lib.hid (HB2.out.trans (hb3.mono HB2.out.size))
  clear HF1 HB2 hb3
  go_wp2_with fail
  have hf4 := Blk.new w3 26 #[.string c.code, .string s1, .int .i64 f, .string c.graph, .string c.tmpl, .string c.dec, .string c.thou]
  have HF5 := Lib.hid (HF3.out.alloc (.cells #[.string c.code, .string s1, .int .i64 f, .string c.graph, .string c.tmpl, .string c.dec, .string c.thou] 26))
  have HB5 := Lib.hid (HB3.out.alloc HB3.out.size (.cells #[.string c.code, .string s1, .int .i64 f, .string c.graph, .string c.tmpl, .string c.dec, .string c.thou] 26))
  generalize w3.alloc _ = w5 at *
  generalize w3.heap.size = g2 at *
  have HF4 := Lib.hid hf4
  clear hf4 HF3 HB3
  have i0 : w5.cell? ⟨g2, 1, none⟩ = some (.string s1) := HF4.out.cell 1
  have i1 : w5.cell? ⟨g2, 2, none⟩ = some (.int .i64 f) := HF4.out.cell 2
  have i2 : w5.cell? ⟨g1, 1, none⟩ = some (.string s1) := HF5.out.cell 1
  have i3 : w5.cell? ⟨g1, 2, none⟩ = some (.string s2) := HF5.out.cell 2
  have HI := Lib.hid (show w5.cell? ⟨g2, 1, none⟩ = some (.string s1) ∧ w5.cell? ⟨g2, 2, none⟩ = some (.int .i64 f) ∧ w5.cell? ⟨g1, 1, none⟩ = some (.string s1) ∧ w5.cell? ⟨g1, 2, none⟩ = some (.string s2) from ⟨i0, i1, i2, i3⟩)
  clear i0 i1 i2 i3 HF4 HF5
  have hfl : (f : Int) < 10 := by omega
  go_region_held3 (fun w' => w'.cell? ⟨g2, 1, none⟩ = some (.string s1) ∧ w'.cell? ⟨g2, 2, none⟩ = some (.int .i64 f) ∧ w'.cell? ⟨g1, 1, none⟩ = some (.string s1) ∧ w'.cell? ⟨g1, 2, none⟩ = some (.string s2) ∧ Below w.heap.size w w') (first | exact ⟨HI.out.1, HI.out.2.1, HI.out.2.2.1, HI.out.2.2.2, HB5.out.drew⟩ | exact keep4 (by assumption) (by assumption)) (first
    | (go_at_call 15; refine (figuresIs f s2 _ (by omega) HFIG.out).mono ?_; rintro e w6 ⟨rfl, hb6⟩))
  all_goals
    have HFIN := Lib.hid (below4 (by assumption))
    go_wp2
    go_ret
    exact ⟨rfl, HFIN.out⟩
end Go.Proofs.YteanfkmchfhfpaaDoor
