/- Money.Allocate. -/
import Derived.Test.YteejhpoddpcahaaDoorRat
import Derived.Test.YteejhpoddpcahaaDoorFig
import Derived.OwnWalk
namespace Go.Proofs.YteejhpoddpcahaaDoor
open Go.RowKit

theorem allocate_any (p : Option Addr) (a r S q : Int) (w : World) (ha : a.natAbs ≤ 1000000000000000) (h0 : 0 ≤ r) (h1 : r ≤ 1000) (hq : q = (a * r).tdiv S) :
    Calls Tryd.prog 62 #[.pointer p, .int .i64 a, .int .i64 r, .int .i64 S] w fun e w' => e = .returned (.int .i64 q) ∧ Below w.heap.size w w' := by
  by_cases hz : a = 0
  · have hq0 : q = 0 := by rw [hq, hz]; simp
    subst hz
    rw [hq0]
    clear hq hq0
    go_enter Tryd.func62, Tryd.ntmps62
    go_wp2
    go_ret
    exact ⟨rfl, Below.refl _ _⟩
  · by_cases hs : S = 0
    · have hq0 : q = 0 := by rw [hq, hs]; simp
      subst hs
      have ha0 : (a == 0) = false := by rw [beq_eq_false_iff_ne]; exact hz
      rw [hq0]
      clear hq hq0
      go_enter Tryd.func62, Tryd.ntmps62
      go_wp2
      go_ret
      exact ⟨rfl, Below.refl _ _⟩
    · have hb := mul_bound a r ha h0 h1
      have ha0 : (a == 0) = false := by rw [beq_eq_false_iff_ne]; exact hz
      have hs0 : (S == 0) = false := by rw [beq_eq_false_iff_ne]; exact hs
      have HQ := Lib.hid hq
      have hw : wrap64 (a * r) = a * r := by unfold wrap64; omega
      have hw2 : wrap64 ((a * r).tdiv S) = (a * r).tdiv S := by
        have h2 : ((a * r).tdiv S).natAbs ≤ (a * r).natAbs := by rw [Int.natAbs_tdiv]; exact Nat.div_le_self _ _
        unfold wrap64; omega
      have HW2 := Lib.hid hw2
      clear hq hb h0 h1 hw2
      go_enter Tryd.func62, Tryd.ntmps62
      go_wp2
      go_ret
      exact ⟨ret_int (by rw [HW2.out]; exact HQ.out.symm), Below.refl _ _⟩

def allocR (a : Int) (rs : List Int) : Nat := if rs.sum = 0 then 0 else (loI a rs).natAbs
/-- The i-th part. -/
def allocTo (a : Int) (rs : List Int) (p i : Nat) : Int := if i < p then wrap64 ((qL a rs).getD i 0 + sgn a) else (qL a rs).getD i 0
def allocF (a : Int) (rs : List Int) : Nat → Int := allocTo a rs (allocR a rs)

theorem keep2 {W w w' : World} {p0 p1 : Addr} {v0 v1 : Value}
    (h : w.cell? p0 = some v0 ∧ w.cell? p1 = some v1 ∧ Below W.heap.size W w) (hb : Below w.heap.size w w') :
    w'.cell? p0 = some v0 ∧ w'.cell? p1 = some v1 ∧ Below W.heap.size W w' := by
  obtain ⟨h0, h1, h7⟩ := h
  exact ⟨keep_cell h0 hb, keep_cell h1 hb, h7.trans (hb.mono h7.size)⟩
theorem below2 {W w : World} {p0 p1 : Addr} {v0 v1 : Value} (h : w.cell? p0 = some v0 ∧ w.cell? p1 = some v1 ∧ Below W.heap.size W w) : Below W.heap.size W w := h.2.2
/-- k amounts of one currency, the pointers to them in the call's own row A, each amount in a block of its own. -/
def Row (w : World) (base A n k kc : Nat) (gg : Nat → Nat) (f : Nat → Int) : Prop :=
  w.ownsRow base 61 1 (.slice (some ⟨A, 0, none⟩) k n) k ((List.range k).map fun i => ptrV (gg i)) ∧ (∀ i, i < k → Blk w (gg i) 90 #[.int .i64 (f i), .pointer (some ⟨kc, 0, none⟩)]) ∧ (∀ i j, i < k → j < k → gg i = gg j → i = j) ∧ ∀ i, i < k → base ≤ gg i

theorem Row.below {w w' : World} {base A n k kc : Nat} {gg : Nat → Nat} {f : Nat → Int} (h : Row w base A n k kc gg f) (hb : Below w.heap.size w w') : Row w' base A n k kc gg f :=
  ⟨h.1.kept (grown_of_below hb none) (.inr (by simp [Value.ownBlock])), fun i hi => (h.2.1 i hi).below hb (h.2.1 i hi).lt, h.2.2.1, h.2.2.2⟩

theorem qL_get (a : Int) (rs : List Int) (k : Nat) (h : k < rs.length) : (qL a rs)[k]'(by rw [qL_length]; exact h) = (a * rs[k]).tdiv rs.sum := by
  simp only [qL, List.getElem_map]
theorem Row.push {wb w5 : World} {base A n k kc : Nat} {gg : Nat → Nat} {f : Nat → Int} {q : Int} {o : Obj} (h : Row wb base A n k kc gg f) (hq : f k = q) (hA : A < wb.heap.size) (hb : base ≤ wb.heap.size)
    (ho : w5.ownsRow base 61 1 (.slice (some ⟨A, 0, none⟩) (k + 1) n) (k + 1) (((List.range k).map fun i => ptrV (gg i)) ++ [ptrV wb.heap.size]))
    (hg : ((wb.alloc (.cells #[.int .i64 q, .pointer (some ⟨kc, 0, none⟩)] 90)).alloc o).grownBy w5 (some A)) :
    Row w5 base A n (k + 1) kc (fun i => if i < k then gg i else wb.heap.size) f ∧ Blk w5 wb.heap.size 90 #[.int .i64 q, .pointer (some ⟨kc, 0, none⟩)] := by
  have hnew : Blk w5 wb.heap.size 90 #[.int .i64 q, .pointer (some ⟨kc, 0, none⟩)] :=
    ((Blk.new wb 90 #[.int .i64 q, .pointer (some ⟨kc, 0, none⟩)]).alloc o).grown hg (by simp; omega)
  refine ⟨⟨?_, fun i hi => ?_, fun i j hi hj he => ?_, fun i hi => ?_⟩, hnew⟩
  · have e : ((List.range (k + 1)).map fun i => ptrV (if i < k then gg i else wb.heap.size)) = ((List.range k).map fun i => ptrV (gg i)) ++ [ptrV wb.heap.size] := by
      rw [List.range_succ, List.map_append]
      congr 1
      · apply List.map_congr_left
        intro i hi
        rw [if_pos (List.mem_range.1 hi)]
      · simp
    rw [e]; exact ho
  · show Blk w5 (if i < k then gg i else wb.heap.size) _ _
    by_cases hik : i < k
    · rw [if_pos hik]
      refine (((h.2.1 i hik).alloc _).alloc o).grown hg ?_
      exact blk_own_ne h.1 (h.2.1 i hik) (by decide)
    · rw [if_neg hik]
      have : i = k := by omega
      subst this
      rw [hq]; exact hnew
  · by_cases h1 : i < k
    · by_cases h2 : j < k
      · simp only [h1, h2, if_true] at he
        exact h.2.2.1 i j h1 h2 he
      · simp only [h1, h2, if_true, if_false] at he
        have := (h.2.1 i h1).lt
        omega
    · by_cases h2 : j < k
      · simp only [h1, h2, if_true, if_false] at he
        have := (h.2.1 j h2).lt
        omega
      · omega
  · by_cases h1 : i < k
    · simp only [h1, if_true]; exact h.2.2.2 i h1
    · simp only [h1, if_false]; exact hb

theorem Row.parts {w : World} {base A n kc : Nat} {gg : Nat → Nat} {f : Nat → Int} (h : Row w base A n n kc gg f) : Parts w A gg kc n f :=
  ⟨fun i hi => by have := h.1.cells (g := A) rfl i (ptrV (gg i)) (by simp [hi]); rw [addr0] at this; exact this, h.2.1⟩
theorem Row.apart {w : World} {base A n k kc : Nat} {gg : Nat → Nat} {f : Nat → Int} (h : Row w base A n k kc gg f) : ∀ i, i < k → A ≠ gg i := fun i hi he => by
  have := blk_own_ne h.1 (h.2.1 i hi) (by decide)
  exact this (by simp [Value.ownBlock, he])
theorem Parts.stepG {w : World} {A kc n p : Nat} {gg : Nat → Nat} {a q : Int} {rs : List Int} (h : Parts w A gg kc n (allocTo a rs p)) (hp : p < n) (hinj : ∀ i j, i < n → j < n → gg i = gg j → i = j) (hA : ∀ i, i < n → A ≠ gg i) (hq : q = allocTo a rs p p) :
    Parts (w.setCell ⟨gg p, 0, none⟩ (.int .i64 (wrap64 (q + sgn a)))) A gg kc n (allocTo a rs (p + 1)) := by
  have hq' : q = (qL a rs).getD p 0 := by rw [hq]; exact if_neg (by omega)
  refine ⟨fun i hi => ?_, fun i hi => ?_⟩
  · have h1 := h.1 i hi
    have hb : (w.setCell ⟨gg p, 0, none⟩ (.int .i64 (wrap64 (q + sgn a)))).heap[A]? = w.heap[A]? := Below.heap_setCell w _ _ A (hA p hp)
    rw [World.cell?_of_block (w := w) hb]
    exact h1
  · by_cases hip : i = p
    · subst hip
      have h2 := (h.2 i hi).set_ 0 (.int .i64 (wrap64 (q + sgn a)))
      have e : allocTo a rs (i + 1) i = wrap64 (q + sgn a) := by rw [hq']; exact if_pos (by omega)
      rw [e]
      exact h2
    · have e : allocTo a rs (p + 1) i = allocTo a rs p i := by
        unfold allocTo
        by_cases h3 : i < p
        · rw [if_pos h3, if_pos (by omega)]
        · rw [if_neg h3, if_neg (by omega)]
      rw [e]
      exact (h.2 i hi).far (show gg i ≠ gg p from fun he => hip (hinj i p hi hp he)) _

def SgnIs (z sg : Int) : Prop := (0 ≤ z ∧ sg = 1) ∨ (z < 0 ∧ sg = -1)
def LeftIs (sg z : Int) (l : Nat) : Prop := (sg = 1 ∧ z = (l : Int)) ∨ (sg = -1 ∧ z = -(l : Int))
set_option maxRecDepth 100000 in
set_option maxHeartbeats 4000000 in
theorem malloc_yes (a : Int) (B : Option Addr) (cp : Nat) (rs : List Int) (c : Cur) (g : Nat) (w : World) (hm : MoneyAt w g a c) (hB : Cells w B (intV .i64 rs)) (hn : 0 < rs.length) (hn1 : rs.length ≤ 20) (ha : a.natAbs ≤ 1000000000000000) (hr : ∀ r ∈ rs, 0 ≤ r ∧ r ≤ 1000) :
    Calls Tryd.prog 42 #[.pointer (some ⟨g, 0, none⟩), .slice B rs.length cp] w fun e w' => ∃ A kc gg, e = .returned (.tuple #[.slice (some ⟨A, 0, none⟩) rs.length rs.length, .nilIface]) ∧ Parts w' A gg kc rs.length (allocF a rs) ∧ Blk w' kc 87 c.cells ∧ Below w.heap.size w w' := by
  obtain ⟨kc, hb, hk⟩ := hm
  obtain ⟨b, off, rfl⟩ := hB.addr (by simp [intV]; omega)
  have HM := Lib.hid hb
  have HK := Lib.hid hk
  have HC := Lib.hid hB
  have HR := Lib.hid hr
  have HS0 := Lib.hid (sum_nonneg rs fun r h => (hr r h).1)
  have HS1 := Lib.hid (sum_le rs fun r h => (hr r h).2)
  clear hb hk hB hr
  have e0 : ((rs.length : Int) == 0) = false := by rw [beq_eq_false_iff_ne]; omega
  go_enter Tryd.func42, Tryd.ntmps42
  go_wp2
  go_loop [6, 23] (fun sv i => ∃ k : Nat, k ≤ rs.length ∧ i = .int .i64 k ∧ sv = .int .i64 (rs.take k).sum) (fun _ i => rs.length - (intOf i).toNat)
  case atStart => exact ⟨0, Nat.zero_le _, rfl, by simp⟩
  case round =>
    obtain ⟨k, hk, rfl, rfl⟩ := hrel
    by_cases hlt : k < rs.length
    · have e1 := HC.out.at_ k _ (intV_get .i64 rs k hlt)
      have hrk := HR.out rs[k] (List.getElem_mem hlt)
      have hs0 := sum_nonneg (rs.take k) fun r h => (HR.out r (List.mem_of_mem_take h)).1
      have hs1 := sum_le (rs.take k) fun r h => (HR.out r (List.mem_of_mem_take h)).2
      have hlk : (rs.take k).length = k := by rw [List.length_take]; omega
      rw [hlk] at hs1
      have HT := Lib.hid (sum_take_succ rs k hlt)
      generalize (rs.take k).sum = S at *
      generalize rs[k] = r at *
      have HW := Lib.hid (show wrap64 (S + r) = S + r by unfold wrap64; omega)
      obtain ⟨hr0, hr1⟩ := hrk
      have hs2 : S ≤ 20000 := by omega
      have hsub : wrap64 (9223372036854775807 - S) = 9223372036854775807 - S := by unfold wrap64; omega
      have hle : ¬ (9223372036854775807 - S < r) := by omega
      clear hs1 hlk
      go_wp2
      exact ⟨⟨k + 1, by omega, by go_num, by rw [HT.out]⟩, by simp [intOf]; omega⟩
    · obtain rfl : rs.length = k := by omega
      rw [List.take_of_length_le (Nat.le_refl _)]
      obtain ⟨i0, hi, hz0, hz1, hz2⟩ := info_parts ptr_infoS
      obtain ⟨w1, hmk, hown, hgrow⟩ := run_make_own (P := Tryd.prog) w w.heap.size 66 61 i0 _ 1 Tryd.underlying66 hi hz0 hz1 .i64 .i64 rs.length (by rw [hz2]; omega) (by unfold maxLen; omega) (Nat.le_refl _)
      have HB1 := Lib.hid (Below.grown (Below.refl w.heap.size w) hgrow (Nat.le_refl _) (fun q hq => by cases hq))
      have HROW : Hid (Row w1 w.heap.size w.heap.size rs.length 0 kc (fun i => i) (allocTo a rs 0)) := ⟨hown, fun i hi => by omega, fun i j hi => by omega, fun i hi => by omega⟩
      have e2 : w1.cell? ⟨g, 0, none⟩ = some (.int .i64 a) := (HM.out.below HB1.out HM.out.lt).cell 0
      clear hown hgrow
      generalize hSS : rs.sum = S at *
      have HSS := Lib.hid hSS
      clear hSS
      go_wp2_with fail
      go_loopw [9, 10, 44] (fun tv ov i wr => ∃ (k : Nat) (gg : Nat → Nat), k ≤ rs.length ∧ i = .int .i64 k ∧ tv = .int .i64 ((qL a rs).take k).sum ∧ ov = .slice (some ⟨w.heap.size, 0, none⟩) k rs.length ∧ Hid (Row wr w.heap.size w.heap.size rs.length k kc gg (allocTo a rs 0)) ∧ Hid (Below w.heap.size w wr)) (fun _ _ i _ => rs.length - (intOf i).toNat)
      case atStart => exact ⟨0, fun i => i, Nat.zero_le _, rfl, by simp, rfl, HROW, HB1⟩
      case round =>
        clear HROW HB1 e2
        obtain ⟨k, gg, hk, rfl, rfl, rfl, HROW, HB⟩ := hrel
        by_cases hlt : k < rs.length
        · have e1 := (HC.out.below HB.out).at_ k _ (intV_get .i64 rs k hlt)
          have e2 : wr.cell? ⟨g, 0, none⟩ = some (.int .i64 a) := (HM.out.below HB.out HM.out.lt).cell 0
          have e3 : wr.cell? ⟨g, 1, none⟩ = some (.pointer (some ⟨kc, 0, none⟩)) := (HM.out.below HB.out HM.out.lt).cell 1
          have hrk := HR.out rs[k] (List.getElem_mem hlt)
          obtain ⟨q, hq⟩ : ∃ q, q = (a * rs[k]).tdiv S := ⟨_, rfl⟩
          have HQ := Lib.hid hq
          clear hq
          have hr0 := hrk.1
          have hr1 := hrk.2
          clear hrk
          go_wp2_with fail
          go_region_held3 (fun w' => w'.cell? ⟨g, 0, none⟩ = some (.int .i64 a) ∧ w'.cell? ⟨g, 1, none⟩ = some (.pointer (some ⟨kc, 0, none⟩)) ∧ Below wr.heap.size wr w') (first | exact ⟨e2, e3, (Below.refl _ _).drew⟩ | exact keep2 (by assumption) (by assumption) | exact keep2 (by assumption) ((Below.refl _ _).alloc (Nat.le_refl _) _)) (first
            | (go_at_call 57; refine (calcB _).mono ?_; rintro e wa ⟨rfl, hba⟩)
            | (go_at_call 62; refine (allocate_any _ a rs[k] S q _ ha hr0 hr1 HQ.out).mono ?_; rintro e wb ⟨rfl, hbb⟩))
          have hbw : Below wr.heap.size wr wb := ((Below.refl wr.heap.size wr).drew.trans hba).trans (hbb.mono (by have := hba.size; simpa using this))
          have HBb := Lib.hid (HB.out.trans (hbw.mono HB.out.size))
          have HR2 := Lib.hid (HROW.out.below hbw)
          have hfk : allocTo a rs 0 k = q := by
            unfold allocTo qL
            rw [if_neg (by omega), HQ.out, HSS.out]
            simp [List.getD, hlt]
          have hxs : ((List.range k).map fun i => ptrV (gg i)).length = k := by simp
          have HPARTY := Lib.hid (Blk.new wb 90 #[.int .i64 q, .pointer (some ⟨kc, 0, none⟩)])
          have hAlt : w.heap.size < wb.heap.size := (HR2.out.1.lt w.heap.size rfl).2
          have hown2 := ((HR2.out.1.alloc (.cells #[.int .i64 q, .pointer (some ⟨kc, 0, none⟩)] 90)).alloc (.cells #[ptrV wb.heap.size] 61))
          have HFK := Lib.hid hfk
          have HT := Lib.hid (sum_take_succ (qL a rs) k (by rw [qL_length]; exact hlt))
          have HTB := Lib.hid (take_sum_bound (qL a rs) a.natAbs (qL_bound a rs fun r h => (HR.out r h).1) k (by rw [qL_length]; omega))
          clear hba hbb hbw e1 e2 e3 HROW hfk HB
          go_wp2_with (at_builtin; refine wpList_append_fits _ rfl _ _ 66 rfl w.heap.size 61 i0 1 Tryd.underlying66 hi hz1 w.heap.size k rs.length _ rfl hown2 ⟨wb.heap.size + 1, 0, none⟩ 1 1 [ptrV wb.heap.size] rfl rfl ?c1 ?c2 ?c3 ?_)
          case c1 =>
            intro j u hj
            match j, hj with
            | 0, hj =>
              simp at hj; subst hj
              have hz : (wb.alloc (.cells #[.int .i64 q, .pointer (some ⟨kc, 0, none⟩)] 90)).heap.size = wb.heap.size + 1 := by simp
              rw [addr0, ← hz]
              exact (Blk.new (wb.alloc (.cells #[.int .i64 q, .pointer (some ⟨kc, 0, none⟩)] 90)) 61 #[ptrV wb.heap.size]).cell 0
          case c2 => intro u hu; simp at hu; subst hu; rfl
          case c3 => omega
          intro w5 hown5 hgrow5
          have hpush := HR2.out.push HFK.out hAlt HBb.out.size hown5 hgrow5
          have HPU := Lib.hid hpush.1
          have e5 : w5.cell? ⟨wb.heap.size, 0, none⟩ = some (.int .i64 q) := hpush.2.cell 0
          have HB5 := Lib.hid (((HBb.out.alloc HBb.out.size (.cells #[.int .i64 q, .pointer (some ⟨kc, 0, none⟩)] 90)).alloc (by have := HBb.out.size; simp; omega) (.cells #[ptrV wb.heap.size] 61)).grown hgrow5 (by have := HBb.out.size; simp; omega) (fun x hx => by cases hx; exact Nat.le_refl _))
          have hqk : (qL a rs)[k]'(by rw [qL_length]; exact hlt) = q := (qL_get a rs k hlt).trans (by rw [HQ.out, HSS.out])
          have HT2 := Lib.hid (show wrap64 (((qL a rs).take k).sum + q) = ((qL a rs).take (k + 1)).sum by
            have hqb := qL_bound a rs (fun r h => (HR.out r h).1) q (hqk ▸ List.getElem_mem _)
            have h1 := HTB.out
            have h2 : k * a.natAbs ≤ 20 * 1000000000000000 := Nat.mul_le_mul (by omega) ha
            rw [HT.out, hqk]; unfold wrap64; omega)
          clear hpush hown5 hgrow5 hown2 hqk
          go_wp2
          exact ⟨⟨k + 1, _, by omega, by go_num, by rw [HT2.out], rfl, HPU, HB5⟩, by simp [intOf]; omega⟩
        · have e2 : wr.cell? ⟨g, 0, none⟩ = some (.int .i64 a) := (HM.out.below HB.out HM.out.lt).cell 0
          obtain rfl : rs.length = k := by omega
          have HPF := Lib.hid HROW.out.parts
          have HINJ := Lib.hid HROW.out.2.2.1
          have HGE := Lib.hid HROW.out.2.2.2
          have HNA := Lib.hid HROW.out.apart
          clear HROW
          rw [List.take_of_length_le (by rw [qL_length]; omega)]
          by_cases hS0 : S = 0
          · subst hS0
            have hr0 : allocR a rs = 0 := by unfold allocR; rw [if_pos HSS.out]
            go_wp2_with fail
            go_ret2
            refine ⟨_, kc, gg, rfl, ?_, HK.out.below HB.out HK.out.lt, HB.out⟩
            unfold allocF
            rw [hr0]; exact HPF.out
          · have hS1 : (S == 0) = false := by rw [beq_eq_false_iff_ne]; exact hS0
            have hSp : 0 < rs.sum := by have := HS0.out; have := HSS.out; omega
            have HLB := Lib.hid (loI_bounds a rs (fun r h => (HR.out r h).1) hSp)
            have HRB := Lib.hid (show allocR a rs < rs.length by unfold allocR; rw [if_neg (by omega)]; exact HLB.out.1)
            have hal : (loI a rs).natAbs = allocR a rs := by unfold allocR; rw [if_neg (by omega)]
            obtain ⟨lo, hlo⟩ : ∃ lo, lo = loI a rs := ⟨_, rfl⟩
            obtain ⟨T, hTT⟩ : ∃ T, T = (qL a rs).sum := ⟨_, rfl⟩
            have hloT : a - T = lo := by rw [hTT, hlo]; rfl
            rw [← hlo] at hal HLB
            rw [← hTT]
            have hlb : lo.natAbs < 20 := by have := HLB.out.1; omega
            have hT1 : -2000000000000000 ≤ T := by omega
            have hT2 : T ≤ 2000000000000000 := by omega
            have ha1 : -1000000000000000 ≤ a := by omega
            have ha2 : a ≤ 1000000000000000 := by omega
            have HLT := Lib.hid hloT
            have HAL := Lib.hid hal
            clear hlo hTT hloT hal
            go_upto_if 83 with (fail)
            go_cut [14, 15] (fun s14 s15 wx => ∃ z sg : Int, s14 = .int .i64 z ∧ s15 = .int .i64 sg ∧ Hid (z = lo) ∧ Hid (SgnIs z sg) ∧ wx = wr)
            case first =>
              by_cases hneg : a - T < 0
              · have HD := Lib.hid (show SgnIs (a - T) (-1) from .inr ⟨hneg, rfl⟩)
                go_wp2_with fail
                go_meet
                exact ⟨_, _, rfl, rfl, HLT, HD, rfl⟩
              · have HD := Lib.hid (show SgnIs (a - T) 1 from .inl ⟨by omega, rfl⟩)
                go_wp2_with fail
                go_meet
                exact ⟨_, _, rfl, rfl, HLT, HD, rfl⟩
            case rest =>
              obtain ⟨z, sg, rfl, rfl, HZ, HD, hwc⟩ := hcut
              obtain rfl := hwc
              have hsg1 : -1 ≤ sg := by rcases HD.out with ⟨_, h⟩ | ⟨_, h⟩ <;> omega
              have hsg2 : sg ≤ 1 := by rcases HD.out with ⟨_, h⟩ | ⟨_, h⟩ <;> omega
              have HSG := Lib.hid (show allocR a rs = 0 ∨ sgn a = sg by
                have h1 := HLB.out.2
                have h2 := HAL.out
                have h3 := HZ.out
                unfold sgn
                by_cases h : a < 0
                · have := h1.1 h
                  rw [if_pos h]
                  rcases HD.out with ⟨h4, h5⟩ | ⟨h4, h5⟩
                  · left; omega
                  · right; omega
                · have := h1.2 (by omega)
                  rw [if_neg h]
                  rcases HD.out with ⟨h4, h5⟩ | ⟨h4, h5⟩
                  · right; omega
                  · left; omega)
              have HZ0 := Lib.hid (show LeftIs sg z (allocR a rs) by
                unfold LeftIs
                have h2 := HAL.out
                have h3 := HZ.out
                rcases HD.out with ⟨h4, h5⟩ | ⟨h4, h5⟩
                · left; omega
                · right; omega)
              clear hT1 hT2 ha1 ha2 hlb HLT HLB HZ HD HAL
              go_wp2_with fail
              go_loopw [14, 16] (fun lv pv wx => ∃ (p l : Nat) (z : Int), p + l = allocR a rs ∧ lv = .int .i64 z ∧ pv = .int .i64 p ∧ Hid (LeftIs sg z l) ∧ Hid (Parts wx w.heap.size gg kc rs.length (allocTo a rs p)) ∧ Hid (Below w.heap.size w wx)) (fun lv _ _ => (intOf lv).natAbs)
              case atStart => exact ⟨0, allocR a rs, z, by omega, rfl, rfl, HZ0, HPF, HB⟩
              case round =>
                clear HPF HB HZ0
                obtain ⟨p, l, z, hpl, rfl, rfl, HZ, HP, HB⟩ := hrel
                by_cases hlt : 0 < l
                · have hpn : p < rs.length := by have := HRB.out; omega
                  have hsg : sgn a = sg := by rcases HSG.out with h | h <;> omega
                  have hz0 : (z == 0) = false := by rw [beq_eq_false_iff_ne]; rcases HZ.out with ⟨_, h⟩ | ⟨_, h⟩ <;> omega
                  have hz1 : -20 ≤ z := by have := HRB.out; rcases HZ.out with ⟨_, h⟩ | ⟨_, h⟩ <;> omega
                  have hz2 : z ≤ 20 := by have := HRB.out; rcases HZ.out with ⟨_, h⟩ | ⟨_, h⟩ <;> omega
                  have HZN := Lib.hid (show LeftIs sg (z - sg) (l - 1) by
                    unfold LeftIs
                    rcases HZ.out with ⟨h1, h⟩ | ⟨h1, h⟩
                    · left; omega
                    · right; omega)
                  have HMS := Lib.hid (show (z - sg).natAbs < z.natAbs by
                    rcases HZ.out with ⟨h1, h⟩ | ⟨h1, h⟩ <;> omega)
                  have e3 := HP.out.1 p hpn
                  have hblk := HP.out.2 p hpn
                  have e4 := hblk.cell 0
                  have e5 := hblk.frozen 0
                  have l1 := hblk.lt
                  have l2 : w.heap.size < wr.heap.size := cell_lt e3
                  obtain ⟨q, hq⟩ : ∃ q, q = allocTo a rs p p := ⟨_, rfl⟩
                  have HST := Lib.hid (HP.out.stepG hpn HINJ.out HNA.out (q := q) hq)
                  rw [hsg] at HST
                  rw [← hq] at e4
                  simp only [List.getElem?_toArray, List.getElem?_cons_zero] at e4
                  clear hblk hq hsg
                  have hgp : w.heap.size ≤ gg p := HGE.out p hpn
                  generalize gg p = gp at *
                  go_wp2_with fail
                  go_region_with (first
                    | (go_at_call 57; refine (calc_any _).mono ?_; rintro e w' ⟨rfl, rfl⟩)
                    | (go_at_call 61; refine (add_any _ _ _ _).mono ?_; rintro e w' ⟨rfl, rfl⟩))
                  all_goals
                    go_wp2
                    exact ⟨⟨p + 1, l - 1, z - sg, by omega, rfl, by go_num, HZN, HST.out.below (((Below.refl _ _).alloc (Nat.le_refl _) _).drew), ((HB.out.setCell (p := ⟨gp, 0, none⟩) hgp _).alloc (by have := HB.out.size; simpa [World.setCell] using this) _).drew⟩, by simpa [intOf] using HMS.out⟩
                · obtain rfl : l = 0 := by omega
                  obtain rfl : z = 0 := by rcases HZ.out with ⟨_, h⟩ | ⟨_, h⟩ <;> omega
                  go_wp2
                  go_ret2
                  have hp0 : p = allocR a rs := by omega
                  subst hp0
                  exact ⟨_, kc, gg, rfl, HP.out, HK.out.below HB.out HK.out.lt, HB.out⟩
end Go.Proofs.YteejhpoddpcahaaDoor
