/- FormatInt at base 10 and Repeat of one byte, with the table that FormatInt reads. -/
import Derived.Test.YteejhpoddpcahaaDoorShelf
import Derived.Test.YteejhpoddpcahaaDoorMem
import Derived.Test.YteejhpoddpcahaaDoorFmtL
namespace Go.Proofs.YteejhpoddpcahaaDoor
open Go.RowKit

/-- The table of powers of ten holds what it should. -/
def TabAt (w : World) : Prop := Lib.TabIs Tryd.prog w "internal/strconv.uint64pow10" .u64 Lib.pow10Tab
theorem TabAt.below {w w' : World} (h : TabAt w) (hb : Below w.heap.size w w') : TabAt w' := by
  unfold TabAt Lib.TabIs World.var? at *
  obtain ⟨g, hg, hc⟩ := Option.bind_eq_some_iff.1 h
  have hl : g < w.heap.size := by
    rcases Nat.lt_or_ge g w.heap.size with hlt | hge
    · exact hlt
    · rw [Array.getElem?_eq_none hge] at hc; cases hc
  rw [hg]
  simp only [Option.bind_some]
  rw [hb.block g hl]
  exact hc
theorem below_grow {B : Nat} {a w : World} (h : Below B a w) (hB : B ≤ w.heap.size) (os : Array Obj) : Below B a (Sort.grow w os) :=
  ⟨h.os, h.tape, h.output, by have := h.size; simp [Sort.grow]; omega, fun i hi => by
    have hl : i < w.heap.size := by omega
    rw [← h.block i hi]
    show (w.heap ++ os)[i]? = _
    rw [Array.getElem?_append_left hl]⟩
theorem formatInt_any (n : Int) (w : World) (h0 : -9223372036854775808 ≤ n) (h1 : n ≤ 9223372036854775807) (hT : TabAt w) :
    Calls Tryd.prog 45 #[.int .i64 n, .int .i64 10] w fun e w' => e = .returned (.string (ofL (Lib.itoa n))) ∧ Below w.heap.size w w' :=
  (Tryd.strconv_FormatInt_10 n h0 h1 w hT).mono fun e w' ⟨he, k, os, hw⟩ => ⟨he, by rw [hw]; exact below_grow (below_drewN (Below.refl _ _) k) (Nat.le_refl _) os⟩
theorem formatInt_nat (n : Nat) (sa : ByteArray) (w : World) (h1 : n ≤ 9223372036854775807) (hT : TabAt w) (hs : sa = ofL (Lib.decDigits n)) :
    Calls Tryd.prog 45 #[.int .i64 (n : Int), .int .i64 10] w fun e w' => e = .returned (.string sa) ∧ Below w.heap.size w w' := by
  rw [hs]
  have e : Lib.itoa (n : Int) = Lib.decDigits n := by unfold Lib.itoa; rw [if_neg (by omega)]; rfl
  rw [← e]
  exact formatInt_any n w (by omega) (by omega) hT
theorem repeatL_one (b : UInt8) : ∀ c, Lib.repeatL [b] c = List.replicate c b
  | 0 => rfl
  | c + 1 => by rw [List.replicate_succ, Lib.repeatL, repeatL_one b c]; rfl
theorem repeat_any (b : UInt8) (c : Nat) (z : Int) (r : ByteArray) (w : World) (hz : z = c) (hc : c ≤ 1000000) (hr : r = ofL (List.replicate c b)) :
    Calls Tryd.prog 47 #[.string ⟨#[b]⟩, .int .i64 z] w fun e w' => e = .returned (.string r) ∧ Below w.heap.size w w' := by
  rw [hr, hz, ← repeatL_one]
  refine Tryd.strings_Repeat ⟨#[b]⟩ c w (by omega) ?_
  have : (⟨#[b]⟩ : ByteArray).size = 1 := rfl
  rw [this]; omega
end Go.Proofs.YteejhpoddpcahaaDoor
