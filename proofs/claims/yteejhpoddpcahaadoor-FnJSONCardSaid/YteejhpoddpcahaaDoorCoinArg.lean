/- An argument that is a coin, opened; the table of powers of ten, out of what the row lists. -/
import Derived.Test.YteejhpoddpcahaaDoorArgs
import Derived.Test.YteejhpoddpcahaaDoorTab
import Derived.Lib.SmallJoins
import Derived.Deep.Slices
import Derived.Deep.Fields
namespace Go.Proofs.YteejhpoddpcahaaDoor
open Go.ChangeShapes Go.WideShapes Go.ChangeAt Go.RowKit Go.Joins Go.Deep

section
variable {H : Type} {enc : TypeId × Value → H} {P : Program} {w : World} {base : Nat} {spare : Nat → Bool} {held : Bool}
/-- A struct of seven fields of one cell each, by value. -/
theorem open_agg7 {r : Reach} {b0 : Nat} {t : TypeId} {f0 f1 f2 f3 f4 f5 f6 : Field} {v : Value} {d : DataW H} {p : List MemPlace} (hs : P.underlying t = some (.struct #[f0, f1, f2, f3, f4, f5, f6])) (hone : oneCellFields P #[f0, f1, f2, f3, f4, f5, f6] = true) (hC : P.cellsOf t = 7)
    (hv : Value.okWide P w r b0 t v) (h : DataW.Trod enc P w base spare held t v d p) :
    ∃ (v0 v1 v2 v3 v4 v5 v6 : Value) (y0 y1 y2 y3 y4 y5 y6 : DataW H × List MemPlace) (n : Nat), v = .agg #[v0, v1, v2, v3, v4, v5, v6] ∧
      DataW.trod enc P w base spare held n f0.type [v0] = some y0 ∧ DataW.trod enc P w base spare held n f1.type [v1] = some y1 ∧ DataW.trod enc P w base spare held n f2.type [v2] = some y2 ∧ DataW.trod enc P w base spare held n f3.type [v3] = some y3 ∧ DataW.trod enc P w base spare held n f4.type [v4] = some y4 ∧ DataW.trod enc P w base spare held n f5.type [v5] = some y5 ∧ DataW.trod enc P w base spare held n f6.type [v6] = some y6 := by
  obtain ⟨cs, rfl, hsz⟩ := okWide_struct hs hv
  obtain ⟨l⟩ := cs
  match l, hsz.trans hC with
  | [c0, c1, c2, c3, c4, c5, c6], _ =>
    obtain ⟨fuel, hf⟩ := h
    obtain ⟨xs, n, _, hx, _, hlen, hg⟩ := DataW.trod_struct hs hf
    obtain ⟨o0, k0⟩ := hone_of hone 0 f0 rfl
    obtain ⟨o1, k1⟩ := hone_of hone 1 f1 rfl
    obtain ⟨o2, k2⟩ := hone_of hone 2 f2 rfl
    obtain ⟨o3, k3⟩ := hone_of hone 3 f3 rfl
    obtain ⟨o4, k4⟩ := hone_of hone 4 f4 rfl
    obtain ⟨o5, k5⟩ := hone_of hone 5 f5 rfl
    obtain ⟨o6, k6⟩ := hone_of hone 6 f6 rfl
    match xs, hlen with
    | [y0, y1, y2, y3, y4, y5, y6], _ =>
      exact ⟨c0, c1, c2, c3, c4, c5, c6, y0, y1, y2, y3, y4, y5, y6, n, rfl, by simpa [Value.cells, o0, k0] using hg 0 f0 rfl, by simpa [Value.cells, o1, k1] using hg 1 f1 rfl, by simpa [Value.cells, o2, k2] using hg 2 f2 rfl, by simpa [Value.cells, o3, k3] using hg 3 f3 rfl, by simpa [Value.cells, o4, k4] using hg 4 f4 rfl, by simpa [Value.cells, o5, k5] using hg 5 f5 rfl, by simpa [Value.cells, o6, k6] using hg 6 f6 rfl⟩
end

set_option maxRecDepth 100000 in
theorem coin_arg {H : Type} {enc : TypeId × Value → H} {W : World} {r : Reach} {b0 : Nat} {v : Value} {d : DataW H} {p : List MemPlace}
    (hv : Value.okWide Tryd.prog W r b0 23 v) (h : DataW.Trod enc Tryd.prog W 0 (fun _ => true) true 23 v d p) :
    ∃ (c0 c1 c3 c4 c5 c6 : ByteArray) (f : Int), v = .agg #[.string c0, .string c1, .int .i64 f, .string c3, .string c4, .string c5, .string c6] ∧ (Lit.int .i64 f).wf = true ∧
      c0.size ≤ maxLen ∧ c1.size ≤ maxLen ∧ c3.size ≤ maxLen ∧ c4.size ≤ maxLen ∧ c5.size ≤ maxLen ∧ c6.size ≤ maxLen := by
  obtain ⟨v0, v1, v2, v3, v4, v5, v6, y0, y1, y2, y3, y4, y5, y6, n, rfl, h0, h1, h2, h3, h4, h5, h6⟩ := open_agg7 Tryd.underlying23 (by kernel_rfl) (by kernel_rfl) hv h
  obtain ⟨s0, e0, _, b0⟩ := DataW.trod_string Tryd.underlying9 h0
  obtain ⟨s1, e1, _, b1⟩ := DataW.trod_string Tryd.underlying9 h1
  obtain ⟨f, e2, _, b2⟩ := DataW.trod_int Tryd.underlying3 h2
  obtain ⟨s3, e3, _, b3⟩ := DataW.trod_string Tryd.underlying9 h3
  obtain ⟨s4, e4, _, b4⟩ := DataW.trod_string Tryd.underlying9 h4
  obtain ⟨s5, e5, _, b5⟩ := DataW.trod_string Tryd.underlying9 h5
  obtain ⟨s6, e6, _, b6⟩ := DataW.trod_string Tryd.underlying9 h6
  simp only [List.cons.injEq, and_true] at e0 e1 e2 e3 e4 e5 e6
  subst e0 e1 e2 e3 e4 e5 e6
  exact ⟨s0, s1, s3, s4, s5, s6, f, rfl, b2, b0, b1, b3, b4, b5, b6⟩

set_option maxRecDepth 100000 in
theorem tabAt_of {W : World} {l : List (String × DataW Unit)} (h : laidMet Tryd.prog l W) (hm : ("internal/strconv.uint64pow10", Lib.tabData .u64 Lib.pow10Tab) ∈ l) : TabAt W := by
  obtain ⟨ps, hv, _⟩ := h
  obtain ⟨g, t, cs, fuel, p, hg, ht, hcs, hd⟩ := laid_reads hv _ _ hm
  obtain rfl := Option.some.inj ((show Tryd.prog.globalNamed "internal/strconv.uint64pow10" = some 1 by kernel_rfl).symm.trans hg)
  obtain rfl := Option.some.inj ((show (Tryd.prog.globals[1]?).map (·.type) = some 136 by kernel_rfl).symm.trans ht)
  unfold TabAt Lib.TabIs
  rw [hcs]
  have := Lib.cells_of_tab Tryd.underlying136 Tryd.underlying48 (by kernel_rfl) (by kernel_rfl) hd
  rw [← this]
end Go.Proofs.YteejhpoddpcahaaDoor
