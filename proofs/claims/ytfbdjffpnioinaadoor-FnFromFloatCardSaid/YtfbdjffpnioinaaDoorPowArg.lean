/- An argument that is a coin, opened; the tables of powers of ten, out of what the row lists. -/
import Derived.Test.YtfbdjffpnioinaaDoorArgs
import Derived.Test.YtfbdjffpnioinaaDoorPow
import Derived.Lib.SmallJoins
import Derived.Deep.Slices
import Derived.Deep.Fields
namespace Go.Proofs.YtfbdjffpnioinaaDoor
open Go.ChangeShapes Go.WideShapes Go.ChangeAt Go.RowKit Go.Joins Go.Deep

section
variable {H : Type} {enc : TypeId × Value → H} {P : Program} {w : World} {base : Nat} {spare : Nat → Bool} {held : Bool}
/-- A struct of seven fields of one cell each, by value. -/
theorem open_agg7 {r : Reach} {b0 : Nat} {t : TypeId} {f0 f1 f2 f3 f4 f5 f6 : Field} {v : Value} {d : DataW H} {p : List MemPlace} (hs : P.underlying t = some (.struct #[f0, f1, f2, f3, f4, f5, f6])) (hone : oneCellFields P #[f0, f1, f2, f3, f4, f5, f6] = true) (hC : P.cellsOf t = 7)
    (hv : Value.okWide P w r b0 t v) (h : DataW.Trod enc P w base spare held t v d p) :
    ∃ (v0 v1 v2 v3 v4 v5 v6 : Value) (y0 y1 y2 y3 y4 y5 y6 : DataW H × List MemPlace) (n : Nat), v = .agg #[v0, v1, v2, v3, v4, v5, v6] ∧
      DataW.trod enc P w base spare held n f0.type [v0] = some y0 ∧ DataW.trod enc P w base spare held n f1.type [v1] = some y1 ∧ DataW.trod enc P w base spare held n f2.type [v2] = some y2 ∧ DataW.trod enc P w base spare held n f3.type [v3] = some y3 ∧ DataW.trod enc P w base spare held n f4.type [v4] = some y4 ∧ DataW.trod enc P w base spare held n f5.type [v5] = some y5 ∧ DataW.trod enc P w base spare held n f6.type [v6] = some y6 := by
  obtain ⟨cs, rfl, hsz⟩ := okWide_struct hs hv
  obtain ⟨l⟩ := cs
  match l, hsz.trans hC with
  | [c0, c1, c2, c3, c4, c5, c6], _ =>
    obtain ⟨fuel, hf⟩ := h
    obtain ⟨xs, n, _, hx, _, hlen, hg⟩ := DataW.trod_struct hs hf
    obtain ⟨o0, k0⟩ := hone_of hone 0 f0 rfl
    obtain ⟨o1, k1⟩ := hone_of hone 1 f1 rfl
    obtain ⟨o2, k2⟩ := hone_of hone 2 f2 rfl
    obtain ⟨o3, k3⟩ := hone_of hone 3 f3 rfl
    obtain ⟨o4, k4⟩ := hone_of hone 4 f4 rfl
    obtain ⟨o5, k5⟩ := hone_of hone 5 f5 rfl
    obtain ⟨o6, k6⟩ := hone_of hone 6 f6 rfl
    match xs, hlen with
    | [y0, y1, y2, y3, y4, y5, y6], _ =>
      exact ⟨c0, c1, c2, c3, c4, c5, c6, y0, y1, y2, y3, y4, y5, y6, n, rfl, by simpa [Value.cells, o0, k0] using hg 0 f0 rfl, by simpa [Value.cells, o1, k1] using hg 1 f1 rfl, by simpa [Value.cells, o2, k2] using hg 2 f2 rfl, by simpa [Value.cells, o3, k3] using hg 3 f3 rfl, by simpa [Value.cells, o4, k4] using hg 4 f4 rfl, by simpa [Value.cells, o5, k5] using hg 5 f5 rfl, by simpa [Value.cells, o6, k6] using hg 6 f6 rfl⟩
end

set_option maxRecDepth 100000 in
theorem coin_arg {H : Type} {enc : TypeId × Value → H} {W : World} {r : Reach} {b0 : Nat} {v : Value} {d : DataW H} {p : List MemPlace}
    (hv : Value.okWide Tryd.prog W r b0 29 v) (h : DataW.Trod enc Tryd.prog W 0 (fun _ => true) true 29 v d p) :
    ∃ (c0 c1 c3 c4 c5 c6 : ByteArray) (f : Int), v = .agg #[.string c0, .string c1, .int .i64 f, .string c3, .string c4, .string c5, .string c6] ∧ (Lit.int .i64 f).wf = true ∧
      c0.size ≤ maxLen ∧ c1.size ≤ maxLen ∧ c3.size ≤ maxLen ∧ c4.size ≤ maxLen ∧ c5.size ≤ maxLen ∧ c6.size ≤ maxLen := by
  obtain ⟨v0, v1, v2, v3, v4, v5, v6, y0, y1, y2, y3, y4, y5, y6, n, rfl, h0, h1, h2, h3, h4, h5, h6⟩ := open_agg7 Tryd.underlying29 (by kernel_rfl) (by kernel_rfl) hv h
  obtain ⟨s0, e0, _, b0⟩ := DataW.trod_string Tryd.underlying9 h0
  obtain ⟨s1, e1, _, b1⟩ := DataW.trod_string Tryd.underlying9 h1
  obtain ⟨f, e2, _, b2⟩ := DataW.trod_int Tryd.underlying3 h2
  obtain ⟨s3, e3, _, b3⟩ := DataW.trod_string Tryd.underlying9 h3
  obtain ⟨s4, e4, _, b4⟩ := DataW.trod_string Tryd.underlying9 h4
  obtain ⟨s5, e5, _, b5⟩ := DataW.trod_string Tryd.underlying9 h5
  obtain ⟨s6, e6, _, b6⟩ := DataW.trod_string Tryd.underlying9 h6
  simp only [List.cons.injEq, and_true] at e0 e1 e2 e3 e4 e5 e6
  subst e0 e1 e2 e3 e4 e5 e6
  exact ⟨s0, s1, s3, s4, s5, s6, f, rfl, b2, b0, b1, b3, b4, b5, b6⟩


theorem float_trod {H : Type} {enc : TypeId × Value → H} {P : Program} {w : World} {base : Nat} {spare : Nat → Bool} {held : Bool} {fuel : Nat} {t : TypeId} {cs : List Value} {x : DataW H × List MemPlace} {k : FloatKind} (ht : P.underlying t = some (.float k)) (h : DataW.trod enc P w base spare held fuel t cs = some x) : ∃ b, cs = [.float k b] ∧ x.1 = .lit (.float k b) := by
  cases fuel with
  | zero => simp [DataW.trod] at h
  | succ n =>
    unfold DataW.trod at h
    rw [ht] at h
    split at h <;> simp_all
    rw [← h.2]
/-- An array of floats that reads as listed holds these floats, cell for cell. -/
theorem cells_of_ftab {H : Type} {enc : TypeId × Value → H} {P : Program} {w : World} {base : Nat} {sp : Nat → Bool} {held : Bool} {fuel : Nat} {t e : TypeId} {n : Nat} {k : FloatKind} {cs : List Value} {zs : List Nat} {p : List MemPlace}
    (ht : P.underlying t = some (.array n e)) (he : P.underlying e = some (.float k)) (hce : P.cellsOf e = 1) (hct : P.cellsOf t = n)
    (h : DataW.trod enc P w base sp held fuel t cs = some ((.agg (zs.map fun z => .lit (.float k z)) : DataW H), p)) : cs = zs.map fun z => Value.float k z := by
  cases fuel with
  | zero => simp [DataW.trod] at h
  | succ fuel =>
    simp only [DataW.trod, ht, hce, hct, Nat.mul_one] at h
    split at h
    · rename_i hl
      obtain ⟨xs, hm, hx⟩ := Option.map_eq_some_iff.1 h
      have hxs : xs.map (·.1) = zs.map fun z => (DataW.lit (.float k z) : DataW H) := by
        have := congrArg Prod.fst hx
        simpa using this
      have hxl : xs.length = n := by simpa using Lib.mapM_length hm
      have hzl : zs.length = n := by
        have := congrArg List.length hxs
        simp at this
        omega
      apply List.ext_getElem?
      intro i
      by_cases hi : i < n
      · obtain ⟨b, hb, hf⟩ := Lib.mapM_at hm i i (by simp [hi])
        obtain ⟨z, hc, hz⟩ := float_trod he hf
        have h1 : cs[i]? = some (.float k z) := by
          have := congrArg (·[0]?) hc
          simpa [List.getElem?_take, List.getElem?_drop] using this
        have h2 : (xs.map (·.1))[i]? = some (DataW.lit (.float k z) : DataW H) := by simp [hb, hz]
        rw [hxs] at h2
        simp only [List.getElem?_map, Option.map_eq_some_iff, DataW.lit.injEq, Lit.float.injEq, true_and] at h2
        obtain ⟨z', hz', rfl⟩ := h2
        simp [h1, hz']
      · rw [List.getElem?_eq_none (by omega), List.getElem?_eq_none (by simp; omega)]
    · cases h

theorem laid_floats {W : World} {l : List (String × DataW Unit)} (h : laidMet Tryd.prog l W) {nm : String} {g : Nat} {t n : Nat} {zs : List Nat} (hm : (nm, (.agg (zs.map fun z => .lit (.float .f64 z)) : DataW Unit)) ∈ l)
    (hg0 : Tryd.prog.globalNamed nm = some g) (ht0 : (Tryd.prog.globals[g]?).map (·.type) = some t) (hu : Tryd.prog.underlying t = some (.array n 23)) (hc : Tryd.prog.cellsOf t = n) (hce : Tryd.prog.cellsOf 23 = 1) :
    ∀ i z, zs[i]? = some z → W.cell? ⟨g, i, none⟩ = some (.float .f64 z) := by
  obtain ⟨ps, hv, _⟩ := h
  obtain ⟨g', t', cs, fuel, p, hg, ht, hcs, hd⟩ := laid_reads hv _ _ hm
  obtain rfl := Option.some.inj (hg0.symm.trans hg)
  obtain rfl := Option.some.inj (ht0.symm.trans ht)
  have e := cells_of_ftab hu Tryd.underlying23 hce hc hd
  intro i z hz
  rw [World.var?_cell hg hcs i]
  have : cs.toList[i]? = some (Value.float .f64 z) := by rw [e, List.getElem?_map, hz]; rfl
  simpa using this

def P10all : List Nat := P10 ++ [4891288408196988160, 4906019910204099648, 4921056587992461136, 4936209963552724370, 4950912855330343670, 4965913770331839924, 4981134201117475473, 4995809153217856309, 5010775143622804482, 5026061058026967681, 5040708725286295329, 5055640609639927018, 5070927765361438756]
def P32all : List Nat := [4607182418800017408, 5085611494797045271, 5564284217833028085, 6043257259031049059, 6521906365687930162, 7000496887210966211, 7479368607221621995, 7958223736346011545, 8436737289693151036, 8915514139102383430]
def ftab (zs : List Nat) : DataW Unit := .agg (zs.map fun z => .lit (.float .f64 z))
set_option maxRecDepth 100000 in
theorem powAt_of {W : World} {l : List (String × DataW Unit)} (h : laidMet Tryd.prog l W) (h1 : ("math.pow10tab", ftab P10all) ∈ l) (h2 : ("math.pow10postab32", ftab P32all) ∈ l) : PowAt W := by
  have a := laid_floats h (zs := P10all) (g := 2) (t := 60) (n := 32) h1 (by kernel_rfl) (by kernel_rfl) Tryd.underlying60 (by kernel_rfl) (by kernel_rfl)
  have b := laid_floats h (zs := P32all) (g := 1) (t := 58) (n := 10) h2 (by kernel_rfl) (by kernel_rfl) Tryd.underlying58 (by kernel_rfl) (by kernel_rfl)
  refine ⟨b 0 _ rfl, fun n hn => a n _ ?_⟩
  have hl : n < P10.length := by show n < 19; omega
  unfold P10all p10
  rw [List.getElem?_append_left hl, List.getElem?_eq_getElem hl, List.getD, List.getElem?_eq_getElem hl]
  rfl
end Go.Proofs.YtfbdjffpnioinaaDoor
