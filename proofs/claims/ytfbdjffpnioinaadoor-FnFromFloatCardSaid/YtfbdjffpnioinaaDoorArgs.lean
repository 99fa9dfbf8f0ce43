/- Arguments that are lists of texts or numbers, opened; the package's error value, out of what the row lists. -/
import Derived.Test.YtfbdjffpnioinaaDoorKit
import Derived.Test.YtfbdjffpnioinaaDoorTog
import Derived.Test.YtfbdjffpnioinaaDoorAdd
import Derived.LaidLaws
import Derived.Lib.LaidTab
import Derived.SliceStrings
import Derived.OpenVars
namespace Go.Proofs.YtfbdjffpnioinaaDoor
open Go.ChangeShapes Go.WideShapes Go.ChangeAt Go.RowKit

theorem laid_reads {W : World} : ∀ {l : List (String × DataW Unit)} {ps : List MemPlace}, DataW.LaidVars Tryd.prog W l ps → ∀ n d, (n, d) ∈ l →
    ∃ g t cs fuel p, Tryd.prog.globalNamed n = some g ∧ (Tryd.prog.globals[g]?).map (·.type) = some t ∧ W.var? Tryd.prog n = some cs ∧ DataW.trod (fun _ => ()) Tryd.prog W 0 (fun _ => true) false fuel t cs.toList = some (d, p)
  | [], _, _, _, _, hm => by cases hm
  | (n', d') :: r, ps, h, n, d, hm => by
    obtain ⟨g, t, cs, fuel, p, q, h1, h2, h3, h4, h5, _⟩ := h
    rcases List.mem_cons.1 hm with e | e
    · cases e
      exact ⟨g, t, cs, fuel, p, h1, h2, h3, h4⟩
    · exact laid_reads h5 n d e

theorem errAt_of {W : World} {l : List (String × DataW Unit)} (h : laidMet Tryd.prog l W) (nm : String) (d : DataW Unit) (hm : ("loop.example/pub-g03265/pub/money.ErrCurrencyMismatch", .iface nm d) ∈ l) : ErrAt W := by
  obtain ⟨ps, hv, _⟩ := h
  obtain ⟨g, t, cs, fuel, p, hg, ht, hcs, hd⟩ := laid_reads hv _ _ hm
  obtain rfl := Option.some.inj ((show Tryd.prog.globalNamed "loop.example/pub-g03265/pub/money.ErrCurrencyMismatch" = some 4 by kernel_rfl).symm.trans hg)
  obtain rfl := Option.some.inj ((show (Tryd.prog.globals[4]?).map (·.type) = some 69 by kernel_rfl).symm.trans ht)
  obtain ⟨_, u, v, hc, _, _⟩ := iface_of_trod Tryd.underlying69 hd
  refine ⟨u, v, ?_⟩
  rw [World.var?_cell hg hcs 0, Array.eq_one_of_toList hc]
  rfl
theorem one_var {P : Program} {H : Type} {enc : TypeId × Value → H} {W : World} {sp : Nat → Bool} {n : String} : ∀ {gs : List (DataW H)} {ps : List MemPlace}, DataW.TrodVars enc P W sp [n] gs ps → ∃ g1, gs = [g1]
  | [], _, h => h.elim
  | [g1], _, _ => ⟨g1, rfl⟩
  | _ :: _ :: _, _, h => by obtain ⟨g, t, cs, fuel, p, q, h1, h2, h3, h4, hs, e⟩ := h; exact hs.elim

theorem spot_none {w : World} {a : Addr} {v : Value} (h : w.cell? a = some v) : ∃ b off, a = ⟨b, off, none⟩ := by
  obtain ⟨b, off, spot⟩ := a
  have hs : spot = none := by simpa using World.cell?_spot h
  exact ⟨b, off, by rw [hs]⟩
theorem addr_add (b off i : Nat) : Addr.add ⟨b, off, none⟩ i = ⟨b, off + i, none⟩ := by
  unfold Addr.add; by_cases h0 : i = 0 <;> simp [h0]

section
variable {P : Program} {H : Type} {enc : TypeId × Value → H} {W : World} {r : Reach} {b0 : Nat}
theorem cells_mk {a : Addr} {vs : List Value} (hc : ∀ i v, vs[i]? = some v → W.cell? (a.add i) = some v) : Cells W (some a) vs := fun h0 => by
  obtain ⟨b, off, e⟩ := spot_none (hc 0 vs[0] (List.getElem?_eq_getElem h0))
  have ea : a = ⟨b, off, none⟩ := by
    rw [← e]; unfold Addr.add; simp
  subst ea
  exact ⟨b, off, rfl, fun i v hv => by rw [← addr_add]; exact hc i v hv⟩
theorem strs_arg {t e : TypeId} (ht : P.underlying t = some (.slice e)) (he : P.underlying e = some .string) (hc : P.cellsOf e = 1) {v : Value} {d : DataW H} {p : List MemPlace}
    (hv : Value.okWide P W r b0 t v) (h : DataW.Trod enc P W 0 (fun _ => true) true t v d p) :
    ∃ A c ss, v = .slice A (ss : List ByteArray).length c ∧ Cells W A (strV ss) ∧ (∀ s ∈ ss, s.size ≤ maxLen) ∧ ss.length ≤ maxLen := by
  obtain ⟨a0, len, cap, rfl⟩ := okWide_slice ht hv
  obtain ⟨fuel, hf⟩ := h
  rcases open_strings ht he hc hf with ⟨hcs, _⟩ | ⟨a, len', cap', ss, hcs, _, hl, hm, hz, _, hcell, hws⟩
  · simp [Value.cells] at hcs
    obtain ⟨rfl, rfl, rfl⟩ := hcs
    exact ⟨none, 0, [], rfl, (fun h => by simp [strV] at h), (fun s hs => by simp at hs), Nat.zero_le _⟩
  · simp [Value.cells] at hcs
    obtain ⟨rfl, rfl, rfl⟩ := hcs
    simp only [if_true] at hz
    have hlt : (ss.take len).length = len := by rw [List.length_take]; omega
    refine ⟨some a, cap, ss.take len, by rw [hlt], cells_mk fun i v hv => ?_, fun s hs => hws s (List.mem_of_mem_take hs), by omega⟩
    have hi : i < len := by have := (List.getElem?_eq_some_iff.1 hv).1; simp [strV] at this; omega
    have h1 := hcell i (by omega)
    rw [h1, ← hv]
    simp [strV, hi, List.getD, show i < ss.length by omega]
theorem ints_arg {t e : TypeId} {k : IntKind} (ht : P.underlying t = some (.slice e)) (he : P.underlying e = some (.int k)) (hc : P.cellsOf e = 1) {v : Value} {d : DataW H} {p : List MemPlace}
    (hv : Value.okWide P W r b0 t v) (h : DataW.Trod enc P W 0 (fun _ => true) true t v d p) :
    ∃ A c zs, v = .slice A (zs : List Int).length c ∧ Cells W A (intV k zs) ∧ (∀ z ∈ zs, (Lit.int k z).wf = true) ∧ zs.length ≤ maxLen := by
  obtain ⟨a0, len, cap, rfl⟩ := okWide_slice ht hv
  obtain ⟨fuel, hf⟩ := h
  rcases open_ints ht he hc hf with ⟨hcs, _⟩ | ⟨a, len', cap', zs, hcs, _, hl, hm, hz, _, hcell, hws⟩
  · simp [Value.cells] at hcs
    obtain ⟨rfl, rfl, rfl⟩ := hcs
    exact ⟨none, 0, [], rfl, (fun h => by simp [intV] at h), (fun s hs => by simp at hs), Nat.zero_le _⟩
  · simp [Value.cells] at hcs
    obtain ⟨rfl, rfl, rfl⟩ := hcs
    simp only [if_true] at hz
    have hlt : (zs.take len).length = len := by rw [List.length_take]; omega
    refine ⟨some a, cap, zs.take len, by rw [hlt], cells_mk fun i v hv => ?_, fun s hs => hws s (List.mem_of_mem_take hs), by omega⟩
    have hi : i < len := by have := (List.getElem?_eq_some_iff.1 hv).1; simp [intV] at this; omega
    have h1 := hcell i (by omega)
    rw [h1, ← hv]
    simp [intV, hi, List.getD, show i < zs.length by omega]
end
end Go.Proofs.YtfbdjffpnioinaaDoor
