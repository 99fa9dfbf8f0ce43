/- A list of numbers, opened, with the room behind it. -/
import Derived.Test.YteanfkmchfhfpaaDoorArgs
namespace Go.Proofs.YteanfkmchfhfpaaDoor
open Go.ChangeShapes Go.WideShapes Go.ChangeAt Go.RowKit
variable {P : Program} {H : Type} {enc : TypeId × Value → H} {W : World} {r : Reach} {b0 : Nat}
theorem ints_argC {t e : TypeId} {k : IntKind} (ht : P.underlying t = some (.slice e)) (he : P.underlying e = some (.int k)) (hc : P.cellsOf e = 1) {v : Value} {d : DataW H} {p : List MemPlace}
    (hv : Value.okWide P W r b0 t v) (h : DataW.Trod enc P W 0 (fun _ => true) true t v d p) :
    ∃ A c zs, v = .slice A (zs : List Int).length c ∧ Cells W A (intV k zs) ∧ (∀ z ∈ zs, (Lit.int k z).wf = true) ∧ zs.length ≤ maxLen ∧ zs.length ≤ c := by
  obtain ⟨a0, len, cap, rfl⟩ := okWide_slice ht hv
  obtain ⟨fuel, hf⟩ := h
  rcases open_ints ht he hc hf with ⟨hcs, _⟩ | ⟨a, len', cap', zs, hcs, _, hl, hm, hz, _, hcell, hws⟩
  · simp [Value.cells] at hcs
    obtain ⟨rfl, rfl, rfl⟩ := hcs
    exact ⟨none, 0, [], rfl, (fun h => by simp [intV] at h), (fun s hs => by simp at hs), Nat.zero_le _, Nat.zero_le _⟩
  · simp [Value.cells] at hcs
    obtain ⟨rfl, rfl, rfl⟩ := hcs
    simp only [if_true] at hz
    have hlt : (zs.take len).length = len := by rw [List.length_take]; omega
    refine ⟨some a, cap, zs.take len, by rw [hlt], cells_mk fun i v hv => ?_, fun s hs => hws s (List.mem_of_mem_take hs), by omega, by omega⟩
    have hi : i < len := by have := (List.getElem?_eq_some_iff.1 hv).1; simp [intV] at this; omega
    have h1 := hcell i (by omega)
    rw [h1, ← hv]
    simp [intV, hi, List.getD, show i < zs.length by omega]
end Go.Proofs.YteanfkmchfhfpaaDoor
