/- What every row of this seat wants: the program's closed facts; arguments that stand below the call's own memory read as they did. -/
import Derived.Test.YtfbdjffpnioinaaDoorRows
import Derived.ProofKit
import Derived.OpenShut
import Derived.LaidMore
import Derived.Lay
import Derived.Stop.Joined
import Derived.SizedLaws
namespace Go.Proofs.YtfbdjffpnioinaaDoor
open Go.ChangeShapes Go.WideShapes Go.ChangeAt Go.RowKit

theorem own : ownKnob Tryd.prog.godebug = none := by kernel_rfl
theorem laidOut : laidOutB Tryd.prog = true := by kernel_rfl

theorem below_trodAll_of {P : Program} (hl : laidOutB P = true) {H : Type} {enc : TypeId × Value → H} {W W' : World} (hb : Below W.heap.size W W') : ∀ {ts : List TypeId} {vs : List Value} {ds : List (DataW H)} {ps : List MemPlace},
    (ts.all fun t => P.readableRec t && decide (t < P.types.size)) = true → DataW.TrodAll enc P W 0 (fun _ => true) true ts vs ds ps → (∀ x ∈ ps, x.block < W.heap.size) →
    DataW.TrodAll enc P W' 0 (fun b => decide (b < W.heap.size)) true ts vs ds ps
  | [], [], [], _, _, h, _ => h
  | t :: _, _ :: _, _ :: _, _, hT, ⟨p, q, h1, h2, e⟩, hs => by
    simp only [List.all_cons, Bool.and_eq_true, decide_eq_true_eq] at hT
    exact ⟨p, q, Below.trod hl hT.1.1 hT.1.2 h1 hb (fun x hx => hs x (by rw [e]; exact List.mem_append_left _ hx)), below_trodAll_of hl hb hT.2 h2 (fun x hx => hs x (by rw [e]; exact List.mem_append_right _ hx)), e⟩
theorem below_trodAll {H : Type} {enc : TypeId × Value → H} {W W' : World} (hb : Below W.heap.size W W') {ts : List TypeId} {vs : List Value} {ds : List (DataW H)} {ps : List MemPlace}
    (hT : (ts.all fun t => Tryd.prog.readableRec t && decide (t < Tryd.prog.types.size)) = true) (h : DataW.TrodAll enc Tryd.prog W 0 (fun _ => true) true ts vs ds ps) (hs : ∀ x ∈ ps, x.block < W.heap.size) :
    DataW.TrodAll enc Tryd.prog W' 0 (fun b => decide (b < W.heap.size)) true ts vs ds ps := below_trodAll_of laidOut hb hT h hs
end Go.Proofs.YtfbdjffpnioinaaDoor
