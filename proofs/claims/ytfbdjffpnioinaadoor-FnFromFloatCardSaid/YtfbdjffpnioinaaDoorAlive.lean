/- laws.alive: two amounts are added. -/
import Derived.Test.YtfbdjffpnioinaaDoorImpAdd
namespace Go.Proofs.YtfbdjffpnioinaaDoor
open Go.RowKit

theorem Cells.lit (w : World) (t : TypeId) (cs : Array Value) : Cells (w.alloc (.cells cs t)) (some ⟨w.heap.size, 0, none⟩) cs.toList := fun _ =>
  ⟨_, 0, rfl, fun i v hv => by
    rw [Nat.zero_add]
    exact ((Blk.new w t cs).cell i).trans (by simpa using hv)⟩

theorem EURasc : ascB ⟨#[69, 85, 82]⟩ = true := by decide

set_option maxHeartbeats 400000 in
theorem alive_any (w : World) (hE : ErrAt w) : Calls Tryd.prog 11 #[] w fun e w' => e = .returned (.bool true) ∧ Below w.heap.size w w' := by
  have HE := Lib.hid hE
  clear hE
  go_enter Tryd.func11, Tryd.ntmps11
  go_wp2_with fail
  have hb0 : Below w.heap.size w ((w.alloc (.cells #[.string ⟨#[69, 85, 82]⟩, .string ⟨#[69, 85, 82]⟩] 9)).alloc (.cells #[.int .i64 2, .int .i64 3] 2)) := ((Below.refl _ _).alloc (Nat.le_refl _) _).alloc (by simp) _
  have hc : Cells ((w.alloc (.cells #[.string ⟨#[69, 85, 82]⟩, .string ⟨#[69, 85, 82]⟩] 9)).alloc (.cells #[.int .i64 2, .int .i64 3] 2)) (some ⟨w.heap.size, 0, none⟩) (strV [⟨#[69, 85, 82]⟩, ⟨#[69, 85, 82]⟩]) :=
    (Cells.lit w 9 #[.string ⟨#[69, 85, 82]⟩, .string ⟨#[69, 85, 82]⟩]).below ((Below.refl _ _).alloc (Nat.le_refl _) _)
  have hd : Cells ((w.alloc (.cells #[.string ⟨#[69, 85, 82]⟩, .string ⟨#[69, 85, 82]⟩] 9)).alloc (.cells #[.int .i64 2, .int .i64 3] 2)) (some ⟨w.heap.size + 1, 0, none⟩) (intV .i64 [2, 3]) := by
    have := Cells.lit (w.alloc (.cells #[.string ⟨#[69, 85, 82]⟩, .string ⟨#[69, 85, 82]⟩] 9)) 2 #[.int .i64 2, .int .i64 3]
    have hz : (w.alloc (.cells #[.string ⟨#[69, 85, 82]⟩, .string ⟨#[69, 85, 82]⟩] 9)).heap.size = w.heap.size + 1 := by simp
    rw [hz] at this
    exact this
  refine (implAdd_any _ _ _ _ [⟨#[69, 85, 82]⟩, ⟨#[69, 85, 82]⟩] [2, 3] _ hc hd rfl (by decide) (by decide) (by decide) (HE.out.below hb0) (by decide)).mono ?_
  rintro e w1 ⟨⟨_, rfl⟩ | ⟨⟨x, hx, hne⟩, _⟩, hb⟩
  · have HB := Lib.hid (hb0.trans (hb.mono hb0.size))
    clear hc hd hb hb0
    have e1 : wsum ((amtList [⟨#[69, 85, 82]⟩, ⟨#[69, 85, 82]⟩] [2, 3]).map (·.1)) = 5 := by
      show wsum [2, 3] = 5
      rw [wsum_eq]; unfold wrap64; decide
    have e2 : upB (([⟨#[69, 85, 82]⟩, ⟨#[69, 85, 82]⟩] : List ByteArray).getD 0 ⟨#[]⟩) = ⟨#[69, 85, 82]⟩ := by kernel_rfl
    rw [e1, e2]
    clear e1 e2
    go_wp2_with fail
    go_ret
    exact ⟨rfl, HB.out⟩
  · exfalso
    have e2 : upB (([⟨#[69, 85, 82]⟩, ⟨#[69, 85, 82]⟩] : List ByteArray).getD 0 ⟨#[]⟩) = upB ⟨#[69, 85, 82]⟩ := rfl
    rw [e2] at hne
    have h3 : amtList [⟨#[69, 85, 82]⟩, ⟨#[69, 85, 82]⟩] [2, 3] = [(2, curFor (upB ⟨#[69, 85, 82]⟩)), (3, curFor (upB ⟨#[69, 85, 82]⟩))] := rfl
    rw [h3] at hx
    simp only [List.mem_cons, List.not_mem_nil, or_false] at hx
    rcases hx with rfl | rfl <;> exact hne (code_curFor _)
end Go.Proofs.YtfbdjffpnioinaaDoor
