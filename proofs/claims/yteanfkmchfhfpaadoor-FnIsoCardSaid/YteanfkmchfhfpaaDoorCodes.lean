/- The codes of the table: both lists of codes (the package's, the page's) are the same 177 texts in new memory. -/
import Derived.Test.YteanfkmchfhfpaaDoorMem
import Derived.KernelRfl
namespace Go.Proofs.YteanfkmchfhfpaaDoor
open Go.RowKit

def codeList : List ByteArray := [
  ⟨#[65, 69, 68]⟩, ⟨#[65, 70, 78]⟩, ⟨#[65, 76, 76]⟩, ⟨#[65, 77, 68]⟩, ⟨#[65, 78, 71]⟩, ⟨#[65, 79, 65]⟩, ⟨#[65, 82, 83]⟩, ⟨#[65, 85, 68]⟩, ⟨#[65, 87, 71]⟩, ⟨#[65, 90, 78]⟩, ⟨#[66, 65, 77]⟩, ⟨#[66, 66, 68]⟩, ⟨#[66, 68, 84]⟩, ⟨#[66, 71, 78]⟩, ⟨#[66, 72, 68]⟩, ⟨#[66, 73, 70]⟩, ⟨#[66, 77, 68]⟩, ⟨#[66, 78, 68]⟩, ⟨#[66, 79, 66]⟩, ⟨#[66, 82, 76]⟩, ⟨#[66, 83, 68]⟩, ⟨#[66, 84, 78]⟩, ⟨#[66, 87, 80]⟩, ⟨#[66, 89, 78]⟩, ⟨#[66, 89, 82]⟩, ⟨#[66, 90, 68]⟩, ⟨#[67, 65, 68]⟩, ⟨#[67, 68, 70]⟩, ⟨#[67, 72, 70]⟩, ⟨#[67, 76, 70]⟩, ⟨#[67, 76, 80]⟩, ⟨#[67, 78, 89]⟩, ⟨#[67, 79, 80]⟩, ⟨#[67, 82, 67]⟩, ⟨#[67, 85, 67]⟩, ⟨#[67, 85, 80]⟩, ⟨#[67, 86, 69]⟩, ⟨#[67, 90, 75]⟩, ⟨#[68, 74, 70]⟩, ⟨#[68, 75, 75]⟩, ⟨#[68, 79, 80]⟩, ⟨#[68, 90, 68]⟩, ⟨#[69, 69, 75]⟩, ⟨#[69, 71, 80]⟩, ⟨#[69, 82, 78]⟩, ⟨#[69, 84, 66]⟩, ⟨#[69, 85, 82]⟩, ⟨#[70, 74, 68]⟩, ⟨#[70, 75, 80]⟩, ⟨#[71, 66, 80]⟩, ⟨#[71, 69, 76]⟩, ⟨#[71, 71, 80]⟩, ⟨#[71, 72, 67]⟩, ⟨#[71, 72, 83]⟩, ⟨#[71, 73, 80]⟩, ⟨#[71, 77, 68]⟩, ⟨#[71, 78, 70]⟩, ⟨#[71, 84, 81]⟩, ⟨#[71, 89, 68]⟩, ⟨#[72, 75, 68]⟩, ⟨#[72, 78, 76]⟩, ⟨#[72, 82, 75]⟩, ⟨#[72, 84, 71]⟩, ⟨#[72, 85, 70]⟩, ⟨#[73, 68, 82]⟩, ⟨#[73, 76, 83]⟩, ⟨#[73, 77, 80]⟩, ⟨#[73, 78, 82]⟩, ⟨#[73, 81, 68]⟩, ⟨#[73, 82, 82]⟩, ⟨#[73, 83, 75]⟩, ⟨#[74, 69, 80]⟩, ⟨#[74, 77, 68]⟩, ⟨#[74, 79, 68]⟩, ⟨#[74, 80, 89]⟩, ⟨#[75, 69, 83]⟩, ⟨#[75, 71, 83]⟩, ⟨#[75, 72, 82]⟩, ⟨#[75, 77, 70]⟩, ⟨#[75, 80, 87]⟩, ⟨#[75, 82, 87]⟩, ⟨#[75, 87, 68]⟩, ⟨#[75, 89, 68]⟩, ⟨#[75, 90, 84]⟩, ⟨#[76, 65, 75]⟩, ⟨#[76, 66, 80]⟩, ⟨#[76, 75, 82]⟩, ⟨#[76, 82, 68]⟩, ⟨#[76, 83, 76]⟩, ⟨#[76, 84, 76]⟩, ⟨#[76, 86, 76]⟩, ⟨#[76, 89, 68]⟩, ⟨#[77, 65, 68]⟩, ⟨#[77, 68, 76]⟩, ⟨#[77, 71, 65]⟩, ⟨#[77, 75, 68]⟩, ⟨#[77, 77, 75]⟩, ⟨#[77, 78, 84]⟩, ⟨#[77, 79, 80]⟩, ⟨#[77, 82, 85]⟩, ⟨#[77, 85, 82]⟩, ⟨#[77, 86, 82]⟩, ⟨#[77, 87, 75]⟩, ⟨#[77, 88, 78]⟩, ⟨#[77, 89, 82]⟩, ⟨#[77, 90, 78]⟩, ⟨#[78, 65, 68]⟩, ⟨#[78, 71, 78]⟩, ⟨#[78, 73, 79]⟩, ⟨#[78, 79, 75]⟩, ⟨#[78, 80, 82]⟩, ⟨#[78, 90, 68]⟩, ⟨#[79, 77, 82]⟩, ⟨#[80, 65, 66]⟩, ⟨#[80, 69, 78]⟩, ⟨#[80, 71, 75]⟩, ⟨#[80, 72, 80]⟩, ⟨#[80, 75, 82]⟩, ⟨#[80, 76, 78]⟩, ⟨#[80, 89, 71]⟩, ⟨#[81, 65, 82]⟩, ⟨#[82, 79, 78]⟩, ⟨#[82, 83, 68]⟩, ⟨#[82, 85, 66]⟩, ⟨#[82, 85, 82]⟩, ⟨#[82, 87, 70]⟩, ⟨#[83, 65, 82]⟩, ⟨#[83, 66, 68]⟩, ⟨#[83, 67, 82]⟩, ⟨#[83, 68, 71]⟩, ⟨#[83, 69, 75]⟩, ⟨#[83, 71, 68]⟩, ⟨#[83, 72, 80]⟩, ⟨#[83, 75, 75]⟩, ⟨#[83, 76, 69]⟩, ⟨#[83, 76, 76]⟩, ⟨#[83, 79, 83]⟩, ⟨#[83, 82, 68]⟩, ⟨#[83, 83, 80]⟩, ⟨#[83, 84, 68]⟩, ⟨#[83, 84, 78]⟩, ⟨#[83, 86, 67]⟩, ⟨#[83, 89, 80]⟩, ⟨#[83, 90, 76]⟩, ⟨#[84, 72, 66]⟩, ⟨#[84, 74, 83]⟩, ⟨#[84, 77, 84]⟩, ⟨#[84, 78, 68]⟩, ⟨#[84, 79, 80]⟩, ⟨#[84, 82, 76]⟩, ⟨#[84, 82, 89]⟩, ⟨#[84, 84, 68]⟩, ⟨#[84, 87, 68]⟩, ⟨#[84, 90, 83]⟩, ⟨#[85, 65, 72]⟩, ⟨#[85, 71, 88]⟩, ⟨#[85, 83, 68]⟩, ⟨#[85, 89, 85]⟩, ⟨#[85, 90, 83]⟩, ⟨#[86, 69, 70]⟩, ⟨#[86, 69, 83]⟩, ⟨#[86, 78, 68]⟩, ⟨#[86, 85, 86]⟩, ⟨#[87, 83, 84]⟩, ⟨#[88, 65, 70]⟩, ⟨#[88, 65, 71]⟩, ⟨#[88, 65, 85]⟩, ⟨#[88, 67, 68]⟩, ⟨#[88, 67, 71]⟩, ⟨#[88, 68, 82]⟩, ⟨#[88, 79, 70]⟩, ⟨#[88, 80, 70]⟩, ⟨#[89, 69, 82]⟩, ⟨#[90, 65, 82]⟩, ⟨#[90, 77, 87]⟩, ⟨#[90, 87, 68]⟩, ⟨#[90, 87, 76]⟩]
def codeCells : Array Value := (codeList.map Value.string).toArray

theorem wp_of_run {P : Program} {o : Oper} {a : Act} {w : World} {K : Act → World → Prop} {Q : Exit → Act → World → Prop} {r : Result Next} (h : (execOp a.eval o).run P w = r) (hk : o.upon P a K Q r) : o.wp P a w K Q := by
  unfold Oper.wp
  rw [h]
  exact hk

set_option maxRecDepth 100000 in
theorem specCodes_any (w : World) :
    Calls Tryd.prog 41 #[] w fun e w' => e = .returned (.slice (some ⟨w.heap.size, 0, none⟩) 177 177) ∧ w' = w.alloc (.cells codeCells 9) := by
  refine calls_of_wp Tryd.func41 rfl ?_
  simp only [Tryd.ntmps41, List.size_toArray, List.length_nil, Nat.sub_zero, Array.replicate_succ, Array.replicate_zero, List.push_toArray, List.append_toArray, List.nil_append]
  refine wp_seq_k (fun K hK => ?_)
  refine wp_region_lit ?_
  refine wpList_plain rfl (fun K1 hK1 => ?_)
  go_simp
  refine hK1 _ _ (wpList_nil ?_); clear hK1 K1
  refine hK _ _ ?_; clear hK K
  refine wp_seq_k (fun K hK => ?_)
  refine wp_region_lit ?_
  refine wpList_plain rfl (fun K1 hK1 => ?_)
  refine wp_of_run (r := .ok (.value (.slice (some ⟨w.heap.size, 0, none⟩) 177 177)) (w.alloc (.cells codeCells 9))) (by kernel_rfl) ?_
  refine hK1 _ _ ?_; clear hK1 K1
  refine wpList_plain rfl (fun K1 hK1 => ?_)
  go_simp
  refine hK1 _ _ (wpList_nil ?_); clear hK1 K1
  refine hK _ _ (wp_ret ?_)
  exact bodyPost_ret (results_tmp rfl _ _ _) rfl ⟨rfl, rfl⟩


theorem codeCells_size : codeCells.size = 177 := by kernel_rfl
theorem codeCells_get (i : Nat) (h : i < 177) : ∃ c, codeCells[i]? = some (.string c) ∧ codeList[i]? = some c := by
  have hl : codeList.length = 177 := by kernel_rfl
  refine ⟨codeList[i]'(by omega), ?_, List.getElem?_eq_getElem (by omega)⟩
  simp [codeCells, hl, h]
end Go.Proofs.YteanfkmchfhfpaaDoor
