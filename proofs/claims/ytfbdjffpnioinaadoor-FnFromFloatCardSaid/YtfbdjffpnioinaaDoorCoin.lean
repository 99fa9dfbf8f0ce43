/- impl.coinOf, impl.Currency, impl.Of: currencies as data. -/
import Derived.Test.YtfbdjffpnioinaaDoorAlive
import Derived.StillTailTactics
import Derived.Laws.CopyOwn
import Derived.Deep.MidRow
namespace Go.Proofs.YtfbdjffpnioinaaDoor
open Go.RowKit

def Cur.val (c : Cur) : Value := .agg c.cells
def noCur : Cur := ⟨⟨#[]⟩, ⟨#[]⟩, 0, ⟨#[]⟩, ⟨#[]⟩, ⟨#[]⟩, ⟨#[]⟩⟩

theorem Blk.row {w : World} {g : Nat} {t : TypeId} {cs : Array Value} (h : Blk w g t cs) (cs' : Array Value) : Blk (w.setRow g cs') g t cs' := setRow_heap w g cs cs' t _ h
theorem wpList_store_row {P : Program} {ops : Array Oper} {rest : List Oper} {op : Oper} {a : Act} {w : World} {Q : Exit → Act → World → Prop} (hgd : op.guard = none) (ty : TypeId) (x y : Operand) (ho : op.op = .store ty x y)
    (g : Nat) (cells cur : Array Value) (hx : a.eval x = .pointer (some ⟨g, 0, none⟩)) (hy : a.eval y = .agg cells)
    (hg : Blk w g ty cur) (hi : (P.info? ty).map (·.size) = some cells.size) (hs : cur.size = cells.size) (h1 : cells.all (·.oneCell') = true)
    (h : wpList P ops Q rest (a.put op.dst undef) (w.setRow g cells)) : wpList P ops Q (op :: rest) a w :=
  wpList_plain hgd fun _ hK => by
    unfold Oper.wp execOp
    simp only [ho, hx, hy, Instr.storeAt, Instr.sureAddr, Sem.run_bind, Sem.run_pure, Result.andThen_ok, run_storeVar_row w g ty ty cur cells hg hi hs h1]
    exact hK _ _ h

def put7 (w : World) (g : Nat) (c : Cur) : World :=
  ((((((w.setCell ⟨g, 0, none⟩ (.string c.code)).setCell ⟨g, 1, none⟩ (.string c.num)).setCell ⟨g, 2, none⟩ (.int .i64 c.frac)).setCell ⟨g, 3, none⟩ (.string c.graph)).setCell ⟨g, 4, none⟩ (.string c.tmpl)).setCell ⟨g, 5, none⟩ (.string c.dec)).setCell ⟨g, 6, none⟩ (.string c.thou)
theorem seven (c0 c : Cur) : ((((((c0.cells.setIfInBounds 0 (.string c.code)).setIfInBounds 1 (.string c.num)).setIfInBounds 2 (.int .i64 c.frac)).setIfInBounds 3 (.string c.graph)).setIfInBounds 4 (.string c.tmpl)).setIfInBounds 5 (.string c.dec)).setIfInBounds 6 (.string c.thou) = c.cells := by
  simp [Cur.cells]
theorem Blk.seven {w : World} {g : Nat} {t : TypeId} {c0 : Cur} (h : Blk w g t c0.cells) (c : Cur) : Blk (put7 w g c) g t c.cells := by
  rw [← Go.Proofs.YtfbdjffpnioinaaDoor.seven c0 c]
  unfold put7
  generalize Cur.cells c0 = cs at h ⊢
  refine Blk.set_ ?_ 6 _
  refine Blk.set_ ?_ 5 _
  refine Blk.set_ ?_ 4 _
  refine Blk.set_ ?_ 3 _
  refine Blk.set_ ?_ 2 _
  refine Blk.set_ ?_ 1 _
  exact Blk.set_ h 0 _
theorem below_put7 {B g : Nat} {a w : World} (h : Below B a w) (hg : B ≤ g) (c : Cur) : Below B a (put7 w g c) := by
  unfold put7
  refine Below.setCell ?_ hg _
  refine Below.setCell ?_ hg _
  refine Below.setCell ?_ hg _
  refine Below.setCell ?_ hg _
  refine Below.setCell ?_ hg _
  refine Below.setCell ?_ hg _
  exact Below.setCell h hg _

set_option maxRecDepth 100000 in
set_option maxHeartbeats 1000000 in
theorem coinOf_any (c : Cur) (g : Nat) (w : World) (h : Blk w g 42 c.cells) :
    Calls Tryd.prog 25 #[.pointer (some ⟨g, 0, none⟩)] w fun e w' => e = .returned c.val ∧ Below w.heap.size w w' := by
  have H := Lib.hid h
  clear h
  go_enter Tryd.func25, Tryd.ntmps25
  go_wp2_with fail
  have f := H.out.alloc (.cells noCur.cells 29)
  have f2 := Blk.new w 29 noCur.cells
  have hb := (Below.refl w.heap.size w).alloc (Nat.le_refl _) (.cells noCur.cells 29)
  have hg : g < w.heap.size := H.out.lt
  unfold noCur Cur.cells at f f2 hb
  generalize w.alloc _ = w2 at *
  have e0 : w2.cell? ⟨g, 0, none⟩ = some (.string c.code) := f.cell 0
  have e1 : w2.cell? ⟨g, 1, none⟩ = some (.string c.num) := f.cell 1
  have e2 : w2.cell? ⟨g, 2, none⟩ = some (.int .i64 c.frac) := f.cell 2
  have e3 : w2.cell? ⟨g, 3, none⟩ = some (.string c.graph) := f.cell 3
  have e4 : w2.cell? ⟨g, 4, none⟩ = some (.string c.tmpl) := f.cell 4
  have e5 : w2.cell? ⟨g, 5, none⟩ = some (.string c.dec) := f.cell 5
  have e6 : w2.cell? ⟨g, 6, none⟩ = some (.string c.thou) := f.cell 6
  have HB := Lib.hid hb
  have HF2 := Lib.hid f2
  clear H hb f f2
  generalize hk : w.heap.size = k at *
  go_still_tail 29, (by kernel_rfl)
  change wpList _ _ _ _ _ w2.drew
  have HF3 := Lib.hid (HF2.out.drew)
  have HB3 := Lib.hid (HB.out.drew)
  generalize w2.drew = w3 at *
  clear HF2 HB e0 e1 e2 e3 e4 e5 e6
  refine wpList_store_row rfl 29 _ _ rfl k c.cells _ rfl rfl HF3.out (by kernel_rfl) rfl (by simp [Cur.cells, Value.oneCell']) ?_
  have HF4 := Lib.hid (HF3.out.row c.cells)
  have HB4 := Lib.hid (below_setRow HB3.out (Nat.le_refl _) c.cells)
  generalize w3.setRow k c.cells = w4 at *
  clear HF3 HB3
  have h0 : w4.cell? ⟨k, 0, none⟩ = some (.string c.code) := HF4.out.cell 0
  have h1 : w4.cell? ⟨k, 1, none⟩ = some (.string c.num) := HF4.out.cell 1
  have h2 : w4.cell? ⟨k, 2, none⟩ = some (.int .i64 c.frac) := HF4.out.cell 2
  have h3 : w4.cell? ⟨k, 3, none⟩ = some (.string c.graph) := HF4.out.cell 3
  have h4 : w4.cell? ⟨k, 4, none⟩ = some (.string c.tmpl) := HF4.out.cell 4
  have h5 : w4.cell? ⟨k, 5, none⟩ = some (.string c.dec) := HF4.out.cell 5
  have h6 : w4.cell? ⟨k, 6, none⟩ = some (.string c.thou) := HF4.out.cell 6
  go_wp2
  refine bodyPost_ret (v := c.val) (by simp [results, Tryd.results25, go_sem, h0, h1, h2, h3, h4, h5, h6, Cur.val, Cur.cells]) rfl ⟨rfl, ?_⟩
  exact hk ▸ HB4.out

set_option maxRecDepth 100000 in
set_option maxHeartbeats 1000000 in
theorem implOf_any (s : ByteArray) (w : World) (hs : s.size ≤ 100) (ha : ascB s = true) :
    Calls Tryd.prog 10 #[.string s] w fun e w' => e = .returned (curFor (upB s)).val ∧ Below w.heap.size w w' := by
  generalize hcc : curFor (upB s) = c
  go_enter Tryd.func10, Tryd.ntmps10
  go_wp2_with fail
  have HF := Lib.hid (Blk.new w 29 noCur.cells)
  have HB := Lib.hid ((Below.refl w.heap.size w).alloc (Nat.le_refl _) (.cells noCur.cells 29))
  have HL := Lib.hid (show w.heap.size < (w.alloc (.cells noCur.cells 29)).heap.size by simp)
  unfold noCur Cur.cells at HF HB HL
  generalize w.alloc _ = w1 at *
  refine (short_any s _).mono ?_
  rintro e _ ⟨rfl, rfl⟩
  have hsd : decide (s.size ≤ 100) = true := decide_eq_true hs
  rw [hsd]
  go_wp2_with fail
  refine (new_any 0 s _ (by omega) ha).mono ?_
  rintro e w2 ⟨gm, rfl, hgm, _, hb2⟩
  rw [hcc] at hgm
  have HF2 := Lib.hid (HF.out.below hb2 HL.out)
  have HB2 := Lib.hid (HB.out.trans (hb2.mono HB.out.size))
  have HL2 := Lib.hid (Nat.lt_of_lt_of_le HL.out hb2.size)
  obtain ⟨gc, hm, hgc⟩ := hgm
  have HM := Lib.hid hm
  have HG := Lib.hid hgc
  clear HF HB HL hb2 hgc hm
  go_wp2_with fail
  refine (currency_any _ gc gm _ HM.out).mono ?_
  rintro e _ ⟨rfl, rfl⟩
  go_wp2_with fail
  refine (coinOf_any c gc _ HG.out).mono ?_
  rintro e w3 ⟨he, hb3⟩
  unfold Cur.val Cur.cells at he
  subst he
  have HF3 := Lib.hid (HF2.out.below hb3 HL2.out)
  have HB3 := Lib.hid (HB2.out.trans (hb3.mono HB2.out.size))
  clear HF2 HB2 HL2 HG hb3
  have e0 : w3.cell? ⟨w.heap.size, 0, none⟩ = some (.string ⟨#[]⟩) := HF3.out.cell 0
  have f0 : w3.frozen? ⟨w.heap.size, 0, none⟩ = false := HF3.out.frozen 0
  have e1 : w3.cell? ⟨w.heap.size, 1, none⟩ = some (.string ⟨#[]⟩) := HF3.out.cell 1
  have f1 : w3.frozen? ⟨w.heap.size, 1, none⟩ = false := HF3.out.frozen 1
  have e2 : w3.cell? ⟨w.heap.size, 2, none⟩ = some (.int .i64 0) := HF3.out.cell 2
  have f2 : w3.frozen? ⟨w.heap.size, 2, none⟩ = false := HF3.out.frozen 2
  have e3 : w3.cell? ⟨w.heap.size, 3, none⟩ = some (.string ⟨#[]⟩) := HF3.out.cell 3
  have f3 : w3.frozen? ⟨w.heap.size, 3, none⟩ = false := HF3.out.frozen 3
  have e4 : w3.cell? ⟨w.heap.size, 4, none⟩ = some (.string ⟨#[]⟩) := HF3.out.cell 4
  have f4 : w3.frozen? ⟨w.heap.size, 4, none⟩ = false := HF3.out.frozen 4
  have e5 : w3.cell? ⟨w.heap.size, 5, none⟩ = some (.string ⟨#[]⟩) := HF3.out.cell 5
  have f5 : w3.frozen? ⟨w.heap.size, 5, none⟩ = false := HF3.out.frozen 5
  have e6 : w3.cell? ⟨w.heap.size, 6, none⟩ = some (.string ⟨#[]⟩) := HF3.out.cell 6
  have f6 : w3.frozen? ⟨w.heap.size, 6, none⟩ = false := HF3.out.frozen 6
  go_wp2
  have HF4 := Lib.hid (HF3.out.seven (c0 := noCur) c)
  have HB4 := Lib.hid (below_put7 HB3.out (Nat.le_refl _) c)
  clear e0 e1 e2 e3 e4 e5 e6 f0 f1 f2 f3 f4 f5 f6
  change bodyPost _ _ _ _ _ (put7 w3 w.heap.size c)
  generalize put7 w3 w.heap.size c = w4 at *
  have h0 : w4.cell? ⟨w.heap.size, 0, none⟩ = some (.string c.code) := HF4.out.cell 0
  have h1 : w4.cell? ⟨w.heap.size, 1, none⟩ = some (.string c.num) := HF4.out.cell 1
  have h2 : w4.cell? ⟨w.heap.size, 2, none⟩ = some (.int .i64 c.frac) := HF4.out.cell 2
  have h3 : w4.cell? ⟨w.heap.size, 3, none⟩ = some (.string c.graph) := HF4.out.cell 3
  have h4 : w4.cell? ⟨w.heap.size, 4, none⟩ = some (.string c.tmpl) := HF4.out.cell 4
  have h5 : w4.cell? ⟨w.heap.size, 5, none⟩ = some (.string c.dec) := HF4.out.cell 5
  have h6 : w4.cell? ⟨w.heap.size, 6, none⟩ = some (.string c.thou) := HF4.out.cell 6
  refine bodyPost_ret (v := c.val) (by simp [results, Tryd.results10, go_sem, h0, h1, h2, h3, h4, h5, h6, Cur.val, Cur.cells]) rfl ⟨rfl, ?_⟩
  exact HB4.out
end Go.Proofs.YtfbdjffpnioinaaDoor
