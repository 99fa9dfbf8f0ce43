/- impl.amounts: as many amounts as codes; impl.told: an amount and its code. -/
import Derived.Test.YtfbdjffpnioinaaDoorAdd
import Derived.Test.YtfbdjffpnioinaaDoorTog
import Derived.Laws.AppendOwn
namespace Go.Proofs.YtfbdjffpnioinaaDoor
open Go.RowKit

theorem grown_of_below {w w' : World} (h : Below w.heap.size w w') (row : Option Nat) : w.grownBy w' row := ⟨h.os, h.tape, h.output, h.size, fun i hi _ => h.block i hi⟩

def ptrV (g : Nat) : Value := .pointer (some ⟨g, 0, none⟩)
/-- A slice of the call's own that holds pointers to these amounts. -/
def AmtsTo (w : World) (base : Nat) (v : Value) (l : List (Int × Cur)) : Prop :=
  ∃ gs : List Nat, gs.length = l.length ∧ w.ownsRow base 44 1 v l.length (gs.map ptrV) ∧ ∀ (i : Nat) (x : Int × Cur), l[i]? = some x → ∃ g, gs[i]? = some g ∧ MoneyAt w g x.1 x.2
theorem AmtsTo.nil (w : World) (base : Nat) : AmtsTo w base (.slice none 0 0) [] := ⟨[], rfl, World.ownsRow_nil _ _ _ _, fun i x h => by simp at h⟩
theorem AmtsTo.below {w w' : World} {base : Nat} {v : Value} {l : List (Int × Cur)} (h : AmtsTo w base v l) (hb : Below w.heap.size w w') : AmtsTo w' base v l := by
  obtain ⟨gs, hl, ho, hm⟩ := h
  refine ⟨gs, hl, ho.kept (grown_of_below hb none) (by cases v.ownBlock <;> simp), fun i x hx => ?_⟩
  obtain ⟨g, h1, h2⟩ := hm i x hx
  exact ⟨g, h1, h2.below hb⟩
theorem MoneyAt.alloc {w : World} {g : Nat} {a : Int} {c : Cur} (h : MoneyAt w g a c) (o : Obj) : MoneyAt (w.alloc o) g a c := by
  obtain ⟨k, h1, h2⟩ := h
  exact ⟨k, h1.alloc o, h2.alloc o⟩
theorem blk_own_ne {w : World} {base : Nat} {e t : TypeId} {n g : Nat} {v : Value} {xs : List Value} {cs : Array Value} (h : w.ownsRow base e 1 v n xs) (hg : Blk w g t cs) (hne : e ≠ t) : some g ≠ v.ownBlock := by
  rcases h.2 with ⟨rfl, _⟩ | ⟨g', cap, cur, rfl, _, hh, _⟩
  · simp [Value.ownBlock]
  · intro he
    have e1 : g = g' := by simpa [Value.ownBlock] using he
    subst e1
    exact Blk.ne_ (t := e) hh hg hne rfl
theorem Blk.grown {w w' : World} {row : Option Nat} {g : Nat} {t : TypeId} {cs : Array Value} (h : Blk w g t cs) (hb : w.grownBy w' row) (hg : some g ≠ row) : Blk w' g t cs := (hb.block g h.lt hg).trans h
theorem MoneyAt.grown {w w' : World} {base n : Nat} {v : Value} {xs : List Value} {g : Nat} {a : Int} {c : Cur} (h : MoneyAt w g a c) (ho : w.ownsRow base 44 1 v n xs) (hb : w.grownBy w' v.ownBlock) : MoneyAt w' g a c := by
  obtain ⟨k, h1, h2⟩ := h
  exact ⟨k, h1.grown hb (blk_own_ne ho h1 (by decide)), h2.grown hb (blk_own_ne ho h2 (by decide))⟩
theorem amts_push {w w' : World} {base : Nat} {v v' : Value} {l : List (Int × Cur)} {gs : List Nat} {g : Nat} {x : Int × Cur} (hl : gs.length = l.length) (ho : w.ownsRow base 44 1 v l.length (gs.map ptrV))
    (hm : ∀ (i : Nat) (x : Int × Cur), l[i]? = some x → ∃ g, gs[i]? = some g ∧ MoneyAt w g x.1 x.2) (hx : MoneyAt w g x.1 x.2) (ho' : w'.ownsRow base 44 1 v' (l.length + 1) (gs.map ptrV ++ [ptrV g])) (hb : w.grownBy w' v.ownBlock) : AmtsTo w' base v' (l ++ [x]) := by
  refine ⟨gs ++ [g], by simp [hl], by simpa using ho', fun i y hy => ?_⟩
  by_cases hi : i < l.length
  · rw [List.getElem?_append_left hi] at hy
    obtain ⟨g', h1, h2⟩ := hm i y hy
    exact ⟨g', by rw [List.getElem?_append_left (by omega)]; exact h1, h2.grown ho hb⟩
  · have hi2 : i = l.length := by
      have := (List.getElem?_eq_some_iff.1 hy).1
      simp at this; omega
    subst hi2
    have : y = x := by simpa using hy.symm
    subst this
    exact ⟨g, by rw [← hl]; simp, hx.grown ho hb⟩
theorem AmtsTo.amts {w : World} {base : Nat} {A : Option Addr} {n cap : Nat} {l : List (Int × Cur)} (h : AmtsTo w base (.slice A n cap) l) : Amts w A l := fun h0 => by
  obtain ⟨gs, hl, ho, hm⟩ := h
  rcases ho.2 with ⟨_, hz⟩ | ⟨g', cap', cur, hv, _, hh, _⟩
  · omega
  · injection hv with hA hn hc
    subst hA
    refine ⟨g', 0, rfl, fun i x hx => ?_⟩
    obtain ⟨g, h1, h2⟩ := hm i x hx
    refine ⟨g, ?_, h2⟩
    have := ho.cells (g := g') rfl i (ptrV g) (by rw [List.getElem?_map, h1]; rfl)
    have ea : Addr.add ⟨g', 0, none⟩ i = ⟨g', 0 + i, none⟩ := by unfold Addr.add; by_cases h0 : i = 0 <;> simp [h0]
    rw [ea] at this
    exact this
theorem AmtsTo.form {w : World} {base : Nat} {v : Value} {l : List (Int × Cur)} (h : AmtsTo w base v l) (h0 : 0 < l.length) : ∃ g cap, v = .slice (some ⟨g, 0, none⟩) l.length cap ∧ l.length ≤ cap := by
  obtain ⟨gs, hl, ho, hm⟩ := h
  rcases ho.2 with ⟨_, hz⟩ | ⟨g', cap', cur, hv, _, hh, hc, _⟩
  · omega
  · exact ⟨g', cap', hv, hc⟩

theorem ptr_info : (Tryd.prog.info? 44).map (fun i => (i.zero, i.size, i.bytes)) = some (some (.pointer none), 1, 8) := by kernel_rfl

/-- The amounts that the codes and numbers name. -/
def amtList (ss : List ByteArray) (zs : List Int) : List (Int × Cur) := (zs.zip ss).map fun x => (x.1, curFor (upB x.2))
theorem amtList_length (ss : List ByteArray) (zs : List Int) (h : ss.length = zs.length) : (amtList ss zs).length = ss.length := by simp [amtList, h]
theorem amtList_take (ss : List ByteArray) (zs : List Int) (h : ss.length = zs.length) (k : Nat) (hk : k < ss.length) :
    (amtList ss zs).take (k + 1) = (amtList ss zs).take k ++ [(zs[k]'(by omega), curFor (upB ss[k]))] := by
  rw [List.take_succ_eq_append_getElem (by rw [amtList_length ss zs h]; exact hk)]
  simp [amtList]
theorem amtList_take_length (ss : List ByteArray) (zs : List Int) (h : ss.length = zs.length) (k : Nat) (hk : k ≤ ss.length) : ((amtList ss zs).take k).length = k := by
  rw [List.length_take, amtList_length ss zs h]; omega

set_option maxRecDepth 100000 in
set_option maxHeartbeats 1000000 in
theorem amounts_any (A B : Option Addr) (c d : Nat) (ss : List ByteArray) (zs : List Int) (w : World) (hc : Cells w A (strV ss)) (hd : Cells w B (intV .i64 zs)) (hl : ss.length = zs.length) (hn : ss.length ≤ 20) (h0 : 0 < ss.length) (hp : plainsB ss = true) :
    Calls Tryd.prog 34 #[.slice A ss.length c, .slice B ss.length d] w fun e w' => ∃ v, e = .returned v ∧ AmtsTo w' w.heap.size v (amtList ss zs) ∧ Below w.heap.size w w' := by
  obtain ⟨b, off, rfl⟩ := hc.addr (by simp [strV]; omega)
  obtain ⟨b2, off2, rfl⟩ := hd.addr (by simp [intV]; omega)
  obtain ⟨i0, hi, hz0, hz1, hz2⟩ := info_parts ptr_info
  have HC := Lib.hid hc
  have HD := Lib.hid hd
  have HP := Lib.hid hp
  have HL := Lib.hid hl
  clear hc hd hp hl
  go_enter Tryd.func34, Tryd.ntmps34
  go_wp2
  go_loopw [5, 20] (fun v i wr => ∃ k : Nat, k ≤ ss.length ∧ i = .int .i64 k ∧ Hid (AmtsTo wr w.heap.size v ((amtList ss zs).take k)) ∧ Hid (Below w.heap.size w wr)) (fun _ i _ => ss.length - (intOf i).toNat)
  case atStart => exact ⟨0, Nat.zero_le _, rfl, AmtsTo.nil _ _, Below.refl _ _⟩
  case round =>
    obtain ⟨k, hk, rfl, HM, HB⟩ := hrel
    by_cases hlt : k < ss.length
    · have hlz : k < zs.length := by have := HL.out; omega
      have e1 := (HC.out.below HB.out).at_ k _ (strV_get ss k hlt)
      have e2 := (HD.out.below HB.out).at_ k _ (intV_get .i64 zs k hlz)
      have hpk := plains_get ss HP.out k hlt
      have h20 := plainB_size hpk
      have HPA := Lib.hid (plainB_asc hpk)
      clear hpk
      go_wp2_with fail
      refine (short_yes _ _ (by omega)).mono ?_
      rintro e _ ⟨rfl, rfl⟩
      go_wp2_with fail
      refine (new_any zs[k] ss[k] _ (by omega) HPA.out).mono ?_
      rintro e w2 ⟨g, rfl, hg, hgl, hb2⟩
      obtain ⟨gs, hgl, hown, hmm⟩ := HM.out.below hb2
      have hlen := amtList_take_length ss zs HL.out k (by omega)
      rw [hlen] at hown
      have HMM := Lib.hid hmm
      have HG := Lib.hid hg
      have HB2 := Lib.hid hb2
      have HGL := Lib.hid hgl
      have HLEN := Lib.hid hlen
      clear hmm hg hb2 e1 e2 hgl hlen
      go_wp2_with (at_builtin; refine wpList_append_own _ rfl _ _ 65 rfl w.heap.size 44 i0 (.pointer none) 1 8 Tryd.underlying65 hi hz0 hz1 hz2 rfl (by decide) _ _ _ rfl (hown.alloc _) ⟨w2.heap.size, 0, none⟩ 1 1 [ptrV g] rfl rfl ?c1 ?c2 ?c3 ?c4 ?c5 ?_)
      case c1 =>
        intro j u hj
        match j, hj with
        | 0, hj => simp at hj; subst hj; simp [Addr.add, ptrV]
      case c2 => intro u hu; simp at hu; subst hu; rfl
      case c3 => unfold maxLen; omega
      case c4 => omega
      case c5 => have h1 := HB.out.size; have h2 := HB2.out.size; simp; omega
      intro v' w3 hown' hgrow _
      have hpush := amts_push (l := (amtList ss zs).take k) (x := (zs[k], curFor (upB ss[k]))) HGL.out (by rw [HLEN.out]; exact hown.alloc _)
        (fun i x hx => by obtain ⟨g', h1, h2⟩ := HMM.out i x hx; exact ⟨g', h1, h2.alloc _⟩) (HG.out.alloc _) (by rw [HLEN.out]; exact hown') hgrow
      rw [← amtList_take ss zs HL.out k hlt] at hpush
      have hbw : Below w.heap.size w w3 := ((HB.out.trans (HB2.out.mono HB.out.size)).alloc (Nat.le_trans HB.out.size HB2.out.size) _).grown hgrow (by have h1 := HB.out.size; have h2 := HB2.out.size; simp; omega) (fun q hq => (hown.lt q hq).1)
      have HPU := Lib.hid hpush
      have HBW := Lib.hid hbw
      clear hpush hbw hgrow hown' hown
      go_wp2
      exact ⟨⟨k + 1, by omega, by go_num, HPU, HBW⟩, by simp [intOf]; omega⟩
    · go_wp2
      go_ret
      have : (amtList ss zs).take k = amtList ss zs := List.take_of_length_le (by rw [amtList_length ss zs HL.out]; omega)
      have h := HM.out
      rw [this] at h
      exact ⟨_, rfl, h, HB.out⟩
end Go.Proofs.YtfbdjffpnioinaaDoor
