/- spec.Figures: the decimal digits of a number. -/
import Derived.Test.YteejhpoddpcahaaDoorBase
import Derived.Laws.IdiomStrings
import Derived.Laws.AppendOwn
import Derived.Lib.ItoaNum
import Derived.KernelRfl
import Derived.Outline
namespace Go.Proofs.YteejhpoddpcahaaDoor
open Go.RowKit

/-- A slice of bytes. -/
def BytesAt (w : World) (v : Value) (l : List UInt8) : Prop :=
  ∃ g cap, v = .slice (some ⟨g, 0, none⟩) l.length cap ∧ ∀ j (h : j < l.length), w.cell? ⟨g, j, none⟩ = some (.int .u8 (l[j].toNat : Int))
theorem byte_info : (Tryd.prog.info? 5).map (fun i => (i.zero, i.size, i.bytes)) = some (some (.int .u8 0), 1, 1) := by kernel_rfl

def lenOf : Value → Nat
  | .slice _ n _ => n
  | _ => 0
def FigRel (n m : Nat) (ds : List UInt8) : Prop := (ds = [] ∧ m = n) ∨ (ds ≠ [] ∧ (if m = 0 then [] else Lib.decDigits m) ++ ds = Lib.decDigits n)
theorem dec_step (m : Nat) (ds : List UInt8) : (if m / 10 = 0 then [] else Lib.decDigits (m / 10)) ++ (UInt8.ofNat (48 + m % 10) :: ds) = Lib.decDigits m ++ ds := by
  by_cases h : m < 10
  · have h0 : m / 10 = 0 := by omega
    rw [if_pos h0, Lib.decDigits_one h, Nat.mod_eq_of_lt h]
    rfl
  · have h0 : ¬ m / 10 = 0 := by omega
    rw [if_neg h0]
    conv => rhs; rw [Lib.decDigits, dif_neg h]
    simp
theorem FigRel.step {n m : Nat} {ds : List UInt8} (h : FigRel n m ds) (hgo : 0 < m ∨ ds.length = 0) : FigRel n (m / 10) (UInt8.ofNat (48 + m % 10) :: ds) := by
  refine .inr ⟨by simp, ?_⟩
  rw [dec_step]
  rcases h with ⟨rfl, rfl⟩ | ⟨hne, he⟩
  · simp
  · have hm : ¬ m = 0 := by
      rcases hgo with h | h
      · omega
      · exact absurd (List.eq_nil_of_length_eq_zero h) hne
    rw [← he, if_neg hm]
theorem FigRel.done {n m : Nat} {ds : List UInt8} (h : FigRel n m ds) (hgo : ¬ (0 < m ∨ ds.length = 0)) : ds = Lib.decDigits n := by
  rcases h with ⟨rfl, _⟩ | ⟨hne, he⟩
  · simp at hgo
  · have hm : m = 0 := by omega
    rw [if_pos hm] at he
    exact he
theorem nDigits_le (n : Nat) (hn : n < 18446744073709551616) : Lib.nDigits n ≤ 20 := by
  by_cases h : Lib.nDigits n ≤ 20
  · exact h
  · exfalso
    have hb : ¬ n < 10 ^ 20 := by
      intro hlt
      have : ∀ k n, n < 10 ^ (k + 1) → Lib.nDigits n ≤ k + 1 := by
        intro k
        induction k with
        | zero => intro n hn; rw [Lib.nDigits_small (by simpa using hn)]; omega
        | succ k ih =>
          intro n hn
          by_cases h10 : n < 10
          · rw [Lib.nDigits_small h10]; omega
          · rw [Lib.nDigits_big h10]
            have := ih (n / 10) (by rw [Nat.div_lt_iff_lt_mul (by omega)]; rw [Nat.pow_succ] at hn; exact hn)
            omega
      exact h (this 19 n hlt)
    omega
theorem FigRel.len {n m : Nat} {ds : List UInt8} (h : FigRel n m ds) (hn : n < 18446744073709551616) : ds.length ≤ 20 := by
  rcases h with ⟨rfl, _⟩ | ⟨_, he⟩
  · simp
  · have h1 := congrArg List.length he
    rw [List.length_append, Lib.decDigits_length] at h1
    have := nDigits_le n hn
    omega
theorem dec_lt {m : Nat} {ds : List UInt8} {n : Nat} (h : (if m = 0 then [] else Lib.decDigits m) ++ ds = Lib.decDigits n) (hn : n < 18446744073709551616) : m < 100000000000000000000 := by
  by_cases h0 : m = 0
  · omega
  · rw [if_neg h0] at h
    have h1 := congrArg List.length h
    rw [List.length_append, Lib.decDigits_length, Lib.decDigits_length] at h1
    have h2 := nDigits_le n hn
    have h3 := Lib.lt_pow_nDigits m
    have h4 : 10 ^ Lib.nDigits m ≤ 10 ^ 20 := Nat.pow_le_pow_right (by omega) (by omega)
    omega

def bytesV (ds : List UInt8) : List Value := ds.map fun b => .int .u8 (b.toNat : Int)
theorem addr0 (g j : Nat) : Addr.add ⟨g, 0, none⟩ j = ⟨g, j, none⟩ := by unfold Addr.add; by_cases h0 : j = 0 <;> simp [h0]
theorem bytesV_cells {w : World} {g : Nat} {ds : List UInt8} (h : ∀ j (h : j < ds.length), w.cell? ⟨g, j, none⟩ = some (.int .u8 (ds[j].toNat : Int))) : ∀ j u, (bytesV ds)[j]? = some u → w.cell? (Addr.add ⟨g, 0, none⟩ j) = some u := by
  intro j u hj
  have hl : j < ds.length := by have := (List.getElem?_eq_some_iff.1 hj).1; simpa [bytesV] using this
  rw [addr0, h j hl, ← hj]
  simp [bytesV, hl]
theorem bytesV_one (ds : List UInt8) : ∀ u ∈ bytesV ds, u.oneCell' = true := by
  intro u hu
  obtain ⟨b, _, rfl⟩ := List.mem_map.1 hu
  rfl
theorem one_own (wr : World) (base : Nat) (d : Int) (hb : base ≤ wr.heap.size) : (wr.alloc (.cells #[.int .u8 d] 5)).ownsRow base 5 1 (.slice (some ⟨wr.heap.size, 0, none⟩) 1 1) 1 [.int .u8 d] :=
  ⟨rfl, .inr ⟨wr.heap.size, 1, _, rfl, hb, heap_alloc_new wr _, Nat.le_refl _, by decide, rfl, rfl⟩⟩
theorem bytes_cons {w : World} {base : Nat} {v : Value} {d : Int} {ds : List UInt8} {b : UInt8} (h : w.ownsRow base 5 1 v (1 + ds.length) ([.int .u8 d] ++ bytesV ds)) (hd : d = (b.toNat : Int)) :
    ∃ g cap, v = .slice (some ⟨g, 0, none⟩) (1 + ds.length) cap ∧ ∀ j (h : j < (b :: ds).length), w.cell? ⟨g, j, none⟩ = some (.int .u8 ((b :: ds)[j].toNat : Int)) := by
  rcases h.2 with ⟨_, hz⟩ | ⟨g, cap, cur, rfl, _⟩
  · omega
  · refine ⟨g, cap, rfl, fun j hj => ?_⟩
    rw [← addr0]
    refine h.cells (g := g) rfl j _ ?_
    subst hd
    have : [Value.int .u8 (b.toNat : Int)] ++ bytesV ds = bytesV (b :: ds) := rfl
    rw [this]
    unfold bytesV
    rw [List.getElem?_map, List.getElem?_eq_getElem hj]
    rfl

set_option maxRecDepth 100000 in
set_option maxHeartbeats 1000000 in
theorem figures_any (n : Nat) (w : World) (hn : n < 18446744073709551616) :
    Calls Tryd.prog 27 #[.int .u64 n] w fun e w' => e = .returned (.string ⟨(Lib.decDigits n).toArray⟩) ∧ Below w.heap.size w w' := by
  obtain ⟨i0, hi, hz0, hz1, hz2⟩ := info_parts byte_info
  go_enter Tryd.func27, Tryd.ntmps27
  go_wp2
  go_loopw [0, 3] (fun nv ov wr => ∃ (m : Nat) (ds : List UInt8), nv = .int .u64 m ∧ Hid (BytesAt wr ov ds) ∧ Hid (FigRel n m ds) ∧ m < 18446744073709551616 ∧ Hid (Below w.heap.size w wr)) (fun nv ov _ => (intOf nv).toNat + (if lenOf ov = 0 then 1 else 0))
  case atStart => exact ⟨n, [], rfl, ⟨w.heap.size, 0, rfl, fun j h => by simp at h⟩, .inl ⟨rfl, rfl⟩, hn, (Below.refl w.heap.size w).alloc (Nat.le_refl _) _⟩
  case round =>
    obtain ⟨m, ds, rfl, HD, HR, hm, HB⟩ := hrel
    obtain ⟨g, cap, rfl, hds⟩ := HD.out
    have HDS := Lib.hid hds
    have HL := Lib.hid (HR.out.len hn)
    clear HD hds
    by_cases h0 : 0 < m
    · have HS := Lib.hid (HR.out.step (.inl h0))
      go_wp2_with (at_builtin; refine wpList_append_own _ rfl _ _ 72 rfl w.heap.size 5 i0 (.int .u8 0) 1 1 Tryd.underlying72 hi hz0 hz1 hz2 rfl (by decide) _ 1 [.int .u8 (48 + (m : Int) % 10)] rfl (one_own wr w.heap.size (48 + (m : Int) % 10) HB.out.size) ⟨g, 0, none⟩ ds.length cap (bytesV ds) rfl (by simp [bytesV]) ?c1 ?c2 ?c3 ?c4 ?c5 ?_)
      case c1 => exact bytesV_cells (fun j h => by rw [((Below.refl wr.heap.size wr).alloc (Nat.le_refl _) _).cell (cell_lt (HDS.out j h))]; exact HDS.out j h)
      case c2 => exact bytesV_one ds
      case c3 => have := HL.out; unfold maxLen; omega
      case c4 => have := HL.out; omega
      case c5 => have := HB.out.size; simp; omega
      intro v' w3 hown' hgrow _
      obtain ⟨g', cap', rfl, hcells⟩ := bytes_cons (b := UInt8.ofNat (48 + m % 10)) hown' (by rw [UInt8.toNat_ofNat']; omega)
      have HC3 := Lib.hid hcells
      have HB3 := Lib.hid ((HB.out.alloc HB.out.size _).grown hgrow (by have := HB.out.size; simp; omega) (fun q hq => by simp [Value.ownBlock] at hq; have := HB.out.size; omega))
      clear hown' hgrow hcells
      go_wp2
      refine ⟨⟨m / 10, UInt8.ofNat (48 + m % 10) :: ds, by go_num, ⟨g', cap', by simp [Nat.add_comm], HC3.out⟩, HS, by omega, HB3⟩, ?_⟩
      simp [intOf, lenOf]; omega
    · by_cases hl0 : ds.length = 0
      · obtain rfl : m = 0 := by omega
        have hds0 : ds = [] := List.eq_nil_of_length_eq_zero hl0
        subst hds0
        have HS := Lib.hid (HR.out.step (.inr rfl))
        go_wp2_with (at_builtin; refine wpList_append_own _ rfl _ _ 72 rfl w.heap.size 5 i0 (.int .u8 0) 1 1 Tryd.underlying72 hi hz0 hz1 hz2 rfl (by decide) _ 1 [.int .u8 (48)] rfl (one_own wr w.heap.size (48) HB.out.size) ⟨g, 0, none⟩ 0 cap [] rfl rfl ?c1 ?c2 ?c3 ?c4 ?c5 ?_)
        case c1 => intro j u hj; simp at hj
        case c2 => intro u hu; cases hu
        case c3 => unfold maxLen; omega
        case c4 => omega
        case c5 => have := HB.out.size; simp; omega
        intro v' w3 hown' hgrow _
        obtain ⟨g', cap', rfl, hcells⟩ := bytes_cons (ds := []) (b := UInt8.ofNat 48) hown' (by decide)
        have HC3 := Lib.hid hcells
        have HB3 := Lib.hid ((HB.out.alloc HB.out.size _).grown hgrow (by have := HB.out.size; simp; omega) (fun q hq => by simp [Value.ownBlock] at hq; have := HB.out.size; omega))
        clear hown' hgrow hcells
        go_wp2
        refine ⟨⟨0, [UInt8.ofNat 48], rfl, ⟨g', cap', by simp, HC3.out⟩, HS, by omega, HB3⟩, ?_⟩
        simp [intOf, lenOf]
      · have hfin := HR.out.done (by omega)
        subst hfin
        have hcv := run_convert_bytes_back (P := Tryd.prog) wr 72 9 5 ⟨g, 0, none⟩ cap _ Tryd.underlying72 Tryd.underlying5 Tryd.underlying9 (fun j hj => by rw [addr0]; exact HDS.out j hj)
        have hz : (((Lib.decDigits n).length : Int) == 0) = false := by rw [beq_eq_false_iff_ne]; omega
        go_wp2
        go_ret
        exact ⟨rfl, HB.out⟩
end Go.Proofs.YteejhpoddpcahaaDoor
