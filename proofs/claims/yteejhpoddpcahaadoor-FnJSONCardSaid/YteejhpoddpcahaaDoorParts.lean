/- impl.parts: the numbers and codes of a list of amounts; a list of amounts of one currency. -/
import Derived.Test.YteejhpoddpcahaaDoorCoin
namespace Go.Proofs.YteejhpoddpcahaaDoor
open Go.RowKit

/-- n amounts f 0 .. of one currency (its block: kc); the pointers to them lie in block A. -/
def Parts (w : World) (A : Nat) (g : Nat → Nat) (kc n : Nat) (f : Nat → Int) : Prop :=
  (∀ i, i < n → w.cell? ⟨A, i, none⟩ = some (.pointer (some ⟨g i, 0, none⟩))) ∧ ∀ i, i < n → Blk w (g i) 90 #[.int .i64 (f i), .pointer (some ⟨kc, 0, none⟩)]
theorem Parts.below {w w' : World} {A : Nat} {g : Nat → Nat} {kc n : Nat} {f : Nat → Int} (h : Parts w A g kc n f) (hb : Below w.heap.size w w') : Parts w' A g kc n f :=
  ⟨fun i hi => by rw [hb.cell (cell_lt (h.1 i hi))]; exact h.1 i hi, fun i hi => (h.2 i hi).below hb (h.2 i hi).lt⟩

def intsF (f : Nat → Int) (n : Nat) : List Int := (List.range n).map f
theorem intsF_succ (f : Nat → Int) (n : Nat) : intsF f (n + 1) = intsF f n ++ [f n] := by simp [intsF, List.range_succ]
theorem intsF_length (f : Nat → Int) (n : Nat) : (intsF f n).length = n := by simp [intsF]
def strsN (s : ByteArray) (n : Nat) : List ByteArray := List.replicate n s
theorem strsN_succ (s : ByteArray) (n : Nat) : strsN s (n + 1) = strsN s n ++ [s] := by simp [strsN, List.replicate_succ']
theorem i64_info : (Tryd.prog.info? 2).map (fun i => (i.zero, i.size, i.bytes)) = some (some (.int .i64 0), 1, 8) := by kernel_rfl
theorem str_info : (Tryd.prog.info? 9).map (fun i => (i.zero, i.size, i.bytes)) = some (some (.string ⟨#[]⟩), 1, 16) := by kernel_rfl

theorem intV_snoc (k : IntKind) (l : List Int) (a : Int) : intV k (l ++ [a]) = intV k l ++ [.int k a] := by simp [intV]
theorem strV_snoc (l : List ByteArray) (a : ByteArray) : strV (l ++ [a]) = strV l ++ [.string a] := by simp [strV]

/-- A slice that the call owns, as the argument of a later call. -/
theorem own_slice {w : World} {base n : Nat} {e : TypeId} {v : Value} {xs : List Value} (h : w.ownsRow base e 1 v n xs) : ∃ A cap, v = .slice A n cap ∧ Cells w A xs := by
  rcases h.2 with ⟨rfl, rfl⟩ | ⟨g, cap, cur, rfl, hb, hg, hc⟩
  · exact ⟨none, 0, rfl, fun h0 => by have := h.1; omega⟩
  · refine ⟨some ⟨g, 0, none⟩, cap, rfl, fun h0 => ⟨g, 0, rfl, fun i u hu => ?_⟩⟩
    have := h.cells (g := g) rfl i u hu
    have ea : Addr.add ⟨g, 0, none⟩ i = ⟨g, 0 + i, none⟩ := by unfold Addr.add; by_cases h0 : i = 0 <;> simp [h0]
    rw [← ea]; exact this

theorem own_ne {w : World} {base n m : Nat} {e e' : TypeId} {v v' : Value} {xs ys : List Value} (h : w.ownsRow base e 1 v n xs) (h' : w.ownsRow base e' 1 v' m ys) (hne : e ≠ e') : v.ownBlock = none ∨ v.ownBlock ≠ v'.ownBlock := by
  rcases h.2 with ⟨rfl, _⟩ | ⟨g, cap, cur, rfl, _, hg, _⟩
  · exact .inl rfl
  · rcases h'.2 with ⟨rfl, _⟩ | ⟨g', cap', cur', rfl, _, hg', _⟩
    · exact .inr (by simp [Value.ownBlock])
    · refine .inr fun hx => ?_
      have e1 : g = g' := by simpa [Value.ownBlock] using hx
      subst e1
      exact Blk.ne_ (t := e) (t' := e') hg hg' hne rfl

set_option maxRecDepth 100000 in
set_option maxHeartbeats 2000000 in
theorem parts_yes (A cap : Nat) (g : Nat → Nat) (kc n : Nat) (f : Nat → Int) (c : Cur) (w : World) (hP : Parts w A g kc n f) (hk : Blk w kc 87 c.cells) (hn : n ≤ 1000) :
    Calls Tryd.prog 40 #[.slice (some ⟨A, 0, none⟩) n cap, .nilIface] w fun e w' => ∃ v1 v2, e = .returned (.tuple #[v1, v2, .bool true]) ∧ w'.ownsRow w.heap.size 2 1 v1 n (intV .i64 (intsF f n)) ∧ w'.ownsRow w.heap.size 9 1 v2 n (strV (strsN c.code n)) ∧ Below w.heap.size w w' := by
  obtain ⟨i0, hi, hz0, hz1, hz2⟩ := info_parts i64_info
  obtain ⟨j0, hj, hy0, hy1, hy2⟩ := info_parts str_info
  have HP := Lib.hid hP
  have HK := Lib.hid hk
  clear hP hk
  go_enter Tryd.func40, Tryd.ntmps40
  go_wp2
  go_loopw [7, 8, 15] (fun v1 v2 i wr => ∃ k : Nat, k ≤ n ∧ i = .int .i64 k ∧ Hid (wr.ownsRow w.heap.size 2 1 v1 k (intV .i64 (intsF f k))) ∧ Hid (wr.ownsRow w.heap.size 9 1 v2 k (strV (strsN c.code k))) ∧ Hid (Below w.heap.size w wr)) (fun _ _ i _ => n - (intOf i).toNat)
  case atStart => exact ⟨0, Nat.zero_le _, rfl, World.ownsRow_nil _ _ _ _, World.ownsRow_nil _ _ _ _, Below.refl _ _⟩
  case round =>
    obtain ⟨k, hk, rfl, HV1, HV2, HB⟩ := hrel
    by_cases hlt : k < n
    · have e1 := (HP.out.below HB.out).1 k hlt
      have HM := Lib.hid ((HP.out.below HB.out).2 k hlt)
      have e2 : wr.cell? ⟨kc, 0, none⟩ = some (.string c.code) := (HK.out.below HB.out HK.out.lt).cell 0
      have HW := Lib.hid (HK.out.below HB.out HK.out.lt)
      go_wp2_with fail
      refine (amount_any (f k) c (g k) _ ⟨kc, HM.out, HW.out⟩).mono ?_
      rintro e w2 ⟨rfl, hw2⟩
      obtain rfl := hw2.symm
      have hown1 := HV1.out
      go_wp2_with (at_builtin; refine wpList_append_own _ rfl _ _ 33 rfl w.heap.size 2 i0 (.int .i64 0) 1 8 Tryd.underlying33 hi hz0 hz1 hz2 rfl (by decide) _ _ _ rfl (hown1.alloc _) ⟨wr.heap.size, 0, none⟩ 1 1 [.int .i64 (f k)] rfl rfl ?c1 ?c2 ?c3 ?c4 ?c5 ?_)
      case c1 =>
        intro j u hj
        match j, hj with
        | 0, hj => simp at hj; subst hj; simp [Addr.add]
      case c2 => intro u hu; simp at hu; subst hu; rfl
      case c3 => unfold maxLen; omega
      case c4 => omega
      case c5 => have := HB.out.size; simp; omega
      intro v1' w3 hown1' hgrow1 _
      have HB3 := Lib.hid ((HB.out.alloc HB.out.size (.cells #[.int .i64 (f k)] 2)).grown hgrow1 (by have := HB.out.size; simp; omega) (fun q hq => (hown1.lt q hq).1))
      have HV2b := Lib.hid ((HV2.out.alloc (.cells #[.int .i64 (f k)] 2)).kept hgrow1 (own_ne HV2.out hown1 (by decide)))
      have HM3 := Lib.hid ((HP.out.below HB3.out).2 k hlt)
      have e3 : w3.cell? ⟨kc, 0, none⟩ = some (.string c.code) := (HK.out.below HB3.out HK.out.lt).cell 0
      have HV1n := Lib.hid hown1'
      clear e1 e2 hown1 hown1' hgrow1
      go_wp2_with fail
      refine (currency_any (f k) kc (g k) _ HM3.out).mono ?_
      rintro e w2 ⟨rfl, hw2⟩
      obtain rfl := hw2.symm
      have hown2 := HV2b.out
      go_wp2_with (at_builtin; refine wpList_append_own _ rfl _ _ 34 rfl w.heap.size 9 j0 (.string ⟨#[]⟩) 1 16 Tryd.underlying34 hj hy0 hy1 hy2 rfl (by decide) _ _ _ rfl (hown2.alloc _) ⟨w3.heap.size, 0, none⟩ 1 1 [.string c.code] rfl rfl ?d1 ?d2 ?d3 ?d4 ?d5 ?_)
      case d1 =>
        intro j u hj
        match j, hj with
        | 0, hj => simp at hj; subst hj; simp [Addr.add]
      case d2 => intro u hu; simp at hu; subst hu; rfl
      case d3 => unfold maxLen; omega
      case d4 => omega
      case d5 => have := HB3.out.size; simp; omega
      intro v2' w4 hown2' hgrow2 _
      have HB4 := Lib.hid ((HB3.out.alloc HB3.out.size (.cells #[.string c.code] 9)).grown hgrow2 (by have := HB3.out.size; simp; omega) (fun q hq => (hown2.lt q hq).1))
      have HV1f := Lib.hid ((HV1n.out.alloc (.cells #[.string c.code] 9)).kept hgrow2 (own_ne HV1n.out hown2 (by decide)))
      rw [← intV_snoc, ← intsF_succ] at HV1f
      rw [← strV_snoc, ← strsN_succ] at hown2'
      have HV2f := Lib.hid hown2'
      clear e3 hown2 hown2' hgrow2
      go_wp2
      exact ⟨⟨k + 1, by omega, by go_num, HV1f, HV2f, HB4⟩, by simp [intOf]; omega⟩
    · obtain rfl : k = n := by omega
      go_wp2
      go_ret3
      exact ⟨_, _, rfl, HV1.out, HV2.out, HB.out⟩

set_option maxHeartbeats 400000 in
theorem parts_no (v : Option Addr) (n cap : Nat) (t : TypeId) (u : Value) (w : World) :
    Calls Tryd.prog 40 #[.slice v n cap, .iface t u] w fun e w' => e = .returned (.tuple #[.slice none 0 0, .slice none 0 0, .bool false]) ∧ w' = w := by
  go_enter Tryd.func40, Tryd.ntmps40
  go_wp2
  go_ret3
  exact ⟨rfl, rfl⟩
end Go.Proofs.YteejhpoddpcahaaDoor
