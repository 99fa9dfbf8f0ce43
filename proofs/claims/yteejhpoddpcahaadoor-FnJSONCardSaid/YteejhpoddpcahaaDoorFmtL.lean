/- Texts as lists of bytes: the first of one byte put for a text, thousands set apart: plain laws. -/
import Derived.Lib.ItoaNum
import Derived.Laws.Strings2
namespace Go.Proofs.YteejhpoddpcahaaDoor
open Go

/-- The text of these bytes. -/
def ofL (l : List UInt8) : ByteArray := ⟨l.toArray⟩
theorem ofL_data (l : List UInt8) : (ofL l).data.toList = l := rfl
theorem ofL_of (s : ByteArray) : ofL s.data.toList = s := rfl
theorem ofL_size (l : List UInt8) : (ofL l).size = l.length := by
  show l.toArray.size = l.length
  simp
theorem ba_ext {a b : ByteArray} (h : a.data.toList = b.data.toList) : a = b := by
  obtain ⟨x⟩ := a
  obtain ⟨y⟩ := b
  exact congrArg ByteArray.mk (Array.toList_inj.1 h)
theorem ofL_append (a b : List UInt8) : ofL a ++ ofL b = ofL (a ++ b) := by
  apply ba_ext
  rw [ByteArray.data_append, Array.toList_append, ofL_data, ofL_data, ofL_data]
theorem ofL_extract (l : List UInt8) (i j : Nat) : (ofL l).extract i j = ofL ((l.drop i).take (j - i)) := ByteArray.extract_mk l i j

/-- x for the first c. -/
def putL (c : UInt8) (x : List UInt8) : List UInt8 → List UInt8
  | [] => []
  | b :: l => if b = c then x ++ l else b :: putL c x l
theorem putL_hit (c : UInt8) (x : List UInt8) : ∀ (l : List UInt8) (k : Nat), l[k]? = some c → (∀ i, i < k → l[i]? ≠ some c) → putL c x l = l.take k ++ x ++ l.drop (k + 1)
  | [], k, h, _ => by simp at h
  | b :: l, 0, h, _ => by
    have hb : b = c := by simpa using h
    unfold putL
    rw [if_pos hb]; simp
  | b :: l, k + 1, h, hn => by
    have hb : ¬ b = c := fun e => hn 0 (by omega) (by simp [e])
    have ih := putL_hit c x l k (by simpa using h) (fun i hi => by have := hn (i + 1) (by omega); simpa using this)
    unfold putL
    rw [if_neg hb, ih]; simp
theorem putL_miss (c : UInt8) (x : List UInt8) : ∀ (l : List UInt8), (∀ i, i < l.length → l[i]? ≠ some c) → putL c x l = l
  | [], _ => rfl
  | b :: l, hn => by
    have hb : ¬ b = c := fun e => hn 0 (by simp) (by simp [e])
    have ih := putL_miss c x l (fun i hi => by have := hn (i + 1) (by simpa using hi); simpa using this)
    unfold putL
    rw [if_neg hb, ih]
theorem putL_len (c : UInt8) (x : List UInt8) : ∀ (l : List UInt8), (putL c x l).length ≤ l.length + x.length
  | [] => by simp [putL]
  | b :: l => by
    unfold putL
    by_cases hb : b = c
    · rw [if_pos hb]; simp; omega
    · rw [if_neg hb]
      have := putL_len c x l
      simp; omega

/-- The last m bytes of w, with T between thousands (and ahead of them, unless they are all of w). -/
def grpL (T w : List UInt8) : Nat → List UInt8
  | 0 => []
  | m + 1 => (if m + 1 < w.length ∧ (m + 1) % 3 = 0 then T else []) ++ (w.drop (w.length - (m + 1))).take 1 ++ grpL T w m
theorem grpL_step (T w : List UInt8) (m : Nat) : grpL T w (m + 1) = (if m + 1 < w.length ∧ (m + 1) % 3 = 0 then T else []) ++ (w.drop (w.length - (m + 1))).take 1 ++ grpL T w m := rfl
theorem drop_one (w : List UInt8) (i : Nat) : (w.drop i).take 1 ++ w.drop (i + 1) = w.drop i := by
  rw [← List.drop_drop, List.take_append_drop]
theorem grpL_nil (w : List UInt8) : ∀ m, m ≤ w.length → grpL [] w m = w.drop (w.length - m)
  | 0, _ => by simp [grpL]
  | m + 1, h => by
    have ih := grpL_nil w m (by omega)
    rw [grpL_step, ih, show w.length - m = w.length - (m + 1) + 1 by omega, List.append_assoc, drop_one w _]
    simp
/-- One thousand more. -/
theorem grpL_three (T w : List UInt8) (m : Nat) (h : m + 3 < w.length) (hm : m % 3 = 0) : grpL T w (m + 3) = T ++ (w.drop (w.length - (m + 3))).take 3 ++ grpL T w m := by
  have e : (w.drop (w.length - (m + 3))).take 3 = (w.drop (w.length - (m + 3))).take 1 ++ ((w.drop (w.length - (m + 2))).take 1 ++ (w.drop (w.length - (m + 1))).take 1) := by
    rw [show w.length - (m + 2) = w.length - (m + 3) + 1 by omega, show w.length - (m + 1) = w.length - (m + 3) + 2 by omega]
    rw [← List.drop_drop, ← List.drop_drop]
    generalize hu : w.drop (w.length - (m + 3)) = u
    have hl : 3 ≤ u.length := by rw [← hu, List.length_drop]; omega
    match u, hl with
    | a :: b :: c :: r, _ => simp
  rw [grpL_step, grpL_step, grpL_step, if_pos ⟨by omega, by omega⟩, if_neg (by omega), if_neg (by omega), e]
  simp
/-- At most three bytes are left ahead of the thousands. -/
theorem grpL_end (T w : List UInt8) (p : Nat) (hp : p ≤ 3) (hw : p ≤ w.length) (hm : (w.length - p) % 3 = 0) : w.take p ++ grpL T w (w.length - p) = grpL T w w.length := by
  obtain ⟨m, hm'⟩ : ∃ m, m = w.length - p := ⟨_, rfl⟩
  have hwl : w.length = m + p := by omega
  rw [← hm'] at hm ⊢
  match p, hp with
  | 0, _ => rw [show w.length = m by omega]; simp
  | 1, _ =>
    conv => rhs; rw [show w.length = m + 1 by omega, grpL_step, if_neg (by omega), show w.length - (m + 1) = 0 by omega]
    simp
  | 2, _ =>
    conv => rhs; rw [show w.length = m + 1 + 1 by omega, grpL_step, grpL_step, if_neg (by omega), if_neg (by omega), show w.length - (m + 1 + 1) = 0 by omega, show w.length - (m + 1) = 1 by omega]
    match w, hwl with
    | a :: b :: r, _ => simp
    | [a], h => simp at h
    | [], h => simp at h
  | 3, _ =>
    conv => rhs; rw [show w.length = m + 1 + 1 + 1 by omega, grpL_step, grpL_step, grpL_step, if_neg (by omega), if_neg (by omega), if_neg (by omega), show w.length - (m + 1 + 1 + 1) = 0 by omega, show w.length - (m + 1 + 1) = 1 by omega, show w.length - (m + 1) = 2 by omega]
    match w, hwl with
    | a :: b :: c :: r, _ => simp
    | [a, b], h => simp at h
    | [a], h => simp at h
    | [], h => simp at h
theorem grpL_len (T w : List UInt8) : ∀ m, (grpL T w m).length ≤ m * (T.length + 1)
  | 0 => by simp [grpL]
  | m + 1 => by
    have ih := grpL_len T w m
    rw [grpL_step, List.length_append, List.length_append, Nat.succ_mul]
    have h1 : ((w.drop (w.length - (m + 1))).take 1).length ≤ 1 := List.length_take_le _ _
    have h2 : (if m + 1 < w.length ∧ (m + 1) % 3 = 0 then T else []).length ≤ T.length := by split <;> simp
    omega

/-- Of p's first W bytes the last m are set apart already, the first k are not. -/
def sepL (p T : List UInt8) (W k m : Nat) : List UInt8 := (p.take W).take k ++ grpL T (p.take W) m ++ p.drop W
theorem sepL_start (p T : List UInt8) (W : Nat) : sepL p T W W 0 = p := by
  unfold sepL grpL
  rw [List.take_take, Nat.min_self, List.append_nil, List.take_append_drop]
theorem sepL_step (p T : List UInt8) (W k m : Nat) (h : k + 3 + m = W) (hk : 0 < k) (hm : m % 3 = 0) (hW : W ≤ p.length) :
    (sepL p T W (k + 3) m).take k ++ T ++ (sepL p T W (k + 3) m).drop k = sepL p T W k (m + 3) := by
  unfold sepL
  have hl : (p.take W).length = W := by rw [List.length_take]; omega
  generalize hw : p.take W = w at *
  have e := grpL_three T w m (by omega) hm
  rw [e, show w.length - (m + 3) = k by omega]
  have hk3 : (w.take (k + 3)).length = k + 3 := by rw [List.length_take]; omega
  rw [List.append_assoc (w.take (k + 3)), List.take_append_of_le_length (by omega), List.drop_append_of_le_length (by omega), List.take_take, Nat.min_eq_left (by omega), List.drop_take]
  rw [show k + 3 - k = 3 by omega]
  simp
theorem sepL_end (p T : List UInt8) (W k m : Nat) (h : k + m = W) (hk : k ≤ 3) (hm : m % 3 = 0) (hW : W ≤ p.length) : sepL p T W k m = grpL T (p.take W) W ++ p.drop W := by
  unfold sepL
  have hl : (p.take W).length = W := by rw [List.length_take]; omega
  generalize hw : p.take W = w at *
  have e := grpL_end T w k hk (by omega) (by rw [show w.length - k = m by omega]; exact hm)
  rw [show w.length - k = m by omega, hl] at e
  rw [e]
theorem mul_small (m t W : Nat) (hm : m ≤ W) (hW : W ≤ 20) (ht : t ≤ 100) : m * (t + 1) ≤ 2020 := by
  have : m * (t + 1) ≤ 20 * 101 := Nat.mul_le_mul (by omega) (by omega)
  omega
theorem sepL_len (p T : List UInt8) (W k m : Nat) (h : k + m = W) (hW : W ≤ 20) (hT : T.length ≤ 100) (hp : p.length ≤ 40) : (sepL p T W k m).length ≤ 2100 := by
  unfold sepL
  have h1 := grpL_len T (p.take W) m
  have h2 := mul_small m T.length W (by omega) hW hT
  have h3 : ((p.take W).take k).length ≤ k := List.length_take_le _ _
  rw [List.length_append, List.length_append, List.length_drop]
  omega
theorem cut_in {q x : ByteArray} {l : List UInt8} (hq : q = ofL l) (k : Nat) : q.extract 0 k ++ x ++ q.extract k q.size = ofL (l.take k ++ x.data.toList ++ l.drop k) := by
  have hs : q.size = l.length := by rw [hq, ofL_size]
  rw [hs, hq, ofL_extract, ofL_extract, ← ofL_of x, ofL_append, ofL_append, ofL_data]
  congr 2
  rw [List.take_of_length_le]
  rw [List.length_drop]; omega

/-- The figures of n, at least one more than f. -/
def padL (n f : Nat) : List UInt8 := List.replicate (f + 1 - (Lib.decDigits n).length) 48 ++ Lib.decDigits n
theorem padL_length (n f : Nat) : (padL n f).length = max (f + 1) (Lib.decDigits n).length := by
  unfold padL; rw [List.length_append, List.length_replicate]; omega
/-- The number as text: figures, thousands, the point. -/
def numL (n f : Nat) (D T : List UInt8) : List UInt8 :=
  grpL T ((padL n f).take ((padL n f).length - f)) ((padL n f).length - f) ++ if 0 < f then D ++ (padL n f).drop ((padL n f).length - f) else []
theorem grpL_nilT (p : List UInt8) (W : Nat) (hW : W ≤ p.length) : grpL [] (p.take W) W ++ p.drop W = p := by
  have hl : (p.take W).length = W := by rw [List.length_take]; omega
  rw [grpL_nil (p.take W) W (by omega), hl, Nat.sub_self, List.drop_zero, List.take_append_drop]
theorem numL_zero (n : Nat) (D T : List UInt8) (W : Nat) (h : (padL n 0).length = W) : numL n 0 D T = grpL T ((padL n 0).take W) W ++ (padL n 0).drop W := by
  unfold numL
  rw [h, if_neg (by omega), show W - 0 = W by omega, List.drop_eq_nil_of_le (show (padL n 0).length ≤ W by omega)]
theorem numL_pos (n f : Nat) (D T : List UInt8) (W : Nat) (h : (padL n f).length = W + f) (hf : 0 < f) (A : Nat) (hA : (grpL T ((padL n f).take W) W).length = A) :
    numL n f D T = (grpL T ((padL n f).take W) W ++ (padL n f).drop W).take A ++ D ++ (grpL T ((padL n f).take W) W ++ (padL n f).drop W).drop A := by
  unfold numL
  rw [h, if_pos hf, show W + f - f = W by omega]
  generalize grpL T ((padL n f).take W) W = G at *
  have e1 : G.take A = G := List.take_of_length_le (by omega)
  have e2 : G.drop A = [] := List.drop_eq_nil_of_le (by omega)
  rw [List.take_append_of_le_length (by omega), List.drop_append_of_le_length (by omega), e1, e2]
  simp
/-- An amount as text. -/
def fmtL (f : Nat) (D T G M : List UInt8) (a : Int) : List UInt8 :=
  (if a < 0 then [45] else []) ++ putL 36 G (putL 49 (numL a.natAbs f D T) M)
end Go.Proofs.YteejhpoddpcahaaDoor
