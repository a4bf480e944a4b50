/-
  THE PLAIN LAW OF THE RENDERED TEXT: digits of V, padded to W, a point ahead of the last k.
-/
import Derived.Test.Qxb6602879aModsCoef
namespace Go.Proofs.Qxb6602879aMods.Dec
open Go.RowKit

def dg (V j : Nat) : Nat := V / 10 ^ j % 10
theorem dg_lt (V j : Nat) : dg V j < 10 := Nat.mod_lt _ (by omega)
theorem div_step (V e : Nat) : V / 10 ^ (e + 1) = V / 10 ^ e / 10 := by rw [Nat.pow_succ, Nat.div_div_eq_div_mul]
theorem dg_step (V e : Nat) : V / 10 ^ e = V / 10 ^ (e + 1) * 10 + dg V e := by
  rw [div_step]; unfold dg; omega
theorem dg_zero {V m j : Nat} (h : V < 10 ^ m) (hj : m ≤ j) : dg V j = 0 := by
  have : 10 ^ m ≤ 10 ^ j := Nat.pow_le_pow_right (by omega) hj
  unfold dg; rw [Nat.div_eq_of_lt (by omega)]

/-- The byte that stands for place i, counted from the left. -/
def ch (V W i : Nat) : Nat := 48 + dg V (W - 1 - i)
/-- The text behind i places; q: how many places stand ahead of the point. -/
def T (V W k q i : Nat) : List Nat :=
  if 0 < k ∧ q < i then (List.range q).map (ch V W) ++ 46 :: (List.range (i - q)).map (fun j => ch V W (q + j)) else (List.range i).map (ch V W)
theorem T_zero (V W k q : Nat) : T V W k q 0 = [] := by unfold T; rw [if_neg (by omega)]; rfl
theorem T_plain {V W k q i : Nat} (h : ¬ (0 < k ∧ i = q)) : T V W k q (i + 1) = T V W k q i ++ [ch V W i] := by
  unfold T
  by_cases h1 : 0 < k ∧ q < i
  · rw [if_pos (by omega), if_pos h1, show i + 1 - q = (i - q) + 1 by omega, List.range_succ, List.map_append, List.map_singleton, show q + (i - q) = i by omega]
    simp
  · rw [if_neg (by omega), if_neg h1, List.range_succ, List.map_append, List.map_singleton]
theorem T_point {V W k q : Nat} (h : 0 < k) : T V W k q (q + 1) = T V W k q q ++ [46] ++ [ch V W q] := by
  unfold T
  rw [if_pos (by omega), if_neg (by omega), show q + 1 - q = 1 by omega]
  simp [List.range_succ]
theorem length_T (V W k q i : Nat) : (T V W k q i).length = if 0 < k ∧ q < i then i + 1 else i := by
  unfold T
  by_cases h1 : 0 < k ∧ q < i
  · rw [if_pos h1, if_pos h1]; simp; omega
  · rw [if_neg h1, if_neg h1]; simp
theorem T_small (V W k q i : Nat) : ∀ x ∈ T V W k q i, x < 256 := by
  intro x hx
  have hch : ∀ j, ch V W j < 256 := fun j => by unfold ch; have := dg_lt V (W - 1 - j); omega
  unfold T at hx
  split at hx
  · simp only [List.mem_append, List.mem_map, List.mem_cons] at hx
    rcases hx with ⟨j, _, rfl⟩ | rfl | ⟨j, _, rfl⟩
    · exact hch _
    · omega
    · exact hch _
  · obtain ⟨j, _, rfl⟩ := List.mem_map.1 hx
    exact hch _

/-- What is known of the bytes of the whole text. -/
structure Txt (f : Nat → Int) (V W k q n : Nat) : Prop where
  sum : q + k = W
  pos : 0 < q
  len : n = if 0 < k then W + 1 else W
  lt : ∀ j, j < q → f j = (ch V W j : Int)
  hit : 0 < k → f q = 46
  gt : ∀ j, q < j → j < n → f j = (ch V W (j - 1) : Int)
  big : V < 10 ^ W
theorem Txt_of {f : Nat → Int} {V W k q : Nat} (h1 : q + k = W) (h2 : 0 < q) (hV : V < 10 ^ W) (hf : ∀ (j x : Nat), (T V W k q W)[j]? = some x → f j = (x : Int)) : Txt f V W k q (T V W k q W).length := by
  have hlen := length_T V W k q W
  refine ⟨h1, h2, ?_, ?_, ?_, ?_, hV⟩
  · rw [hlen]
    by_cases hk : 0 < k
    · rw [if_pos (by omega), if_pos hk]
    · rw [if_neg (by omega), if_neg hk]
  · intro j hj
    refine hf j _ ?_
    unfold T
    by_cases hk : 0 < k ∧ q < W
    · rw [if_pos hk, List.getElem?_append_left (by simpa using hj)]; simp [hj]
    · rw [if_neg hk]; simp [show j < W by omega]
  · intro hk
    refine hf q 46 ?_
    unfold T
    rw [if_pos (by omega), List.getElem?_append_right (by simp)]; simp
  · intro j hj hjn
    rw [hlen] at hjn
    by_cases hk : 0 < k ∧ q < W
    · rw [if_pos hk] at hjn
      refine hf j _ ?_
      unfold T
      rw [if_pos hk, List.getElem?_append_right (by simp; omega)]
      simp only [List.length_map, List.length_range]
      rw [show j - q = (j - q - 1) + 1 by omega, List.getElem?_cons_succ]
      rw [List.getElem?_map, List.getElem?_range (by omega)]
      simp only [Option.map_some]
      rw [show q + (j - q - 1) = j - 1 by omega]
    · rw [if_neg hk] at hjn; omega

theorem Txt.dig {f : Nat → Int} {V W k q n : Nat} (h : Txt f V W k q n) : ∀ i, i < n → i ≠ q → 48 ≤ f i ∧ f i ≤ 57 := by
  intro i hi hne
  have hc : ∀ j, 48 ≤ (ch V W j : Int) ∧ (ch V W j : Int) ≤ 57 := fun j => by unfold ch; have := dg_lt V (W - 1 - j); omega
  by_cases e : i < q
  · rw [h.lt i e]; exact hc _
  · rw [h.gt i (by omega) hi]; exact hc _
theorem Txt.qn {f : Nat → Int} {V W k q n : Nat} (h : Txt f V W k q n) : q ≤ n ∧ (q < n ↔ 0 < k) ∧ n ≤ W + 1 := by
  have h1 := h.len
  have h2 := h.sum
  by_cases hk : 0 < k
  · rw [if_pos hk] at h1; omega
  · rw [if_neg hk] at h1; omega
theorem Txt.isFp {f : Nat → Int} {V W k q n : Nat} (h : Txt f V W k q n) : IsFp f n q := by
  obtain ⟨h1, h2, h3⟩ := h.qn
  refine ⟨h1, fun j hj => ?_, fun hq => h.hit (h2.1 hq)⟩
  have := h.dig j (by omega) (by omega)
  omega
theorem Txt.good {f : Nat → Int} {V W k q n : Nat} (h : Txt f V W k q n) : Good f n q := by
  obtain ⟨h1, h2, h3⟩ := h.qn
  have h4 := h.pos
  have h5 := h.len
  have h6 := h.sum
  refine ⟨by omega, h.dig, fun hq => ⟨h4, ?_⟩⟩
  have hk := h2.1 hq
  rw [if_pos hk] at h5; omega
theorem Txt.cn {f : Nat → Int} {V W k q n : Nat} (h : Txt f V W k q n) : Dec.cn q n = W := by
  obtain ⟨h1, h2, h3⟩ := h.qn
  have h5 := h.len
  have h6 := h.sum
  unfold Dec.cn
  by_cases hk : 0 < k
  · rw [if_pos hk] at h5; rw [if_pos (h2.2 hk)]; omega
  · rw [if_neg hk] at h5; rw [if_neg (fun e => hk (h2.1 e))]; omega
theorem Txt.frac {f : Nat → Int} {V W k q n : Nat} (h : Txt f V W k q n) : n - q - 1 = k := by
  have h5 := h.len
  have h6 := h.sum
  by_cases hk : 0 < k
  · rw [if_pos hk] at h5; omega
  · rw [if_neg hk] at h5; omega
theorem Txt.val_lt {f : Nat → Int} {V W k q n : Nat} (h : Txt f V W k q n) : ∀ j, j ≤ q → val f j = ((V / 10 ^ (W - j) : Nat) : Int) := by
  intro j
  have hs := h.sum
  induction j with
  | zero => intro _; rw [Nat.sub_zero, Nat.div_eq_of_lt h.big]; rfl
  | succ j ih =>
    intro hj
    have e := h.lt j (by omega)
    have hd := dg_lt V (W - 1 - j)
    simp only [val]
    rw [if_neg (by rw [e]; unfold ch; omega), ih (by omega), e]
    have := dg_step V (W - (j + 1))
    rw [show W - (j + 1) + 1 = W - j by omega] at this
    unfold ch
    rw [show W - 1 - j = W - (j + 1) by omega]
    omega
theorem Txt.val_gt {f : Nat → Int} {V W k q n : Nat} (h : Txt f V W k q n) (hk : 0 < k) : ∀ j, q + 1 + j ≤ W + 1 → val f (q + 1 + j) = ((V / 10 ^ (W - q - j) : Nat) : Int) := by
  intro j
  have hs := h.sum
  have hn := h.len
  rw [if_pos hk] at hn
  induction j with
  | zero =>
    intro _
    simp only [val]
    rw [if_pos (h.hit hk), h.val_lt q (Nat.le_refl _), Nat.sub_zero]
  | succ j ih =>
    intro hj
    have e := h.gt (q + 1 + j) (by omega) (by omega)
    have hd := dg_lt V (W - 1 - (q + j))
    rw [show q + 1 + (j + 1) = (q + 1 + j) + 1 by omega]
    simp only [val]
    rw [show q + 1 + j - 1 = q + j by omega] at e
    rw [if_neg (by rw [e]; unfold ch; omega), ih (by omega), e]
    have := dg_step V (W - q - (j + 1))
    rw [show W - q - (j + 1) + 1 = W - q - j by omega] at this
    unfold ch
    rw [show W - 1 - (q + j) = W - q - (j + 1) by omega]
    omega
theorem Txt.value {f : Nat → Int} {V W k q n : Nat} (h : Txt f V W k q n) : val f n = (V : Int) := by
  have hs := h.sum
  have hn := h.len
  by_cases hk : 0 < k
  · rw [if_pos hk] at hn
    have := h.val_gt hk k (by omega)
    rw [show q + 1 + k = n by omega, show W - q - k = 0 by omega] at this
    simpa using this
  · rw [if_neg hk] at hn
    have := h.val_lt q (Nat.le_refl _)
    rw [show q = n by omega, show W - n = 0 by omega] at this
    simpa using this
end Go.Proofs.Qxb6602879aMods.Dec
