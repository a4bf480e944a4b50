/-
  THE PLAIN LAW OF THE RADIX SORT: no Go in sight. Records with an offset; one pass of a bucket sort by one byte of the offset; eight passes sort by the whole offset, keeping the order of equal offsets.
-/
namespace Go.Proofs.Qxb6600586aMods.SortPlain

structure Blk where
  off : Int
  n : Int
  r : Int
  g : Bool
  m : Int
  t : Int

/-- The byte number d of the offset. -/
def key (d : Nat) (x : Blk) : Nat := (x.off / 2 ^ (8 * d) % 256).toNat
theorem key_lt (d : Nat) (x : Blk) : key d x < 256 := by unfold key; omega

/-- The records whose byte d is v, in their order. -/
def bucket (d v : Nat) (rs : List Blk) : List Blk := rs.filter fun x => key d x == v
def cnt (d v : Nat) (rs : List Blk) : Nat := (bucket d v rs).length
/-- Where bucket v begins. -/
def beg (d : Nat) (rs : List Blk) : Nat → Nat
  | 0 => 0
  | v + 1 => beg d rs v + cnt d v rs
/-- The first m buckets, one behind the other. -/
def passTo (d : Nat) (rs : List Blk) : Nat → List Blk
  | 0 => []
  | v + 1 => passTo d rs v ++ bucket d v rs
def pass (d : Nat) (rs : List Blk) : List Blk := passTo d rs 256

theorem length_passTo (d : Nat) (rs : List Blk) (m : Nat) : (passTo d rs m).length = beg d rs m := by
  induction m with
  | zero => rfl
  | succ m ih => simp [passTo, beg, ih, cnt]

theorem passTo_perm (d : Nat) (rs : List Blk) (m : Nat) : (passTo d rs m).Perm (rs.filter fun x => decide (key d x < m)) := by
  induction m with
  | zero => simp [passTo]
  | succ m ih =>
    have h := List.filter_append_perm (fun x => decide (key d x < m)) (rs.filter fun x => decide (key d x < m + 1))
    rw [List.filter_filter, List.filter_filter] at h
    have e1 : (rs.filter fun x => decide (key d x < m) && decide (key d x < m + 1)) = rs.filter fun x => decide (key d x < m) := by
      apply List.filter_congr; intro x _; rw [Bool.eq_iff_iff]; simp; omega
    have e2 : (rs.filter fun x => !decide (key d x < m) && decide (key d x < m + 1)) = bucket d m rs := by
      unfold bucket; apply List.filter_congr; intro x _; rw [Bool.eq_iff_iff]; simp; omega
    rw [e1, e2] at h
    exact (List.Perm.append_right _ ih).trans h

theorem pass_perm (d : Nat) (rs : List Blk) : (pass d rs).Perm rs := by
  have h := passTo_perm d rs 256
  rw [List.filter_eq_self.2 (fun x _ => by simp [key_lt])] at h
  exact h

theorem beg_256 (d : Nat) (rs : List Blk) : beg d rs 256 = rs.length := by
  rw [← length_passTo]; exact (pass_perm d rs).length_eq

theorem beg_mono (d : Nat) (rs : List Blk) {u v : Nat} (h : u ≤ v) : beg d rs u ≤ beg d rs v := by
  induction v with
  | zero => obtain rfl : u = 0 := by omega
            exact Nat.le_refl _
  | succ v ih =>
    by_cases e : u = v + 1
    · subst e; exact Nat.le_refl _
    · have := ih (by omega); simp only [beg]; omega

theorem beg_cnt_le (d : Nat) (rs : List Blk) {u v : Nat} (h : u < v) : beg d rs u + cnt d u rs ≤ beg d rs v :=
  beg_mono d rs (u := u + 1) h

theorem cnt_perm {d v : Nat} {rs rs' : List Blk} (h : rs.Perm rs') : cnt d v rs = cnt d v rs' := (h.filter _).length_eq

theorem take_snoc (rs : List Blk) (k : Nat) (x : Blk) (h : rs[k]? = some x) : rs.take (k + 1) = rs.take k ++ [x] := by
  obtain ⟨hk, hx⟩ := List.getElem?_eq_some_iff.1 h
  rw [List.take_succ_eq_append_getElem hk, hx]

theorem bucket_snoc_hit (d : Nat) (rs : List Blk) (k : Nat) (x : Blk) (h : rs[k]? = some x) : bucket d (key d x) (rs.take (k + 1)) = bucket d (key d x) (rs.take k) ++ [x] := by
  rw [take_snoc rs k x h, bucket, List.filter_append]; simp [bucket]
theorem bucket_snoc_miss (d v : Nat) (rs : List Blk) (k : Nat) (x : Blk) (h : rs[k]? = some x) (hv : v ≠ key d x) : bucket d v (rs.take (k + 1)) = bucket d v (rs.take k) := by
  rw [take_snoc rs k x h, bucket, List.filter_append]
  have : (key d x == v) = false := by simp; omega
  simp [bucket, this]
theorem cnt_snoc_hit (d : Nat) (rs : List Blk) (k : Nat) (x : Blk) (h : rs[k]? = some x) : cnt d (key d x) (rs.take (k + 1)) = cnt d (key d x) (rs.take k) + 1 := by
  simp [cnt, bucket_snoc_hit d rs k x h]
theorem cnt_snoc_miss (d v : Nat) (rs : List Blk) (k : Nat) (x : Blk) (h : rs[k]? = some x) (hv : v ≠ key d x) : cnt d v (rs.take (k + 1)) = cnt d v (rs.take k) := by
  simp [cnt, bucket_snoc_miss d v rs k x h hv]
theorem cnt_le_take (d v : Nat) (rs : List Blk) (k : Nat) : cnt d v (rs.take k) ≤ cnt d v rs := by
  exact ((List.take_sublist k rs).filter _).length_le
theorem cnt_le_length (d v : Nat) (rs : List Blk) : cnt d v rs ≤ rs.length := List.length_filter_le _ _
theorem cnt_lt (d : Nat) (rs : List Blk) (k : Nat) (x : Blk) (h : rs[k]? = some x) : cnt d (key d x) (rs.take k) < cnt d (key d x) rs := by
  have h1 := cnt_snoc_hit d rs k x h
  have h2 := cnt_le_take d (key d x) rs (k + 1)
  omega
theorem pos_lt (d : Nat) (rs : List Blk) (k : Nat) (x : Blk) (h : rs[k]? = some x) : beg d rs (key d x) + cnt d (key d x) (rs.take k) < rs.length := by
  have h1 := cnt_lt d rs k x h
  have h2 := beg_cnt_le d rs (key_lt d x)
  rw [beg_256] at h2
  omega

/-! ### The counts, as a function of the place in the table of eight rows of 256 -/
def C1 (rs : List Blk) (k j : Nat) (c : Nat → Int) : Prop := ∀ d v, d < 8 → v < 256 → c (d * 256 + v) = (cnt d v (rs.take (if d < j then k + 1 else k)) : Int)
def C3 (rs : List Blk) (d : Nat) (c : Nat → Int) : Prop := ∀ e v, d ≤ e → e < 8 → v < 256 → c (e * 256 + v) = (cnt e v rs : Int)
def C4 (rs : List Blk) (d i : Nat) (c : Nat → Int) : Prop := (∀ v, v < 256 → c (d * 256 + v) = if v < i then (beg d rs v : Int) else (cnt d v rs : Int)) ∧ C3 rs (d + 1) c
def C5 (rs : List Blk) (d k : Nat) (c : Nat → Int) : Prop := (∀ v, v < 256 → c (d * 256 + v) = (beg d rs v : Int) + (cnt d v (rs.take k) : Int)) ∧ C3 rs (d + 1) c
def upd (c : Nat → Int) (i : Nat) (x : Int) : Nat → Int := fun j => if j = i then x else c j

theorem upd_same (c : Nat → Int) (i : Nat) (x : Int) : upd c i x i = x := by simp [upd]
theorem upd_other (c : Nat → Int) (i j : Nat) (x : Int) (h : j ≠ i) : upd c i x j = c j := by simp [upd, h]

theorem C1_start (rs : List Blk) (c : Nat → Int) (h : ∀ i, c i = 0) : C1 rs 0 0 c := by
  intro d v hd hv; rw [h]; simp [cnt, bucket]
theorem C1_step {rs : List Blk} {k j : Nat} {c : Nat → Int} (h : C1 rs k j c) (x : Blk) (hx : rs[k]? = some x) (hj : j < 8) :
    C1 rs k (j + 1) (upd c (j * 256 + key j x) (c (j * 256 + key j x) + 1)) := by
  intro d v hd hv
  have hk := key_lt j x
  by_cases e : d * 256 + v = j * 256 + key j x
  · obtain ⟨rfl, rfl⟩ : d = j ∧ v = key j x := by omega
    rw [upd_same, h d _ hd hv, if_neg (by omega), if_pos (by omega), cnt_snoc_hit d rs k x hx]; omega
  · rw [upd_other _ _ _ _ e, h d v hd hv]
    by_cases hdj : d < j
    · rw [if_pos hdj, if_pos (by omega)]
    · rw [if_neg hdj]
      by_cases hd2 : d = j
      · subst hd2
        rw [if_pos (by omega), cnt_snoc_miss d v rs k x hx (by intro q; apply e; rw [q])]
      · rw [if_neg (by omega)]
theorem C1_next {rs : List Blk} {k : Nat} {c : Nat → Int} (h : C1 rs k 8 c) : C1 rs (k + 1) 0 c := by
  intro d v hd hv; rw [h d v hd hv, if_pos hd, if_neg (by omega)]
theorem C1_done {rs : List Blk} {c : Nat → Int} (h : C1 rs rs.length 0 c) : C3 rs 0 c := by
  intro d v _ hd hv; rw [h d v hd hv, if_neg (by omega), List.take_length]

theorem C3_perm {rs rs' : List Blk} {d : Nat} {c : Nat → Int} (h : C3 rs d c) (hp : rs.Perm rs') : C3 rs' d c := by
  intro e v he he8 hv; rw [h e v he he8 hv, cnt_perm hp]
theorem C3_mono {rs : List Blk} {d : Nat} {c : Nat → Int} (h : C3 rs d c) : C3 rs (d + 1) c := fun e v he he8 hv => h e v (by omega) he8 hv
theorem C3_upd {rs : List Blk} {d : Nat} {c : Nat → Int} (h : C3 rs (d + 1) c) (v : Nat) (hv : v < 256) (x : Int) : C3 rs (d + 1) (upd c (d * 256 + v) x) := by
  intro e u he he8 hu
  rw [upd_other _ _ _ _ (by omega)]; exact h e u he he8 hu

theorem C4_start {rs : List Blk} {d : Nat} {c : Nat → Int} (h : C3 rs d c) (hd : d < 8) : C4 rs d 0 c :=
  ⟨fun v hv => by rw [if_neg (by omega)]; exact h d v (Nat.le_refl _) hd hv, C3_mono h⟩
theorem C4_at {rs : List Blk} {d i : Nat} {c : Nat → Int} (h : C4 rs d i c) (hi : i < 256) : c (d * 256 + i) = (cnt d i rs : Int) := by
  rw [h.1 i hi, if_neg (by omega)]
theorem C4_step {rs : List Blk} {d i : Nat} {c : Nat → Int} (h : C4 rs d i c) (hi : i < 256) : C4 rs d (i + 1) (upd c (d * 256 + i) (beg d rs i : Int)) := by
  refine ⟨fun v hv => ?_, C3_upd h.2 i hi _⟩
  by_cases e : v = i
  · subst e; rw [upd_same, if_pos (by omega)]
  · rw [upd_other _ _ _ _ (by omega), h.1 v hv]
    by_cases hv' : v < i
    · rw [if_pos hv', if_pos (by omega)]
    · rw [if_neg hv', if_neg (by omega)]
theorem C4_done {rs : List Blk} {d : Nat} {c : Nat → Int} (h : C4 rs d 256 c) : C5 rs d 0 c := by
  refine ⟨fun v hv => ?_, h.2⟩
  rw [h.1 v hv, if_pos hv]; simp [cnt, bucket]
theorem C5_step {rs : List Blk} {d k : Nat} {c : Nat → Int} (h : C5 rs d k c) (x : Blk) (hx : rs[k]? = some x) :
    C5 rs d (k + 1) (upd c (d * 256 + key d x) ((beg d rs (key d x) : Int) + (cnt d (key d x) (rs.take k) : Int) + 1)) := by
  refine ⟨fun v hv => ?_, C3_upd h.2 _ (key_lt d x) _⟩
  by_cases e : v = key d x
  · subst e; rw [upd_same, cnt_snoc_hit d rs k x hx]; omega
  · rw [upd_other _ _ _ _ (by omega), h.1 v hv, cnt_snoc_miss d v rs k x hx e]

/-! ### The records laid down so far in the other array -/
structure Bs (rs : List Blk) (d k : Nat) (bs : List Blk) : Prop where
  len : bs.length = rs.length
  at_ : ∀ (v t : Nat) (x : Blk), (bucket d v (rs.take k))[t]? = some x → bs[beg d rs v + t]? = some x

theorem Bs_start {rs bs : List Blk} {d : Nat} (h : bs.length = rs.length) : Bs rs d 0 bs := ⟨h, fun v t x hx => by simp [bucket] at hx⟩
theorem Bs_step {rs bs : List Blk} {d k : Nat} (h : Bs rs d k bs) (x : Blk) (hx : rs[k]? = some x) :
    Bs rs d (k + 1) (bs.set (beg d rs (key d x) + cnt d (key d x) (rs.take k)) x) := by
  have hpos := pos_lt d rs k x hx
  refine ⟨by simpa using h.len, fun v t y hy => ?_⟩
  by_cases e : v = key d x
  · subst e
    rw [bucket_snoc_hit d rs k x hx] at hy
    by_cases ht : t < (bucket d (key d x) (rs.take k)).length
    · rw [List.getElem?_append_left ht] at hy
      have := h.at_ _ t y hy
      rw [List.getElem?_set_ne (by unfold cnt; omega)]; exact this
    · rw [List.getElem?_append_right (by omega)] at hy
      obtain ⟨h0, h1⟩ := List.getElem?_eq_some_iff.1 hy
      have ht2 : t = (bucket d (key d x) (rs.take k)).length := by simp at h0; omega
      subst ht2
      simp at h1
      subst h1
      rw [show beg d rs (key d x) + (bucket d (key d x) (rs.take k)).length = beg d rs (key d x) + cnt d (key d x) (rs.take k) from rfl]
      rw [List.getElem?_set_self (by rw [h.len]; exact hpos)]
  · rw [bucket_snoc_miss d v rs k x hx e] at hy
    have ht : t < cnt d v (rs.take k) := (List.getElem?_eq_some_iff.1 hy).1
    have hc := cnt_le_take d v rs k
    have hx2 := cnt_lt d rs k x hx
    have := h.at_ v t y hy
    rw [List.getElem?_set_ne ?_]
    · exact this
    · rcases Nat.lt_or_gt_of_ne e with hlt | hgt
      · have := beg_cnt_le d rs hlt; omega
      · have := beg_cnt_le d rs hgt; omega
theorem Bs_done {rs bs : List Blk} {d : Nat} (h : Bs rs d rs.length bs) : bs = pass d rs := by
  have hm : ∀ m, m ≤ 256 → bs.take (beg d rs m) = passTo d rs m := by
    intro m
    induction m with
    | zero => intro _; simp [beg, passTo]
    | succ m ih =>
      intro hle
      have hi := ih (by omega)
      have hlen : beg d rs (m + 1) ≤ bs.length := by rw [h.len, ← beg_256 d rs]; exact beg_mono d rs hle
      simp only [passTo, beg]
      rw [List.take_add, hi]
      congr 1
      apply List.ext_getElem?
      intro t
      simp only [beg] at hlen
      by_cases ht : t < cnt d m rs
      · have hb : (bucket d m rs)[t]? = some ((bucket d m rs)[t]'ht) := List.getElem?_eq_getElem ht
        have := h.at_ m t _ (by rw [List.take_length]; exact hb)
        rw [hb, List.getElem?_take_of_lt ht, List.getElem?_drop, this]
      · rw [List.getElem?_eq_none (by simp; omega), List.getElem?_eq_none (by unfold cnt at ht; omega)]
  have := hm 256 (Nat.le_refl _)
  rw [beg_256, ← h.len, List.take_length] at this
  exact this

/-! ### The order -/
/-- x before y by the low d bytes of the offset, then by r. -/
def Lt (d : Nat) (x y : Blk) : Prop := x.off % 2 ^ (8 * d) < y.off % 2 ^ (8 * d) ∨ (x.off % 2 ^ (8 * d) = y.off % 2 ^ (8 * d) ∧ x.r < y.r)

theorem split_mod (a : Int) (d : Nat) : a % 2 ^ (8 * (d + 1)) = a % 2 ^ (8 * d) + 2 ^ (8 * d) * (a / 2 ^ (8 * d) % 256) := by
  have e : (2 : Int) ^ (8 * (d + 1)) = 2 ^ (8 * d) * 256 := by rw [show 8 * (d + 1) = 8 * d + 8 by omega, Int.pow_add]; rfl
  have q : (0 : Int) < 2 ^ (8 * d) := Int.pow_pos (by omega)
  rw [e]
  generalize (2 : Int) ^ (8 * d) = Q at q
  have h1 := Int.mul_ediv_add_emod a Q
  have h2 := Int.mul_ediv_add_emod (a / Q) 256
  have a1 := Int.emod_lt_of_pos a q
  have a2 := Int.emod_nonneg a (Int.ne_of_gt q)
  have b1 : a / Q % 256 ≤ 255 := by omega
  have b2 : 0 ≤ a / Q % 256 := by omega
  have c1 : Q * (a / Q % 256) ≤ Q * 255 := Int.mul_le_mul_of_nonneg_left b1 (by omega)
  have c2 : 0 ≤ Q * (a / Q % 256) := Int.mul_nonneg (by omega) b2
  have h3 : a = (a % Q + Q * (a / Q % 256)) + Q * 256 * (a / Q / 256) := by
    have h4 : Q * (a / Q) = Q * (256 * (a / Q / 256) + a / Q % 256) := by rw [h2]
    rw [Int.mul_add, ← Int.mul_assoc] at h4
    omega
  have h5 : a % (Q * 256) = ((a % Q + Q * (a / Q % 256)) + Q * 256 * (a / Q / 256)) % (Q * 256) := by rw [← h3]
  rw [h5, Int.add_mul_emod_self_left, Int.emod_eq_of_lt (by omega) (by omega)]

theorem key_eq (d : Nat) (x : Blk) : x.off / 2 ^ (8 * d) % 256 = (key d x : Int) := by unfold key; omega

theorem Lt_same {d : Nat} {x y : Blk} (h : Lt d x y) (hk : key d x = key d y) : Lt (d + 1) x y := by
  unfold Lt at *
  rw [split_mod, split_mod, key_eq, key_eq, hk]
  omega
theorem Lt_less {d : Nat} {x y : Blk} (hk : key d x < key d y) : Lt (d + 1) x y := by
  unfold Lt
  rw [split_mod, split_mod, key_eq, key_eq]
  left
  have q : (0 : Int) < 2 ^ (8 * d) := Int.pow_pos (by omega)
  have a1 := Int.emod_lt_of_pos x.off q
  have a2 := Int.emod_nonneg y.off (Int.ne_of_gt q)
  have a3 : (2 : Int) ^ (8 * d) * ((key d x : Int) + 1) ≤ 2 ^ (8 * d) * (key d y : Int) := Int.mul_le_mul_of_nonneg_left (by omega) (by omega)
  rw [Int.mul_add, Int.mul_one] at a3
  omega

theorem passTo_sorted {d : Nat} {rs : List Blk} (h : rs.Pairwise (Lt d)) (m : Nat) : (passTo d rs m).Pairwise (Lt (d + 1)) ∧ ∀ x ∈ passTo d rs m, key d x < m := by
  induction m with
  | zero => simp [passTo]
  | succ m ih =>
    refine ⟨?_, ?_⟩
    · simp only [passTo]
      refine List.pairwise_append.2 ⟨ih.1, ?_, ?_⟩
      · have h1 := h.sublist (List.filter_sublist (p := fun x => key d x == m))
        refine h1.imp_of_mem ?_
        intro a b ha hb hab
        have ka : key d a = m := by simpa using (List.mem_filter.1 ha).2
        have kb : key d b = m := by simpa using (List.mem_filter.1 hb).2
        exact Lt_same hab (ka.trans kb.symm)
      · intro a ha b hb
        have ka := ih.2 a ha
        have kb : key d b = m := by simpa using (List.mem_filter.1 hb).2
        exact Lt_less (by omega)
    · intro x hx
      simp only [passTo, List.mem_append] at hx
      rcases hx with hx | hx
      · have := ih.2 x hx; omega
      · have kb : key d x = m := by simpa using (List.mem_filter.1 hx).2
        omega
theorem pass_sorted {d : Nat} {rs : List Blk} (h : rs.Pairwise (Lt d)) : (pass d rs).Pairwise (Lt (d + 1)) := (passTo_sorted h 256).1
theorem skip_sorted {d : Nat} {rs : List Blk} (h : rs.Pairwise (Lt d)) (v : Nat) (hc : cnt d v rs = rs.length) : rs.Pairwise (Lt (d + 1)) := by
  have ha : ∀ x ∈ rs, key d x = v := by
    have := List.length_filter_eq_length_iff.1 hc
    intro x hx; simpa using this x hx
  refine h.imp_of_mem ?_
  intro a b ha' hb' hab
  exact Lt_same hab ((ha a ha').trans (ha b hb').symm)
theorem sorted_start {rs : List Blk} (h : rs.Pairwise fun x y => x.r < y.r) : rs.Pairwise (Lt 0) := by
  refine h.imp_of_mem ?_
  intro a b _ _ hab
  right; exact ⟨by simp [Int.emod_one], hab⟩
/-- What the whole sort leaves: a permutation, in order. -/
structure Done (rs rs' : List Blk) (d : Nat) : Prop where
  perm : rs'.Perm rs
  sorted : (rs.Pairwise fun x y => x.r < y.r) → rs'.Pairwise (Lt d)
theorem Done_start (rs : List Blk) : Done rs rs 0 := ⟨List.Perm.refl _, sorted_start⟩
theorem Done_pass {rs rs' : List Blk} {d : Nat} (h : Done rs rs' d) : Done rs (pass d rs') (d + 1) := ⟨(pass_perm d rs').trans h.perm, fun h' => pass_sorted (h.sorted h')⟩
theorem Done_skip {rs rs' : List Blk} {d : Nat} (h : Done rs rs' d) (v : Nat) (hc : cnt d v rs' = rs'.length) : Done rs rs' (d + 1) := ⟨h.perm, fun h' => skip_sorted (h.sorted h') v hc⟩
theorem Lt8 {x y : Blk} (hx : 0 ≤ x.off ∧ x.off < 2 ^ 64) (hy : 0 ≤ y.off ∧ y.off < 2 ^ 64) (h : Lt 8 x y) : x.off < y.off ∨ (x.off = y.off ∧ x.r < y.r) := by
  unfold Lt at h
  rw [Int.emod_eq_of_lt hx.1 hx.2, Int.emod_eq_of_lt hy.1 hy.2] at h
  exact h
end Go.Proofs.Qxb6600586aMods.SortPlain
