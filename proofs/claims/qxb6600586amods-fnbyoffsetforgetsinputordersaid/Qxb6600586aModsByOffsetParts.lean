/-
  WHAT HOLDS AT EACH LOOP's HEAD OF byOffset, AND WHAT A ROUND DOES TO IT: lemmas outside the walk.
-/
import Derived.Test.Qxb6600586aModsMem
namespace Go.Proofs.Qxb6600586aMods.ByOff
open Go.RowKit Go.Proofs.Qxb6600586aMods.SortPlain Go.Proofs.Qxb6600586aMods.Mem

/-- Every offset fits a uint64. -/
def Fits (rs : List Blk) : Prop := ∀ x ∈ rs, 0 ≤ x.off ∧ x.off ≤ 18446744073709551615

theorem keyAt (d : Nat) (x : Blk) : (x.off / 2 ^ (8 * d) % 256).toNat = key d x := rfl
theorem at_lt {d v : Nat} (hd : d < 8) (hv : v < 256) : d * 256 + v < 2048 := by omega

/-- The same memory, streams and tape (the count of draws aside). -/
def SameW (a b : World) : Prop := a.heap = b.heap ∧ a.os = b.os ∧ a.tape = b.tape ∧ a.output = b.output

/-! ### Loops 1 and 2: the counts -/
structure S1 (rs : List Blk) (n : Nat) (w wr : World) (ba k j : Nat) : Prop where
  len : rs.length = n
  recs : Recs wr ba rs
  lt : ba < w.heap.size
  cnt : ∃ c, Cnt wr w.heap.size c ∧ C1 rs k j c
  kept : Kept w wr ba

theorem S1_start {rs : List Blk} {n : Nat} {w : World} {ba : Nat} (hl : rs.length = n) (h : Recs w ba rs) : S1 rs n w (w.alloc zeros46) ba 0 0 :=
  ⟨hl, h.kept (by simp) (Below.heap_alloc w _ ba h.lt), h.lt, ⟨fun _ => 0, Cnt_born w, C1_start rs _ (fun _ => rfl)⟩, (Kept.refl w ba).alloc _⟩

theorem S1.alloc {rs : List Blk} {n : Nat} {w wr : World} {ba k j : Nat} (h : S1 rs n w wr ba k j) (o : Obj) : S1 rs n w (wr.alloc o) ba k j := by
  obtain ⟨c, hc, hC⟩ := h.cnt
  exact ⟨h.len, h.recs.kept (by simp) (Below.heap_alloc wr _ ba h.recs.lt), h.lt, ⟨c, hc.kept (by simp) (Below.heap_alloc wr _ _ hc.lt), hC⟩, h.kept.alloc _⟩

theorem C1_bound {rs : List Blk} {n k j : Nat} {c : Nat → Int} (hl : rs.length = n) (h : C1 rs k j c) {d v : Nat} (hd : d < 8) (hv : v < 256) : 0 ≤ c (d * 256 + v) ∧ c (d * 256 + v) ≤ n := by
  rw [h d v hd hv]
  have h1 := cnt_le_length d v (rs.take (if d < j then k + 1 else k))
  have h2 : (rs.take (if d < j then k + 1 else k)).length ≤ rs.length := List.length_take_le' _ _
  omega

/-- What the round of loop 2 reads. -/
theorem S1_reads {rs : List Blk} {n : Nat} {w wr : World} {ba k j : Nat} (h : S1 rs n w wr ba k j) (x : Blk) (hj : j < 8) :
    ∃ q : Int, 0 ≤ q ∧ q ≤ n ∧ wr.cell? ⟨w.heap.size, j * 256 + (x.off / 2 ^ (8 * j) % 256).toNat, none⟩ = some (.int .i64 q) ∧
      wr.frozen? ⟨w.heap.size, j * 256 + (x.off / 2 ^ (8 * j) % 256).toNat, none⟩ = false ∧
      Hid (rs[k]? = some x → S1 rs n w (wr.setCell ⟨w.heap.size, j * 256 + (x.off / 2 ^ (8 * j) % 256).toNat, none⟩ (.int .i64 (q + 1))) ba k (j + 1)) := by
  obtain ⟨c, hc, hC⟩ := h.cnt
  have hk := key_lt j x
  have hb := C1_bound h.len hC hj hk
  refine ⟨c (j * 256 + key j x), hb.1, hb.2, hc.cell _ (at_lt hj hk), hc.soft _ (at_lt hj hk), fun hx => ?_⟩
  have hne : ba ≠ w.heap.size := by have := h.lt; omega
  exact ⟨h.len, h.recs.kept (by rw [size_setCell]; exact Nat.le_refl _) (Below.heap_setCell wr _ _ ba hne), h.lt,
    ⟨_, hc.set (at_lt hj hk) _, C1_step hC x hx hj⟩, h.kept.setCell (.inr (Nat.le_refl _)) _⟩

theorem S1.drew {rs : List Blk} {n : Nat} {w wr : World} {ba k j : Nat} (h : S1 rs n w wr ba k j) : S1 rs n w wr.drew ba k j := by
  obtain ⟨c, hc, hC⟩ := h.cnt
  exact ⟨h.len, h.recs.kept (Nat.le_refl _) rfl, h.lt, ⟨c, hc.kept (Nat.le_refl _) rfl, hC⟩, h.kept.drew⟩
theorem S1.next {rs : List Blk} {n : Nat} {w wr : World} {ba k : Nat} (h : S1 rs n w wr ba k 8) : S1 rs n w wr ba (k + 1) 0 := by
  obtain ⟨c, hc, hC⟩ := h.cnt
  exact ⟨h.len, h.recs, h.lt, ⟨c, hc, C1_next hC⟩, h.kept⟩

theorem get_of_lt {rs : List Blk} {n k : Nat} (hl : rs.length = n) (hk : k < n) : ∃ x, rs[k]? = some x := ⟨rs[k]'(by omega), List.getElem?_eq_getElem (by omega)⟩
theorem Fits.get {rs : List Blk} (h : Fits rs) {k : Nat} {x : Blk} (hx : rs[k]? = some x) : 0 ≤ x.off ∧ x.off ≤ 18446744073709551615 := h x (List.mem_of_getElem? hx)
theorem Fits.perm {rs rs' : List Blk} (h : Fits rs) (hp : rs'.Perm rs) : Fits rs' := fun x hx => h x (hp.mem_iff.1 hx)

/-! ### Loop 3: the passes -/
structure S3 (rs : List Blk) (n : Nat) (w wr : World) (ba x y : Nat) (cur oth : List Blk) (d : Nat) : Prop where
  len : cur.length = n
  leno : oth.length = n
  recx : Recs wr x cur
  recy : Recs wr y oth
  lt : ba < w.heap.size
  ne : x ≠ y
  nex : x ≠ w.heap.size
  ney : y ≠ w.heap.size
  ox : x = ba ∨ w.heap.size ≤ x
  oy : y = ba ∨ w.heap.size ≤ y
  one : x = ba ∨ y = ba
  cnt : ∃ c, Cnt wr w.heap.size c ∧ C3 cur d c
  done : Done rs cur d
  kept : Kept w wr ba

theorem S3_start {rs : List Blk} {n : Nat} {w wr w' : World} {ba : Nat} (h : S1 rs n w wr ba n 0) (hr : Recs w' wr.heap.size (List.replicate n zeroBlk)) (hs : w'.heap.size = wr.heap.size + 1)
    (hk : ∀ ba, Kept wr w' ba) (hb : ∀ k, k < wr.heap.size → w'.heap[k]? = wr.heap[k]?) : S3 rs n w w' ba ba wr.heap.size rs (List.replicate n zeroBlk) 0 := by
  obtain ⟨c, hc, hC⟩ := h.cnt
  have h1 := h.lt
  have h2 := h.kept.size
  have h3 := hc.lt
  refine ⟨h.len, by simp, h.recs.kept (by omega) (hb _ h.recs.lt), hr, h.lt, by omega, by omega, by omega, .inl rfl, .inr (by omega), .inl rfl, ⟨c, hc.kept (by omega) (hb _ hc.lt), ?_⟩, Done_start rs, h.kept.trans (hk ba)⟩
  have hl := h.len
  subst hl
  exact C1_done hC

theorem C3_bound {rs : List Blk} {n d : Nat} {c : Nat → Int} (hl : rs.length = n) (h : C3 rs d c) {v : Nat} (hd : d < 8) (hv : v < 256) : 0 ≤ c (d * 256 + v) ∧ c (d * 256 + v) ≤ n := by
  rw [h d v (Nat.le_refl _) hd hv]
  have h1 := cnt_le_length d v rs
  omega

/-- What the test ahead of a pass reads. -/
theorem S3_reads {rs : List Blk} {n : Nat} {w wr : World} {ba x y : Nat} {cur oth : List Blk} {d : Nat} (h : S3 rs n w wr ba x y cur oth d) (hf : Fits rs) (hd : d < 8) (hn : 0 < n) :
    ∃ (o q : Int), 0 ≤ o ∧ o ≤ 18446744073709551615 ∧ wr.cell? ⟨x, 0, none⟩ = some (.int .u64 o) ∧ wr.cell? ⟨w.heap.size, d * 256 + (o / 2 ^ (8 * d) % 256).toNat, none⟩ = some (.int .i64 q) ∧ 0 ≤ q ∧ q ≤ n ∧
      Hid (q = n → S3 rs n w wr ba x y cur oth (d + 1)) := by
  obtain ⟨c, hc, hC⟩ := h.cnt
  obtain ⟨p, hp⟩ := get_of_lt h.len hn
  have ho := (hf.perm h.done.perm).get hp
  have hk := key_lt d p
  have hb := C3_bound h.len hC hd hk
  refine ⟨p.off, c (d * 256 + key d p), ho.1, ho.2, by simpa using (h.recx.six hp).1, hc.cell _ (at_lt hd hk), hb.1, hb.2, fun hq => ?_⟩
  refine ⟨h.len, h.leno, h.recx, h.recy, h.lt, h.ne, h.nex, h.ney, h.ox, h.oy, h.one, ⟨c, hc, C3_mono hC⟩, Done_skip h.done (key d p) ?_, h.kept⟩
  rw [hC d _ (Nat.le_refl _) hd hk] at hq
  have := h.len
  omega

/-! ### Loop 4: the sums -/
structure S4 (rs : List Blk) (n : Nat) (w wr : World) (ba x y : Nat) (cur oth : List Blk) (d i : Nat) : Prop where
  len : cur.length = n
  leno : oth.length = n
  recx : Recs wr x cur
  recy : Recs wr y oth
  lt : ba < w.heap.size
  ne : x ≠ y
  nex : x ≠ w.heap.size
  ney : y ≠ w.heap.size
  ox : x = ba ∨ w.heap.size ≤ x
  oy : y = ba ∨ w.heap.size ≤ y
  one : x = ba ∨ y = ba
  cnt : ∃ c, Cnt wr w.heap.size c ∧ C4 cur d i c
  done : Done rs cur d
  kept : Kept w wr ba

theorem S4_start {rs : List Blk} {n : Nat} {w wr : World} {ba x y : Nat} {cur oth : List Blk} {d : Nat} (h : S3 rs n w wr ba x y cur oth d) (hd : d < 8) : S4 rs n w wr ba x y cur oth d 0 := by
  obtain ⟨c, hc, hC⟩ := h.cnt
  exact ⟨h.len, h.leno, h.recx, h.recy, h.lt, h.ne, h.nex, h.ney, h.ox, h.oy, h.one, ⟨c, hc, C4_start hC hd⟩, h.done, h.kept⟩
theorem S3.drew {rs : List Blk} {n : Nat} {w wr : World} {ba x y : Nat} {cur oth : List Blk} {d : Nat} (h : S3 rs n w wr ba x y cur oth d) : S3 rs n w wr.drew ba x y cur oth d := by
  obtain ⟨c, hc, hC⟩ := h.cnt
  exact ⟨h.len, h.leno, h.recx.kept (Nat.le_refl _) rfl, h.recy.kept (Nat.le_refl _) rfl, h.lt, h.ne, h.nex, h.ney, h.ox, h.oy, h.one, ⟨c, hc.kept (Nat.le_refl _) rfl, hC⟩, h.done, h.kept.drew⟩
theorem S4.drew {rs : List Blk} {n : Nat} {w wr : World} {ba x y : Nat} {cur oth : List Blk} {d i : Nat} (h : S4 rs n w wr ba x y cur oth d i) : S4 rs n w wr.drew ba x y cur oth d i := by
  obtain ⟨c, hc, hC⟩ := h.cnt
  exact ⟨h.len, h.leno, h.recx.kept (Nat.le_refl _) rfl, h.recy.kept (Nat.le_refl _) rfl, h.lt, h.ne, h.nex, h.ney, h.ox, h.oy, h.one, ⟨c, hc.kept (Nat.le_refl _) rfl, hC⟩, h.done, h.kept.drew⟩

/-- What the round of loop 4 reads, and what its store leaves: s: the sum so far; q: the count at place i. -/
theorem S4_reads {rs : List Blk} {n : Nat} {w wr : World} {ba x y : Nat} {cur oth : List Blk} {d i : Nat} (h : S4 rs n w wr ba x y cur oth d i) (hd : d < 8) (hi : i < 256) :
    ∃ q : Nat, beg d cur i + q ≤ n ∧ wr.cell? ⟨w.heap.size, d * 256 + i, none⟩ = some (.int .i64 q) ∧ wr.frozen? ⟨w.heap.size, d * 256 + i, none⟩ = false ∧
      Hid (beg d cur (i + 1) = beg d cur i + q) ∧ Hid (S4 rs n w (wr.setCell ⟨w.heap.size, d * 256 + i, none⟩ (.int .i64 (beg d cur i : Nat))) ba x y cur oth d (i + 1)) := by
  obtain ⟨c, hc, hC⟩ := h.cnt
  have h1 : beg d cur (i + 1) ≤ n := by
    have := beg_mono d cur (u := i + 1) (v := 256) (by omega)
    rw [beg_256, h.len] at this; exact this
  refine ⟨SortPlain.cnt d i cur, h1, ?_, hc.soft _ (at_lt hd hi), rfl, ?_⟩
  · rw [hc.cell _ (at_lt hd hi), C4_at hC hi]
  · have hsz : wr.heap.size ≤ (wr.setCell ⟨w.heap.size, d * 256 + i, none⟩ (.int .i64 (beg d cur i : Nat))).heap.size := by rw [size_setCell]; exact Nat.le_refl _
    exact ⟨h.len, h.leno, h.recx.kept hsz (Below.heap_setCell wr _ _ x h.nex), h.recy.kept hsz (Below.heap_setCell wr _ _ y h.ney), h.lt, h.ne, h.nex, h.ney, h.ox, h.oy, h.one,
      ⟨_, hc.set (at_lt hd hi) _, C4_step hC hi⟩, h.done, h.kept.setCell (.inr (Nat.le_refl _)) _⟩

/-! ### Loop 5: the records go over -/
structure S5 (rs : List Blk) (n : Nat) (w wr : World) (ba x y : Nat) (cur bs : List Blk) (d k : Nat) : Prop where
  len : cur.length = n
  recx : Recs wr x cur
  recy : Recs wr y bs
  lt : ba < w.heap.size
  ne : x ≠ y
  nex : x ≠ w.heap.size
  ney : y ≠ w.heap.size
  ox : x = ba ∨ w.heap.size ≤ x
  oy : y = ba ∨ w.heap.size ≤ y
  one : x = ba ∨ y = ba
  cnt : ∃ c, Cnt wr w.heap.size c ∧ C5 cur d k c
  bs_ : Bs cur d k bs
  done : Done rs cur d
  kept : Kept w wr ba

theorem S5_start {rs : List Blk} {n : Nat} {w wr : World} {ba x y : Nat} {cur oth : List Blk} {d : Nat} (h : S4 rs n w wr ba x y cur oth d 256) : S5 rs n w wr ba x y cur oth d 0 := by
  obtain ⟨c, hc, hC⟩ := h.cnt
  exact ⟨h.len, h.recx, h.recy, h.lt, h.ne, h.nex, h.ney, h.ox, h.oy, h.one, ⟨c, hc, C4_done hC⟩, Bs_start (by rw [h.leno, h.len]), h.done, h.kept⟩

/-- What the round of loop 5 reads: the six cells of record k; where it goes (q). -/
theorem S5_reads {rs : List Blk} {n : Nat} {w wr : World} {ba x y : Nat} {cur bs : List Blk} {d k : Nat} (h : S5 rs n w wr ba x y cur bs d k) (hf : Fits rs) (hd : d < 8) (hk : k < n) :
    ∃ (p : Blk) (q : Nat), 0 ≤ p.off ∧ p.off ≤ 18446744073709551615 ∧ q < n ∧
      (wr.cell? ⟨x, k * 6, none⟩ = some (.int .u64 p.off) ∧ wr.cell? ⟨x, k * 6 + 1, none⟩ = some (.int .u64 p.n) ∧ wr.cell? ⟨x, k * 6 + 1 + 1, none⟩ = some (.int .u64 p.r) ∧
        wr.cell? ⟨x, k * 6 + 1 + 1 + 1, none⟩ = some (.bool p.g) ∧ wr.cell? ⟨x, k * 6 + 1 + 1 + 1 + 1, none⟩ = some (.int .u64 p.m) ∧ wr.cell? ⟨x, k * 6 + 1 + 1 + 1 + 1 + 1, none⟩ = some (.int .u64 p.t)) ∧
      wr.cell? ⟨w.heap.size, d * 256 + (p.off / 2 ^ (8 * d) % 256).toNat, none⟩ = some (.int .i64 q) ∧ wr.frozen? ⟨w.heap.size, d * 256 + (p.off / 2 ^ (8 * d) % 256).toNat, none⟩ = false ∧
      wr.there y (q * 6) 6 ∧ w.heap.size < wr.heap.size ∧ x < wr.heap.size ∧ y < wr.heap.size ∧
      Hid (∀ (ob : Obj) (wF : World), SameW wF (((wr.setCells y (q * 6) (vals p)).setCell ⟨w.heap.size, d * 256 + (p.off / 2 ^ (8 * d) % 256).toNat, none⟩ (.int .i64 ((q : Int) + 1))).alloc ob) → S5 rs n w wF ba x y cur (bs.set q p) d (k + 1)) := by
  obtain ⟨c, hc, hC⟩ := h.cnt
  obtain ⟨p, hp⟩ := get_of_lt h.len hk
  have ho := (hf.perm h.done.perm).get hp
  have hkey := key_lt d p
  have hq := pos_lt d cur k p hp
  have hlb : beg d cur (key d p) + SortPlain.cnt d (key d p) (cur.take k) < bs.length := by rw [h.bs_.len]; exact hq
  refine ⟨p, beg d cur (key d p) + SortPlain.cnt d (key d p) (cur.take k), ho.1, ho.2, by have := h.len; omega, h.recx.six hp, ?_, hc.soft _ (at_lt hd hkey), h.recy.there hlb, hc.lt, h.recx.lt, h.recy.lt, ?_⟩
  · rw [keyAt, hc.cell _ (at_lt hd hkey), hC.1 _ hkey]; simp
  · intro ob wF hF
    have r1 := h.recx
    have r2 := h.recy
    have r3 := hc
    have k1 := h.kept
    clear hc
    obtain ⟨wa, hwa⟩ : ∃ wa : World, wa = wr := ⟨_, rfl⟩
    rw [← hwa] at r1 r2 r3 k1 hF
    have r2' := r2.set hlb p
    have s2 : wa.heap.size ≤ (wa.setCells y ((beg d cur (key d p) + SortPlain.cnt d (key d p) (cur.take k)) * 6) (vals p)).heap.size := by rw [size_setCells]; exact Nat.le_refl _
    have r1' := r1.kept s2 (heap_setCells y _ _ wa x h.ne)
    have r3' := r3.kept s2 (heap_setCells y _ _ wa w.heap.size (Ne.symm h.ney))
    have k1' := k1.setCells (b := y) h.oy (vals p) ((beg d cur (key d p) + SortPlain.cnt d (key d p) (cur.take k)) * 6)
    generalize wa.setCells y ((beg d cur (key d p) + SortPlain.cnt d (key d p) (cur.take k)) * 6) (vals p) = wb at r1' r2' r3' k1' hF
    have r4 := r3'.set (at_lt hd hkey) (((beg d cur (key d p) : Nat) : Int) + ((SortPlain.cnt d (key d p) (cur.take k) : Nat) : Int) + 1)
    have e : (((beg d cur (key d p) + SortPlain.cnt d (key d p) (cur.take k) : Nat) : Int) + 1) = ((beg d cur (key d p) : Nat) : Int) + ((SortPlain.cnt d (key d p) (cur.take k) : Nat) : Int) + 1 := by omega
    rw [keyAt, e] at hF
    have k2 := k1'.setCell (a := ⟨w.heap.size, d * 256 + key d p, none⟩) (.inr (Nat.le_refl _)) (.int .i64 (((beg d cur (key d p) : Nat) : Int) + ((SortPlain.cnt d (key d p) (cur.take k) : Nat) : Int) + 1))
    have s3 : wb.heap.size ≤ (wb.setCell ⟨w.heap.size, d * 256 + key d p, none⟩ (.int .i64 (((beg d cur (key d p) : Nat) : Int) + ((SortPlain.cnt d (key d p) (cur.take k) : Nat) : Int) + 1))).heap.size := by rw [size_setCell]; exact Nat.le_refl _
    have r5 := r1'.kept s3 (Below.heap_setCell wb _ _ x h.nex)
    have r6 := r2'.kept s3 (Below.heap_setCell wb _ _ y h.ney)
    generalize wb.setCell ⟨w.heap.size, d * 256 + key d p, none⟩ (.int .i64 (((beg d cur (key d p) : Nat) : Int) + ((SortPlain.cnt d (key d p) (cur.take k) : Nat) : Int) + 1)) = wd at r4 r5 r6 k2 hF
    have sz : wd.heap.size ≤ (wd.alloc ob).heap.size := by simp
    have r7 := r5.kept sz (Below.heap_alloc wd _ x r5.lt)
    have r8 := r6.kept sz (Below.heap_alloc wd _ y r6.lt)
    have r9 := r4.kept sz (Below.heap_alloc wd _ w.heap.size r4.lt)
    have k3 := k2.alloc ob
    generalize wd.alloc ob = we at r7 r8 r9 k3 hF
    obtain ⟨f1, f2, f3, f4⟩ := hF
    have z : we.heap.size ≤ wF.heap.size := by rw [f1]; exact Nat.le_refl _
    exact ⟨h.len, r7.kept z (by rw [f1]), r8.kept z (by rw [f1]), h.lt, h.ne, h.nex, h.ney, h.ox, h.oy, h.one, ⟨_, r9.kept z (by rw [f1]), C5_step hC p hp⟩, Bs_step h.bs_ p hp, h.done, ⟨f2.trans k3.os, f3.trans k3.tape, f4.trans k3.output, Nat.le_trans k3.size z, fun i hi hne => by rw [f1]; exact k3.block i hi hne⟩⟩

theorem six_set (w : World) (y o : Nat) (p : Blk) : w.setCells y o (vals p) = (((((w.setCell ⟨y, o, none⟩ (.int .u64 p.off)).setCell ⟨y, o + 1, none⟩ (.int .u64 p.n)).setCell ⟨y, o + 2, none⟩ (.int .u64 p.r)).setCell ⟨y, o + 3, none⟩ (.bool p.g)).setCell ⟨y, o + 4, none⟩ (.int .u64 p.m)).setCell ⟨y, o + 5, none⟩ (.int .u64 p.t) := rfl
theorem same_drew2 (w : World) : SameW w.drew.drew w := ⟨rfl, rfl, rfl, rfl⟩
/-- The world in which the walk leaves the round of loop 5. -/
theorem S5_fin {rs : List Blk} {n : Nat} {w wr : World} {ba x y : Nat} {cur bs : List Blk} {d k q : Nat} {p : Blk}
    (h : Hid (∀ (ob : Obj) (wF : World), SameW wF (((wr.setCells y (q * 6) (vals p)).setCell ⟨w.heap.size, d * 256 + (p.off / 2 ^ (8 * d) % 256).toNat, none⟩ (.int .i64 ((q : Int) + 1))).alloc ob) → S5 rs n w wF ba x y cur (bs.set q p) d (k + 1))) (ob : Obj) :
    S5 rs n w ((((((((wr.setCell ⟨y, q * 6, none⟩ (.int .u64 p.off)).setCell ⟨y, q * 6 + 1, none⟩ (.int .u64 p.n)).setCell ⟨y, q * 6 + 2, none⟩ (.int .u64 p.r)).setCell ⟨y, q * 6 + 3, none⟩ (.bool p.g)).setCell ⟨y, q * 6 + 4, none⟩ (.int .u64 p.m)).setCell ⟨y, q * 6 + 5, none⟩ (.int .u64 p.t)).setCell
      ⟨w.heap.size, d * 256 + (p.off / 2 ^ (8 * d) % 256).toNat, none⟩ (.int .i64 ((q : Int) + 1))).alloc ob).drew.drew ba x y cur (bs.set q p) d (k + 1) := by
  have h' := h.out ob
  rw [six_set] at h'
  exact h' _ (same_drew2 _)

theorem S5_done {rs : List Blk} {n : Nat} {w wr : World} {ba x y : Nat} {cur bs : List Blk} {d : Nat} (h : S5 rs n w wr ba x y cur bs d n) : S3 rs n w wr ba y x bs cur (d + 1) := by
  obtain ⟨c, hc, hC⟩ := h.cnt
  have hl := h.len
  have hb : bs = pass d cur := by have := h.bs_; rw [← hl] at this; exact Bs_done this
  have hp : bs.Perm cur := by rw [hb]; exact pass_perm d cur
  refine ⟨by rw [h.bs_.len, hl], hl, h.recy, h.recx, h.lt, Ne.symm h.ne, h.ney, h.nex, h.oy, h.ox, h.one.symm, ⟨c, hc, C3_perm hC.2 hp.symm⟩, ?_, h.kept⟩
  rw [hb]; exact Done_pass h.done

/-! ### The same in a world that parts from the first in its draws alone -/
theorem Recs_same {w w' : World} {b : Nat} {rs : List Blk} (h : Recs w b rs) (e : SameW w' w) : Recs w' b rs := h.kept (by rw [e.1]; exact Nat.le_refl _) (by rw [e.1])
theorem Cnt_same {w w' : World} {b : Nat} {c : Nat → Int} (h : Cnt w b c) (e : SameW w' w) : Cnt w' b c := h.kept (by rw [e.1]; exact Nat.le_refl _) (by rw [e.1])
theorem Kept_same {w wr w' : World} {ba : Nat} (h : Kept w wr ba) (e : SameW w' wr) : Kept w w' ba := by
  obtain ⟨f1, f2, f3, f4⟩ := e
  exact ⟨f2.trans h.os, f3.trans h.tape, f4.trans h.output, by rw [f1]; exact h.size, fun i hi hne => by rw [f1]; exact h.block i hi hne⟩
theorem S3.same {rs : List Blk} {n : Nat} {w wr w' : World} {ba x y : Nat} {cur oth : List Blk} {d : Nat} (h : S3 rs n w wr ba x y cur oth d) (e : SameW w' wr) : S3 rs n w w' ba x y cur oth d := by
  obtain ⟨c, hc, hC⟩ := h.cnt
  exact ⟨h.len, h.leno, Recs_same h.recx e, Recs_same h.recy e, h.lt, h.ne, h.nex, h.ney, h.ox, h.oy, h.one, ⟨c, Cnt_same hc e, hC⟩, h.done, Kept_same h.kept e⟩
theorem S4.same {rs : List Blk} {n : Nat} {w wr w' : World} {ba x y : Nat} {cur oth : List Blk} {d i : Nat} (h : S4 rs n w wr ba x y cur oth d i) (e : SameW w' wr) : S4 rs n w w' ba x y cur oth d i := by
  obtain ⟨c, hc, hC⟩ := h.cnt
  exact ⟨h.len, h.leno, Recs_same h.recx e, Recs_same h.recy e, h.lt, h.ne, h.nex, h.ney, h.ox, h.oy, h.one, ⟨c, Cnt_same hc e, hC⟩, h.done, Kept_same h.kept e⟩
theorem S5.same {rs : List Blk} {n : Nat} {w wr w' : World} {ba x y : Nat} {cur bs : List Blk} {d k : Nat} (h : S5 rs n w wr ba x y cur bs d k) (e : SameW w' wr) : S5 rs n w w' ba x y cur bs d k := by
  obtain ⟨c, hc, hC⟩ := h.cnt
  exact ⟨h.len, Recs_same h.recx e, Recs_same h.recy e, h.lt, h.ne, h.nex, h.ney, h.ox, h.oy, h.one, ⟨c, Cnt_same hc e, hC⟩, h.bs_, h.done, Kept_same h.kept e⟩

/-- Behind the copy. -/
structure Sorted (rs : List Blk) (w w' : World) (ba : Nat) : Prop where
  ex : ∃ rs', Recs w' ba rs' ∧ Done rs rs' 8
  kept : Kept w w' ba
/-- What the copy asks for: the records of the array in which the last pass ended, and those of the first array. -/
theorem S3_end {rs : List Blk} {n : Nat} {w wr : World} {ba x y : Nat} {cur oth : List Blk} (h : S3 rs n w wr ba x y cur oth 8) :
    ∃ old, old.length = n ∧ Recs wr ba old ∧ Recs wr x cur ∧ cur.length = n ∧ ∀ w', Recs w' ba cur → Kept wr w' ba → Sorted rs w w' ba := by
  have hq : ∀ w', Recs w' ba cur → Kept wr w' ba → Sorted rs w w' ba := fun w' h1 h2 => ⟨⟨cur, h1, h.done⟩, h.kept.trans h2⟩
  rcases h.one with e | e
  · have hx := h.recx
    rw [e] at hx
    exact ⟨cur, h.len, hx, h.recx, h.len, hq⟩
  · have hy := h.recy
    rw [e] at hy
    exact ⟨oth, h.leno, hy, h.recx, h.len, hq⟩
end Go.Proofs.Qxb6600586aMods.ByOff
