/-
  WHAT HOLDS AT THE LOOPS OF THE TWO LAWS OVER byOffset: lemmas outside the walks.
-/
import Derived.Test.Qxb6600586aModsCallees
namespace Go.Proofs.Qxb6600586aMods.ByOff
open Go.RowKit Go.Proofs.Qxb6600586aMods.SortPlain Go.Proofs.Qxb6600586aMods.Mem

/-! ### The records as the laws lay them: f i: the offset at place i -/
def laid (f : Nat → Int) (n : Nat) : List Blk := (List.range n).map fun i => zb (f i) i
def built (f : Nat → Int) (n k : Nat) : List Blk := (List.range n).map fun i => if i < k then zb (f i) i else zeroBlk
theorem length_laid (f : Nat → Int) (n : Nat) : (laid f n).length = n := by simp [laid]
theorem length_built (f : Nat → Int) (n k : Nat) : (built f n k).length = n := by simp [built]
theorem built_zero (f : Nat → Int) (n : Nat) : built f n 0 = List.replicate n zeroBlk := by
  apply List.ext_getElem?
  intro i
  simp only [built, List.getElem?_map, List.getElem?_replicate]
  by_cases h : i < n
  · simp [h]
  · simp [h]
theorem built_all (f : Nat → Int) (n : Nat) : built f n n = laid f n := by
  apply List.map_congr_left
  intro i hi
  rw [if_pos (by simpa using hi)]
theorem built_set (f : Nat → Int) (n k : Nat) (hk : k < n) : (built f n k).set k (zb (f k) k) = built f n (k + 1) := by
  apply List.ext_getElem?
  intro i
  by_cases e : i = k
  · subst e
    rw [List.getElem?_set_self (by rw [length_built]; exact hk)]
    simp [built, hk]
  · rw [List.getElem?_set_ne (by omega)]
    simp only [built, List.getElem?_map]
    by_cases h : i < n
    · simp only [List.getElem?_range h, Option.map_some, Option.some.injEq]
      by_cases h' : i < k
      · rw [if_pos h', if_pos (by omega)]
      · rw [if_neg h', if_neg (by omega)]
    · simp [h]
theorem mem_laid {f : Nat → Int} {n : Nat} {x : Blk} (h : x ∈ laid f n) : ∃ r, r < n ∧ x = zb (f r) r := by
  obtain ⟨r, hr, rfl⟩ := List.mem_map.1 h
  exact ⟨r, by simpa using hr, rfl⟩
theorem laid_rising (f : Nat → Int) (n : Nat) : (laid f n).Pairwise fun x y => x.r < y.r := by
  unfold laid
  rw [List.pairwise_map]
  refine (List.pairwise_lt_range (n := n)).imp_of_mem ?_
  intro a b _ _ h
  show (a : Int) < (b : Int)
  omega
def Word (f : Nat → Int) : Prop := ∀ i, 0 ≤ f i ∧ f i ≤ 18446744073709551615
theorem laid_fits {f : Nat → Int} (h : Word f) (n : Nat) : Fits (laid f n) := by
  intro x hx
  obtain ⟨r, _, rfl⟩ := mem_laid hx
  exact h r

/-! ### What the sort leaves -/
structure Out (f : Nat → Int) (n : Nat) (rs : List Blk) : Prop where
  len : rs.length = n
  perm : rs.Perm (laid f n)
  sorted : rs.Pairwise fun x y => x.off < y.off ∨ (x.off = y.off ∧ x.r < y.r)
theorem out_of {f : Nat → Int} {n : Nat} {rs : List Blk} (hw : Word f) (h : Done (laid f n) rs 8) : Out f n rs := by
  refine ⟨by rw [h.perm.length_eq, length_laid], h.perm, ?_⟩
  refine (h.sorted (laid_rising f n)).imp_of_mem ?_
  intro a b ha hb hab
  have fa := (laid_fits hw n) a (h.perm.mem_iff.1 ha)
  have fb := (laid_fits hw n) b (h.perm.mem_iff.1 hb)
  exact Lt8 ⟨fa.1, by omega⟩ ⟨fb.1, by omega⟩ hab
theorem Out.at_ {f : Nat → Int} {n : Nat} {rs : List Blk} (h : Out f n rs) {j : Nat} (hj : j < n) : ∃ r, r < n ∧ rs[j]? = some (zb (f r) r) := by
  have hl := h.len
  have hg : rs[j]? = some (rs[j]'(by omega)) := List.getElem?_eq_getElem (by omega)
  obtain ⟨r, hr, e⟩ := mem_laid (h.perm.mem_iff.1 (List.mem_of_getElem? hg))
  exact ⟨r, hr, by rw [hg, e]⟩
theorem Out.lt {f : Nat → Int} {n : Nat} {rs : List Blk} (h : Out f n rs) {i j : Nat} {x y : Blk} (hij : i < j) (hx : rs[i]? = some x) (hy : rs[j]? = some y) : x.off < y.off ∨ (x.off = y.off ∧ x.r < y.r) := by
  obtain ⟨hi, ex⟩ := List.getElem?_eq_some_iff.1 hx
  obtain ⟨hj, ey⟩ := List.getElem?_eq_some_iff.1 hy
  have := List.pairwise_iff_getElem.1 h.sorted i j hi hj hij
  rwa [ex, ey] at this

/-! ### The memory -/
theorem Kept.below {w w' : World} (h : Kept w w' w.heap.size) : Below w.heap.size w w' := ⟨h.os, h.tape, h.output, h.size, fun k hk => h.block k hk (by simp; omega)⟩

/-- Block b is a row of n bools, s i at place i. -/
structure Bools (w : World) (b n : Nat) (s : Nat → Bool) : Prop where
  lt : b < w.heap.size
  cell : ∀ i, i < n → w.cell? ⟨b, i, none⟩ = some (.bool (s i))
  soft : ∀ i, i < n → w.frozen? ⟨b, i, none⟩ = false
theorem Bools.kept {w w' : World} {b n : Nat} {s : Nat → Bool} (h : Bools w b n s) (hs : w.heap.size ≤ w'.heap.size) (hb : w'.heap[b]? = w.heap[b]?) : Bools w' b n s :=
  ⟨by have := h.lt; omega, fun i hi => (World.cell?_of_block (w := w) hb).trans (h.cell i hi), fun i hi => (World.frozen?_of_block (w := w) hb).trans (h.soft i hi)⟩
theorem Bools.set {w : World} {b n : Nat} {s : Nat → Bool} (h : Bools w b n s) {i : Nat} (hi : i < n) (v : Bool) : Bools (w.setCell ⟨b, i, none⟩ (.bool v)) b n (fun j => if j = i then v else s j) := by
  refine ⟨by rw [size_setCell]; exact h.lt, ?_, ?_⟩
  · intro j hj
    by_cases e : j = i
    · subst e; rw [World.cell?_setCell_same _ _ _ (h.cell j hj), if_pos rfl]
    · rw [World.cell?_setCell_other _ _ _ _ (fun q => e (congrArg Addr.off q).symm), h.cell j hj, if_neg e]
  · intro j hj; rw [World.frozen?_setCell]; exact h.soft j hj
theorem Bools_made (w : World) (n : Nat) (t : TypeId) : Bools (w.alloc (.cells (madeCells #[.bool false] n) t (0, 0))) w.heap.size n (fun _ => false) := by
  refine ⟨by simp, ?_, fun i _ => World.frozen?_alloc_at _ _ _ _ rfl⟩
  intro i hi
  rw [World.cell?_alloc_new]
  simp only [madeCells, Array.getElem?_map]
  rw [Array.getElem?_range, if_pos hi]
  simp [Nat.mod_one]

/-- Loop 1 of the first law. -/
structure A1 (f : Nat → Int) (n : Nat) (w wr : World) (k : Nat) : Prop where
  recs : Recs wr w.heap.size (built f n k)
  kept : Kept w wr w.heap.size
theorem A1_start {f : Nat → Int} {n : Nat} {w w' : World} (hr : Recs w' w.heap.size (List.replicate n zeroBlk)) (hk : ∀ ba, Kept w w' ba) : A1 f n w w' 0 := ⟨by rw [built_zero]; exact hr, hk _⟩
/-- The record stored at place k, and a block made beside it. -/
theorem A1_step {f : Nat → Int} {n : Nat} {w wr : World} {k : Nat} (h : A1 f n w wr k) (hk : k < n) (ob : Obj) :
    A1 f n w (((((((wr.setCell ⟨w.heap.size, k * 6, none⟩ (.int .u64 (f k))).setCell ⟨w.heap.size, k * 6 + 1, none⟩ (.int .u64 (zb (f k) k).n)).setCell ⟨w.heap.size, k * 6 + 2, none⟩ (.int .u64 (k : Int))).setCell ⟨w.heap.size, k * 6 + 3, none⟩ (.bool (zb (f k) k).g)).setCell ⟨w.heap.size, k * 6 + 4, none⟩ (.int .u64 (zb (f k) k).m)).setCell ⟨w.heap.size, k * 6 + 5, none⟩ (.int .u64 (zb (f k) k).t)).alloc ob) (k + 1) := by
  have r := h.recs.set (by rw [length_built]; exact hk) (zb (f k) k)
  rw [built_set f n k hk] at r
  show A1 f n w ((wr.setCells w.heap.size (k * 6) (vals (zb (f k) k))).alloc ob) (k + 1)
  exact ⟨r.kept (by simp) (Below.heap_alloc _ _ _ r.lt), (h.kept.setCells (.inl rfl) _ _).alloc _⟩
/-- The cells that are about to be overwritten. -/
theorem six_there {w : World} {b : Nat} {rs : List Blk} (h : Recs w b rs) {i : Nat} (hi : i < rs.length) :
    ∃ u0 u1 u2 u3 u4 u5, (w.cell? ⟨b, i * 6, none⟩ = some u0 ∧ w.cell? ⟨b, i * 6 + 1, none⟩ = some u1 ∧ w.cell? ⟨b, i * 6 + 1 + 1, none⟩ = some u2 ∧ w.cell? ⟨b, i * 6 + 1 + 1 + 1, none⟩ = some u3 ∧ w.cell? ⟨b, i * 6 + 1 + 1 + 1 + 1, none⟩ = some u4 ∧ w.cell? ⟨b, i * 6 + 1 + 1 + 1 + 1 + 1, none⟩ = some u5) ∧
      w.frozen? ⟨b, i * 6, none⟩ = false ∧ w.frozen? ⟨b, i * 6 + 1, none⟩ = false ∧ w.frozen? ⟨b, i * 6 + 1 + 1, none⟩ = false ∧ w.frozen? ⟨b, i * 6 + 1 + 1 + 1, none⟩ = false ∧ w.frozen? ⟨b, i * 6 + 1 + 1 + 1 + 1, none⟩ = false ∧ w.frozen? ⟨b, i * 6 + 1 + 1 + 1 + 1 + 1, none⟩ = false := by
  have t := h.there hi
  obtain ⟨u0, g0⟩ := Option.isSome_iff_exists.1 (t 0 (by omega)).1
  obtain ⟨u1, g1⟩ := Option.isSome_iff_exists.1 (t 1 (by omega)).1
  obtain ⟨u2, g2⟩ := Option.isSome_iff_exists.1 (t 2 (by omega)).1
  obtain ⟨u3, g3⟩ := Option.isSome_iff_exists.1 (t 3 (by omega)).1
  obtain ⟨u4, g4⟩ := Option.isSome_iff_exists.1 (t 4 (by omega)).1
  obtain ⟨u5, g5⟩ := Option.isSome_iff_exists.1 (t 5 (by omega)).1
  exact ⟨u0, u1, u2, u3, u4, u5, ⟨g0, g1, g2, g3, g4, g5⟩, (t 0 (by omega)).2, (t 1 (by omega)).2, (t 2 (by omega)).2, (t 3 (by omega)).2, (t 4 (by omega)).2, (t 5 (by omega)).2⟩

/-- The six cells of a record that the laws lay, in the walk's spelling. -/
theorem six_zb {w : World} {b : Nat} {rs : List Blk} (h : Recs w b rs) {i : Nat} {o : Int} {r : Nat} (hx : rs[i]? = some (zb o r)) :
    w.cell? ⟨b, i * 6, none⟩ = some (.int .u64 o) ∧ w.cell? ⟨b, i * 6 + 1, none⟩ = some (.int .u64 (zb o r).n) ∧ w.cell? ⟨b, i * 6 + 2, none⟩ = some (.int .u64 (r : Int)) ∧
    w.cell? ⟨b, i * 6 + 3, none⟩ = some (.bool (zb o r).g) ∧ w.cell? ⟨b, i * 6 + 4, none⟩ = some (.int .u64 (zb o r).m) ∧ w.cell? ⟨b, i * 6 + 5, none⟩ = some (.int .u64 (zb o r).t) :=
  h.six hx

/-- Loop 2 of the first law. -/
structure A2 (f : Nat → Int) (n : Nat) (w wr : World) (bs : Nat) (rs : List Blk) (j : Nat) : Prop where
  out : Out f n rs
  recs : Recs wr w.heap.size rs
  lt : w.heap.size < bs
  seen : ∃ s, Bools wr bs n s ∧ ∀ i, i < n → s i = true → ∃ j', j' < j ∧ rs[j']? = some (zb (f i) i)
  kept : Kept w wr w.heap.size
theorem A2_start {f : Nat → Int} {n : Nat} {w wr w2 : World} (hw : Word f) (h : A1 f n w wr n) (hs : Sorted (laid f n) wr w2 w.heap.size) (t : TypeId) :
    ∃ rs, A2 f n w (w2.alloc (.cells (madeCells #[.bool false] n) t (0, 0))) w2.heap.size rs 0 := by
  obtain ⟨rs, hr, hd⟩ := hs.ex
  refine ⟨rs, out_of hw hd, hr.kept (by simp) (Below.heap_alloc _ _ _ hr.lt), ?_, ⟨_, Bools_made w2 n t, fun i _ h => by cases h⟩, (h.kept.trans hs.kept).alloc _⟩
  exact hr.lt
theorem A2_same {f : Nat → Int} {n : Nat} {w wr w' : World} {bs : Nat} {rs : List Blk} {j : Nat} (h : A2 f n w wr bs rs j) (e : SameW w' wr) : A2 f n w w' bs rs j := by
  obtain ⟨s, hs, hS⟩ := h.seen
  exact ⟨h.out, Recs_same h.recs e, h.lt, ⟨s, hs.kept (by rw [e.1]; exact Nat.le_refl _) (by rw [e.1]), hS⟩, Kept_same h.kept e⟩
theorem A2_alloc {f : Nat → Int} {n : Nat} {w wr : World} {bs : Nat} {rs : List Blk} {j : Nat} (h : A2 f n w wr bs rs j) (ob : Obj) : A2 f n w (wr.alloc ob) bs rs j := by
  obtain ⟨s, hs, hS⟩ := h.seen
  exact ⟨h.out, h.recs.kept (by simp) (Below.heap_alloc _ _ _ h.recs.lt), h.lt, ⟨s, hs.kept (by simp) (Below.heap_alloc _ _ _ hs.lt), hS⟩, h.kept.alloc _⟩
/-- The round of loop 2: which record lies at j; it has not been seen; behind the mark the relation holds of j + 1. -/
theorem A2_reads {f : Nat → Int} {n : Nat} {w wr : World} {bs : Nat} {rs : List Blk} {j : Nat} (h : A2 f n w wr bs rs j) (hj : j < n) :
    ∃ r, r < n ∧ Hid (rs[j]? = some (zb (f r) r)) ∧ wr.cell? ⟨w.heap.size, j * 6 + 2, none⟩ = some (.int .u64 (r : Int)) ∧ wr.cell? ⟨bs, r, none⟩ = some (.bool false) ∧ wr.frozen? ⟨bs, r, none⟩ = false ∧ bs < wr.heap.size ∧
      Hid (A2 f n w (wr.setCell ⟨bs, r, none⟩ (.bool true)) bs rs (j + 1)) := by
  obtain ⟨s, hs, hS⟩ := h.seen
  obtain ⟨r, hr, hx⟩ := h.out.at_ hj
  have hfalse : s r = false := by
    by_cases e : s r = true
    · obtain ⟨j', hj', hx'⟩ := hS r hr e
      have := h.out.lt hj' hx' hx
      omega
    · simpa using e
  refine ⟨r, hr, hx, (six_zb h.recs hx).2.2.1, by rw [hs.cell r hr, hfalse], hs.soft r hr, hs.lt, ?_⟩
  have hl := h.lt
  refine ⟨h.out, h.recs.kept (by rw [size_setCell]; exact Nat.le_refl _) (Below.heap_setCell _ _ _ _ (by show w.heap.size ≠ bs; omega)), h.lt, ⟨_, hs.set hr true, ?_⟩, h.kept.setCell (.inr (by show w.heap.size ≤ bs; omega)) _⟩
  intro i hi he
  by_cases e : i = r
  · subst e; exact ⟨j, by omega, hx⟩
  · rw [if_neg e] at he
    obtain ⟨j', hj', hx'⟩ := hS i hi he
    exact ⟨j', by omega, hx'⟩

/-! ### The argument, as the shell hands it over -/
theorem row_of (a0 : Option Addr) (len cap : Nat) (zs : List Int) (w : World)
    (h : (a0 = none ∧ len = 0 ∧ cap = 0 ∧ zs = []) ∨ ∃ x, a0 = some x ∧ len ≤ cap ∧ cap ≤ maxLen ∧ zs.length = cap ∧ (∀ i, i < zs.length → w.cell? (x.add i) = some (.int .u64 (zs.getD i 0))) ∧ ∀ n ∈ zs, (Lit.int .u64 n).wf = true) :
    Word (fun k => zs.getD k 0) ∧ ∀ k, k < len → ∃ b off, a0 = some ⟨b, off, none⟩ ∧ b < w.heap.size ∧ w.cell? ⟨b, off + k, none⟩ = some (.int .u64 (zs.getD k 0)) := by
  rcases h with ⟨rfl, rfl, rfl, rfl⟩ | ⟨x, rfl, hl, _, hz, hc, hwf⟩
  · exact ⟨fun k => by simp, fun k hk => by omega⟩
  · refine ⟨fun k => ?_, fun k hk => ?_⟩
    · show 0 ≤ zs.getD k 0 ∧ zs.getD k 0 ≤ 18446744073709551615
      by_cases hk : k < zs.length
      · have hwk := hwf _ (List.getElem_mem hk)
        rw [List.getD_eq_getElem?_getD, List.getElem?_eq_getElem hk]
        have hw2 : IntKind.u64.min ≤ zs[k] ∧ zs[k] ≤ IntKind.u64.max := by simpa [Lit.wf] using hwk
        exact hw2
      · rw [List.getD_eq_getElem?_getD, List.getElem?_eq_none (by omega)]; simp
    · have h0 := hc 0 (by omega)
      have hs : x.spot = none := by simpa [Addr.add] using World.cell?_spot h0
      obtain ⟨b, off, spot⟩ := x
      simp only at hs
      subst hs
      have hk' := hc k (by omega)
      rw [Addr.add_mid] at hk'
      exact ⟨b, off, rfl, World.block_lt_of_cell? w _ hk', hk'⟩
end Go.Proofs.Qxb6600586aMods.ByOff
