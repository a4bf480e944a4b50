/-
  WHAT LIES IN MEMORY: an array of records (six cells each), the table of counts (2048 numbers); what stores, new blocks and draws do to them; 'make', 'copy' and the table's birth as laws for the walk.
-/
import Derived.Test.Qxb6600586aModsRows
import Derived.Test.Qxb6600586aModsSortPlain
import Derived.WalkKit
import Derived.Deep.MidRow
namespace Go.Proofs.Qxb6600586aMods.Mem
open Go.RowKit Go.Proofs.Qxb6600586aMods.SortPlain

/-! ### Records -/
def vals (x : Blk) : List Value := [.int .u64 x.off, .int .u64 x.n, .int .u64 x.r, .bool x.g, .int .u64 x.m, .int .u64 x.t]
theorem length_vals (x : Blk) : (vals x).length = 6 := rfl
theorem one_vals (x : Blk) : ∀ v ∈ vals x, v.oneCell' = true := by
  intro v hv; simp [vals] at hv; rcases hv with rfl | rfl | rfl | rfl | rfl | rfl <;> rfl

/-- Block b holds the records rs, from its head on; its cells may be written. -/
structure Recs (w : World) (b : Nat) (rs : List Blk) : Prop where
  lt : b < w.heap.size
  cell : ∀ (i : Nat) (x : Blk), rs[i]? = some x → ∀ (j : Nat) (v : Value), (vals x)[j]? = some v → w.cell? ⟨b, i * 6 + j, none⟩ = some v
  soft : ∀ o, o < rs.length * 6 → w.frozen? ⟨b, o, none⟩ = false

theorem Recs.kept {w w' : World} {b : Nat} {rs : List Blk} (h : Recs w b rs) (hs : w.heap.size ≤ w'.heap.size) (hb : w'.heap[b]? = w.heap[b]?) : Recs w' b rs :=
  ⟨by have := h.lt; omega, fun i x hx j v hv => (World.cell?_of_block (w := w) hb).trans (h.cell i x hx j v hv), fun o ho => (World.frozen?_of_block (w := w) hb).trans (h.soft o ho)⟩

theorem Recs.six {w : World} {b : Nat} {rs : List Blk} (h : Recs w b rs) {i : Nat} {x : Blk} (hx : rs[i]? = some x) :
    w.cell? ⟨b, i * 6, none⟩ = some (.int .u64 x.off) ∧ w.cell? ⟨b, i * 6 + 1, none⟩ = some (.int .u64 x.n) ∧ w.cell? ⟨b, i * 6 + 1 + 1, none⟩ = some (.int .u64 x.r) ∧
    w.cell? ⟨b, i * 6 + 1 + 1 + 1, none⟩ = some (.bool x.g) ∧ w.cell? ⟨b, i * 6 + 1 + 1 + 1 + 1, none⟩ = some (.int .u64 x.m) ∧ w.cell? ⟨b, i * 6 + 1 + 1 + 1 + 1 + 1, none⟩ = some (.int .u64 x.t) :=
  ⟨h.cell i x hx 0 _ rfl, h.cell i x hx 1 _ rfl, h.cell i x hx 2 _ rfl, h.cell i x hx 3 _ rfl, h.cell i x hx 4 _ rfl, h.cell i x hx 5 _ rfl⟩

theorem lt_six {rs : List Blk} {i : Nat} (hi : i < rs.length) {j : Nat} (hj : j < 6) : i * 6 + j < rs.length * 6 := by omega

theorem Recs.isSome {w : World} {b : Nat} {rs : List Blk} (h : Recs w b rs) (o : Nat) (ho : o < rs.length * 6) : (w.cell? ⟨b, o, none⟩).isSome = true := by
  have hi : o / 6 < rs.length := by omega
  have hj : o % 6 < (vals rs[o / 6]).length := by rw [length_vals]; omega
  have := h.cell (o / 6) _ (List.getElem?_eq_getElem hi) (o % 6) _ (List.getElem?_eq_getElem hj)
  rw [show o / 6 * 6 + o % 6 = o by omega] at this
  rw [this]; rfl

/-- The six marks and cells of a record that is about to be overwritten. -/
theorem Recs.there {w : World} {b : Nat} {rs : List Blk} (h : Recs w b rs) {i : Nat} (hi : i < rs.length) : w.there b (i * 6) 6 :=
  fun _ hj => ⟨h.isSome _ (lt_six hi hj), h.soft _ (lt_six hi hj)⟩

theorem heap_setCells (b : Nat) : ∀ (vs : List Value) (o : Nat) (w : World) (k : Nat), k ≠ b → (w.setCells b o vs).heap[k]? = w.heap[k]?
  | [], _, _, _, _ => rfl
  | v :: r, o, w, k, h => by rw [World.setCells, heap_setCells b r (o + 1) _ k h, Below.heap_setCell _ _ _ _ h]
theorem size_setCells (b : Nat) : ∀ (vs : List Value) (o : Nat) (w : World), (w.setCells b o vs).heap.size = w.heap.size
  | [], _, _ => rfl
  | v :: r, o, w => by rw [World.setCells, size_setCells b r (o + 1) _]; simp [World.setCell]

/-- A record is stored. -/
theorem Recs.set {w : World} {b : Nat} {rs : List Blk} (h : Recs w b rs) {i : Nat} (hi : i < rs.length) (x : Blk) : Recs (w.setCells b (i * 6) (vals x)) b (rs.set i x) := by
  refine ⟨by rw [size_setCells]; exact h.lt, ?_, ?_⟩
  · intro k y hy j v hv
    have hj : j < 6 := by have := (List.getElem?_eq_some_iff.1 hv).1; rwa [length_vals] at this
    by_cases e : k = i
    · subst e
      rw [List.getElem?_set_self hi] at hy
      obtain rfl := Option.some.inj hy
      exact World.rangeAt_setCells_same w b _ _ (by rw [length_vals]; exact h.there hi) j v hv
    · rw [List.getElem?_set_ne (by omega)] at hy
      rw [World.cell?_setCells_out b (vals x) (i * 6) w _ (fun _ _ => by rw [length_vals]; show k * 6 + j < i * 6 ∨ i * 6 + 6 ≤ k * 6 + j; omega)]
      exact h.cell k y hy j v hv
  · intro o ho
    rw [World.frozen?_setCells]
    exact h.soft o (by simpa using ho)

/-! ### The counts -/
/-- Block b is a table of 2048 numbers, c i at place i; its cells may be written. -/
structure Cnt (w : World) (b : Nat) (c : Nat → Int) : Prop where
  lt : b < w.heap.size
  cell : ∀ i, i < 2048 → w.cell? ⟨b, i, none⟩ = some (.int .i64 (c i))
  soft : ∀ i, i < 2048 → w.frozen? ⟨b, i, none⟩ = false

theorem Cnt.kept {w w' : World} {b : Nat} {c : Nat → Int} (h : Cnt w b c) (hs : w.heap.size ≤ w'.heap.size) (hb : w'.heap[b]? = w.heap[b]?) : Cnt w' b c :=
  ⟨by have := h.lt; omega, fun i hi => (World.cell?_of_block (w := w) hb).trans (h.cell i hi), fun i hi => (World.frozen?_of_block (w := w) hb).trans (h.soft i hi)⟩

theorem size_setCell (w : World) (a : Addr) (v : Value) : (w.setCell a v).heap.size = w.heap.size := by simp [World.setCell]

theorem Cnt.set {w : World} {b : Nat} {c : Nat → Int} (h : Cnt w b c) {i : Nat} (hi : i < 2048) (x : Int) : Cnt (w.setCell ⟨b, i, none⟩ (.int .i64 x)) b (upd c i x) := by
  refine ⟨by rw [size_setCell]; exact h.lt, ?_, ?_⟩
  · intro j hj
    by_cases e : j = i
    · subst e; rw [World.cell?_setCell_same _ _ _ (h.cell j hj), upd_same]
    · rw [World.cell?_setCell_other _ _ _ _ (fun q => e (congrArg Addr.off q).symm), h.cell j hj, upd_other _ _ _ _ e]
  · intro j hj; rw [World.frozen?_setCell]; exact h.soft j hj

/-! ### Of what was there when the call began, nothing but block ba has turned -/
/-- 'wr' is 'w' with new blocks, and with writes to block ba and to new blocks alone. -/
abbrev Kept (w wr : World) (ba : Nat) : Prop := w.grownBy wr (some ba)
theorem Kept.refl (w : World) (ba : Nat) : Kept w w ba := World.grownBy.refl _ _
theorem Kept.drew {w wr : World} {ba : Nat} (h : Kept w wr ba) : Kept w wr.drew ba := ⟨h.os, h.tape, h.output, h.size, h.block⟩
theorem Kept.alloc {w wr : World} {ba : Nat} (h : Kept w wr ba) (o : Obj) : Kept w (wr.alloc o) ba :=
  ⟨h.os, h.tape, h.output, by have := h.size; simp; omega, fun k hk hne => (Below.heap_alloc wr o k (by have := h.size; omega)).trans (h.block k hk hne)⟩
theorem Kept.setCell {w wr : World} {ba : Nat} (h : Kept w wr ba) {a : Addr} (ha : a.block = ba ∨ w.heap.size ≤ a.block) (v : Value) : Kept w (wr.setCell a v) ba :=
  ⟨h.os, h.tape, h.output, by rw [size_setCell]; exact h.size, fun k hk hne => (Below.heap_setCell wr a v k (by intro e; rcases ha with ha | ha; exact hne (by rw [e, ha]); omega)).trans (h.block k hk hne)⟩
theorem Kept.setCells {w wr : World} {ba b : Nat} (h : Kept w wr ba) (ha : b = ba ∨ w.heap.size ≤ b) : ∀ (vs : List Value) (o : Nat), Kept w (wr.setCells b o vs) ba
  | vs, o => by
    induction vs generalizing wr o with
    | nil => exact h
    | cons v r ih => rw [World.setCells]; exact ih (h.setCell (by exact ha) v) (o + 1)
theorem Kept.trans {a b c : World} {ba : Nat} (h : Kept a b ba) (k : Kept b c ba) : Kept a c ba :=
  ⟨k.os.trans h.os, k.tape.trans h.tape, k.output.trans h.output, Nat.le_trans h.size k.size, fun i hi hne => (k.block i (Nat.lt_of_lt_of_le hi h.size) hne).trans (h.block i hi hne)⟩

/-! ### The types' rows, as closed facts -/
theorem info46 : (Trym.prog.info? 46).map (fun i => (i.zero, i.size, i.bytes)) = some (some (.agg (Array.replicate 2048 (.int .i64 0))), 2048, 16384) := by kernel_rfl
theorem info27 : (Trym.prog.info? 27).map (fun i => (i.zero, i.size, i.bytes)) = some (some (.agg #[.int .u64 0, .int .u64 0, .int .u64 0, .bool false, .int .u64 0, .int .u64 0]), 6, 48) := by kernel_rfl

/-! ### The table is born -/
def zeros46 : Obj := .cells (Array.replicate 2048 (.int .i64 0)) 46 (0, 0)
theorem run_alloc_any {P : Program} (t : TypeId) (z : Value) (i : TypeInfo) (hi : P.info? t = some i) (hz : i.zero = some z) (w : World) :
    (Instr.alloc t true (.tuple #[])).run P w = .ok (.pointer (some ⟨w.heap.size, 0, none⟩)) (w.alloc (.cells z.cells t (0, 0))) := by
  simp [Instr.alloc, zeroValue, typeInfo, hi, hz, newVar, newRow, Sem.run_bind]
theorem run_alloc46 (w : World) : (Instr.alloc 46 true (.tuple #[])).run Trym.prog w = .ok (.pointer (some ⟨w.heap.size, 0, none⟩)) (w.alloc zeros46) := by
  obtain ⟨i, hi, hz0, hz1, hz2⟩ := info_parts info46
  exact run_alloc_any 46 _ i hi hz0 w
theorem wpList_alloc46 {w : World} {ops : Array Oper} {rest : List Oper} {o : Oper} {a : Act} {Q : Exit → Act → World → Prop}
    (hg : o.guard = none) (hop : o.op = Op.alloc 46)
    (hK : wpList Trym.prog ops Q rest (a.put o.dst (.pointer (some ⟨w.heap.size, 0, none⟩))) (w.alloc zeros46)) :
    wpList Trym.prog ops Q (o :: rest) a w := by
  refine wpList_plain hg fun K hK' => ?_
  have hr := run_alloc46 w
  generalize zeros46 = ob at hr hK
  unfold Oper.wp execOp
  simp only [hop, hr, Sem.run_bind, Result.andThen_ok, Sem.run_pure]
  exact hK' _ _ hK
theorem Cnt_born (w : World) : Cnt (w.alloc zeros46) w.heap.size (fun _ => 0) := by
  have hb : (w.alloc zeros46).heap[w.heap.size]? = some zeros46 := heap_alloc_new w _
  refine ⟨by simp, ?_, ?_⟩
  · intro i hi
    unfold World.cell?
    rw [hb]
    simp only [zeros46]
    simp [hi]
  · intro i hi
    unfold World.frozen?
    rw [hb]
    simp [zeros46]

/-! ### 'make([]Block, n)' -/
def zeroBlk : Blk := ⟨0, 0, 0, false, 0, 0⟩
theorem Recs_made (w : World) (n : Nat) : Recs (w.alloc (.cells (madeCells #[.int .u64 0, .int .u64 0, .int .u64 0, .bool false, .int .u64 0, .int .u64 0] (n * 6)) 27 (0, 0))) w.heap.size (List.replicate n zeroBlk) := by
  refine ⟨by simp, ?_, ?_⟩
  · intro i x hx j v hv
    obtain ⟨hi, rfl⟩ : i < n ∧ x = zeroBlk := by
      obtain ⟨h1, h2⟩ := List.getElem?_eq_some_iff.1 hx
      simp at h1 h2; exact ⟨h1, h2.symm⟩
    have hj : j < 6 := by have := (List.getElem?_eq_some_iff.1 hv).1; rwa [length_vals] at this
    rw [World.cell?_alloc_new]
    have hlt : i * 6 + j < n * 6 := by omega
    simp only [madeCells, Array.getElem?_map]
    rw [Array.getElem?_range, if_pos hlt]
    have hm : (i * 6 + j) % 6 = j := by omega
    simp only [Option.map_some]
    have : (#[Value.int .u64 0, .int .u64 0, .int .u64 0, .bool false, .int .u64 0, .int .u64 0] : Array Value).size = 6 := rfl
    rw [this, hm, ← hv]
    match j, hj with
    | 0, _ => rfl
    | 1, _ => rfl
    | 2, _ => rfl
    | 3, _ => rfl
    | 4, _ => rfl
    | 5, _ => rfl
  · intro o ho
    exact World.frozen?_alloc_at _ _ _ _ rfl

theorem wpList_make27 {w : World} {ops : Array Oper} {rest : List Oper} {o : Oper} {a : Act} {Q : Exit → Act → World → Prop}
    (hg : o.guard = none) (l c : Operand) (hop : o.op = Op.makeSlice 24 l c) (L : Int) (n : Nat) (hL : a.eval l = .int .i64 L) (hC : a.eval c = .int .i64 L) (hLn : L = (n : Int)) (hn : n ≤ 131072)
    (hK : ∀ w', Recs w' w.heap.size (List.replicate n zeroBlk) → w'.heap.size = w.heap.size + 1 → (∀ ba, Kept w w' ba) → (∀ k, k < w.heap.size → w'.heap[k]? = w.heap[k]?) → wpList Trym.prog ops Q rest (a.put o.dst (.slice (some ⟨w.heap.size, 0, none⟩) n n)) w') :
    wpList Trym.prog ops Q (o :: rest) a w := by
  refine wpList_plain hg fun K hK' => ?_
  subst hLn
  obtain ⟨i, hi, hz0, hz1, hz2⟩ := info_parts info27
  have hr := run_make (P := Trym.prog) w 24 27 i _ Trym.underlying24 hi hz0 .i64 .i64 n n (by omega) (Int.le_refl _) (by rw [hz2]; omega) (by omega)
  rw [hz1] at hr
  simp only [Int.toNat_natCast, Value.cells] at hr
  unfold Oper.wp
  simp [execOp, hop, hL, hC, hr, Result.andThen]
  exact hK' _ _ (hK _ (Recs_made w n) (by simp) (fun ba => (Kept.refl w ba).alloc _) (fun k hk => Below.heap_alloc w _ k hk))

/-! ### 'copy(dst, src)', both of n records, each a whole block's head -/
def flat (rs : List Blk) : List Value := rs.flatMap vals
theorem length_flat (rs : List Blk) : (flat rs).length = rs.length * 6 := by
  induction rs with
  | nil => rfl
  | cons x r ih => simp only [flat, List.flatMap_cons, List.length_append, length_vals, List.length_cons] at *; omega
theorem flat_at (rs : List Blk) (i j : Nat) (hj : j < 6) : (flat rs)[i * 6 + j]? = rs[i]?.bind fun x => (vals x)[j]? := by
  induction rs generalizing i with
  | nil => simp [flat]
  | cons x r ih =>
    rw [flat, List.flatMap_cons]
    match i with
    | 0 => rw [List.getElem?_append_left (by rw [length_vals]; omega)]; simp
    | i + 1 =>
      rw [List.getElem?_append_right (by rw [length_vals]; omega), length_vals, show (i + 1) * 6 + j - 6 = i * 6 + j by omega]
      simpa [flat] using ih i
theorem one_flat (rs : List Blk) : ∀ v ∈ flat rs, v.oneCell' = true := by
  intro v hv
  obtain ⟨x, _, hx⟩ := List.mem_flatMap.1 hv
  exact one_vals x v hx
theorem Recs.flatAt {w : World} {b : Nat} {rs : List Blk} (h : Recs w b rs) (o : Nat) (v : Value) (hv : (flat rs)[o]? = some v) : w.cell? ⟨b, o, none⟩ = some v := by
  have e : o = o / 6 * 6 + o % 6 := by omega
  rw [e, flat_at rs (o / 6) (o % 6) (by omega)] at hv
  obtain ⟨x, hx, hv'⟩ := Option.bind_eq_some_iff.1 hv
  rw [e]
  exact h.cell _ x hx _ v hv'

theorem run_copy27 {w : World} (ty : TypeId) (d s n : Nat) (old rs : List Blk) (hd : Recs w d old) (hs : Recs w s rs) (hn : rs.length = n) (hn' : old.length = n) :
    (Builtin.copy_ #[24, 24] ty #[.slice (some ⟨d, 0, none⟩) n n, .slice (some ⟨s, 0, none⟩) n n]).run Trym.prog w = .ok (goInt n) (w.setCells d 0 (flat rs)) := by
  have hl := run_loadCells_list (P := Trym.prog) w ⟨s, 0, none⟩ (flat rs) (fun j v hv => by rw [Addr.add_mid, Nat.zero_add]; exact hs.flatAt j v hv)
  have hlen := length_flat rs
  have hst := run_storeCells_cells (P := Trym.prog) d 0 (flat rs) 0 w (fun j hj => by simpa using hd.isSome j (by omega)) (fun j hj => by simpa using hd.soft j (by omega)) (one_flat rs)
  obtain ⟨i, hi, hz0, hz1, hz2⟩ := info_parts info27
  rw [hlen, hn] at hl
  simp [Builtin.copy_, run_underlying Trym.underlying24, Builtin.lenOf, Builtin.firstCells, sizeOf, typeInfo, hi, hz1, hl, hst]

theorem Recs_copied {w : World} {d : Nat} {old rs : List Blk} (hd : Recs w d old) (hn : rs.length = old.length) : Recs (w.setCells d 0 (flat rs)) d rs := by
  have hlen := length_flat rs
  refine ⟨by rw [size_setCells]; exact hd.lt, ?_, ?_⟩
  · intro i x hx j v hv
    have hj : j < 6 := by have := (List.getElem?_eq_some_iff.1 hv).1; rwa [length_vals] at this
    have hf : (flat rs)[i * 6 + j]? = some v := by rw [flat_at rs i j hj, hx]; exact hv
    have := World.rangeAt_setCells_same w d 0 (flat rs) (fun j hj => by simpa using ⟨hd.isSome j (by omega), hd.soft j (by omega)⟩) _ v hf
    simpa using this
  · intro o ho
    rw [World.frozen?_setCells]
    exact hd.soft o (by omega)

theorem wpList_copy27 {w : World} {ops : Array Oper} {rest : List Oper} {o : Oper} {a : Act} {Q : Exit → Act → World → Prop}
    (hg : o.guard = none) (x y : Operand) (hop : o.op = .call { callee := .builtin .copy, args := #[x, y], argTypes := #[24, 24] })
    (d s n : Nat) (hx : a.eval x = .slice (some ⟨d, 0, none⟩) n n) (hy : a.eval y = .slice (some ⟨s, 0, none⟩) n n)
    (old rs : List Blk) (hd : Recs w d old) (hs : Recs w s rs) (hn : rs.length = n) (hn' : old.length = n)
    (hK : ∀ w', Recs w' d rs → Kept w w' d → wpList Trym.prog ops Q rest (a.put o.dst (goInt n)) w') :
    wpList Trym.prog ops Q (o :: rest) a w := by
  refine wpList_plain hg fun K hK' => ?_
  have hr := run_copy27 (w := w) o.type d s n old rs hd hs hn hn'
  unfold Oper.wp
  simp [execOp, hop, resolve, invoke, builtin, hx, hy, hr, Result.andThen]
  exact hK' _ _ (hK _ (Recs_copied hd (by omega)) ((Kept.refl w d).setCells (.inl rfl) _ _))
end Go.Proofs.Qxb6600586aMods.Mem
