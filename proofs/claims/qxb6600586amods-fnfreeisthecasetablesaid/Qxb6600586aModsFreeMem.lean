/-
  WHAT LIES IN MEMORY WHILE free AND ZZfree RUN: slices that the call owns, appended to; the Layout behind the pointer.
-/
import Derived.Test.Qxb6600586aModsRows
import Derived.Test.Qxb6600586aModsFreePlain
import Derived.WalkKit
import Derived.Deep.AppendLies
namespace Go.Proofs.Qxb6600586aMods.Free
open Go.RowKit Go.Proofs.Qxb6600586aMods.FreePlain

theorem info25 : (Trym.prog.info? 25).map (fun i => (i.zero, i.size, i.bytes)) = some (some (.int .u64 0), 1, 8) := by kernel_rfl
theorem info42 : (Trym.prog.info? 42).map (fun i => (i.zero, i.size, i.bytes)) = some (some (.agg #[.int .u64 0, .int .u64 0]), 2, 16) := by kernel_rfl
theorem info44 : (Trym.prog.info? 44).map (fun i => (i.zero, i.size, i.bytes)) = some (some (.agg #[.int .u64 0, .int .u64 0]), 2, 16) := by kernel_rfl

/-- The same memory, streams and tape (the count of draws aside). -/
def SameW (a b : World) : Prop := a.heap = b.heap ∧ a.os = b.os ∧ a.tape = b.tape ∧ a.output = b.output

def two (p : Int × Int) : List Value := [.int .u64 p.1, .int .u64 p.2]
def flat2 (ps : List (Int × Int)) : List Value := ps.flatMap two
theorem length_flat2 (ps : List (Int × Int)) : (flat2 ps).length = ps.length * 2 := by
  induction ps with
  | nil => rfl
  | cons x r ih =>
    have l2 : (two x).length = 2 := rfl
    simp only [flat2, List.flatMap_cons, List.length_append, List.length_cons, l2] at *; omega
theorem flat2_snoc (ps : List (Int × Int)) (p : Int × Int) : flat2 (ps ++ [p]) = flat2 ps ++ two p := by simp [flat2]
theorem flat2_at (ps : List (Int × Int)) (i : Nat) (p : Int × Int) (h : ps[i]? = some p) : (flat2 ps)[i * 2]? = some (.int .u64 p.1) ∧ (flat2 ps)[i * 2 + 1]? = some (.int .u64 p.2) := by
  induction ps generalizing i with
  | nil => simp at h
  | cons x r ih =>
    rw [flat2, List.flatMap_cons]
    match i, h with
    | 0, h =>
      simp at h; subst h
      exact ⟨rfl, rfl⟩
    | i + 1, h =>
      have := ih i (by simpa using h)
      have l2 : (two x).length = 2 := rfl
      rw [List.getElem?_append_right (by rw [l2]; omega), List.getElem?_append_right (by rw [l2]; omega), l2, show (i + 1) * 2 - 2 = i * 2 by omega, show (i + 1) * 2 + 1 - 2 = i * 2 + 1 by omega]
      exact this

/-! ### append of one element, in the walk's form -/
theorem one_two (p : Int × Int) : ∀ u ∈ two p, u.oneCell' = true := by intro u hu; simp [two] at hu; rcases hu with rfl | rfl <;> rfl

/-- 'append(s, x)' onto a slice of pairs: t: the slice's type; e: the element's. The new element lies in the block B, known whole. -/
theorem run_app2 (t e : TypeId) (ht : Trym.prog.underlying t = some (.slice e)) (hinfo : (Trym.prog.info? e).map (fun i => (i.zero, i.size, i.bytes)) = some (some (.agg #[.int .u64 0, .int .u64 0]), 2, 16))
    (w : World) (ty : TypeId) (base : Nat) (v : Value) (ps : List (Int × Int)) (hown : w.ownsRow base e 2 v ps.length (flat2 ps)) (B : Nat) (p : Int × Int) (hB : w.heap[B]? = some (.cells #[.int .u64 p.1, .int .u64 p.2] e (0, 0)))
    (hn : ps.length ≤ 1000) (hbase : base ≤ w.heap.size) :
    ∃ g cap w', (Builtin.append_ #[t, t] ty #[v, .slice (some ⟨B, 0, none⟩) 1 1]).run Trym.prog w = .ok (.slice (some ⟨g, 0, none⟩) (ps.length + 1) cap) w' ∧
      w'.ownsRow base e 2 (.slice (some ⟨g, 0, none⟩) (ps.length + 1) cap) (ps ++ [p]).length (flat2 (ps ++ [p])) ∧ w.grownBy w' v.ownBlock ∧ (v.ownBlock = some g ∨ g = w.heap.size) ∧ g < w'.heap.size := by
  obtain ⟨i, hi, hz0, hz1, hz2⟩ := info_parts hinfo
  obtain ⟨g, cap, w', h1, h2, h3, h4, h5⟩ := run_append_lies (P := Trym.prog) w t ty base e i _ 2 16 ht hi hz0 hz1 hz2 rfl (by omega) v ps.length (flat2 ps) hown ⟨B, 0, none⟩ 1 1 (two p) rfl
    (fun j u hu => World.news_of_block hB j u hu) (one_two p) (by omega) (by unfold maxLen; omega) (by omega) hbase _ rfl
  refine ⟨g, cap, w', h1, ?_, h3, h4, h5⟩
  rw [flat2_snoc, List.length_append]
  exact h2
/-- The same onto a slice of uint64. -/
def nums (zs : List Int) : List Value := zs.map (Value.int .u64)
theorem run_app1 (w : World) (ty : TypeId) (base : Nat) (v : Value) (zs : List Int) (hown : w.ownsRow base 25 1 v zs.length (nums zs)) (B : Nat) (z : Int) (hB : w.heap[B]? = some (.cells #[.int .u64 z] 25 (0, 0)))
    (hn : zs.length ≤ 1000) (hbase : base ≤ w.heap.size) :
    ∃ g cap w', (Builtin.append_ #[22, 22] ty #[v, .slice (some ⟨B, 0, none⟩) 1 1]).run Trym.prog w = .ok (.slice (some ⟨g, 0, none⟩) (zs.length + 1) cap) w' ∧
      w'.ownsRow base 25 1 (.slice (some ⟨g, 0, none⟩) (zs.length + 1) cap) (zs ++ [z]).length (nums (zs ++ [z])) ∧ w.grownBy w' v.ownBlock ∧ (v.ownBlock = some g ∨ g = w.heap.size) ∧ g < w'.heap.size := by
  obtain ⟨i, hi, hz0, hz1, hz2⟩ := info_parts info25
  obtain ⟨g, cap, w', h1, h2, h3, h4, h5⟩ := run_append_lies (P := Trym.prog) w 22 ty base 25 i _ 1 8 Trym.underlying22 hi hz0 hz1 hz2 rfl (by omega) v zs.length (nums zs) hown ⟨B, 0, none⟩ 1 1 [.int .u64 z] rfl
    (fun j u hu => World.news_of_block hB j u hu) (by intro u hu; simp at hu; subst hu; rfl) (by omega) (by unfold maxLen; omega) (by omega) hbase _ rfl
  refine ⟨g, cap, w', h1, ?_, h3, h4, h5⟩
  have e : nums (zs ++ [z]) = nums zs ++ [.int .u64 z] := by simp [nums]
  rw [e, List.length_append]
  exact h2

/-! ### The appends as laws for the walk -/
theorem wp_app2 {o : Oper} {a : Act} {w : World} {K : Act → World → Prop} {Q : Exit → Act → World → Prop} (s x : Operand) (t e : TypeId)
    (ht : Trym.prog.underlying t = some (.slice e)) (hinfo : (Trym.prog.info? e).map (fun i => (i.zero, i.size, i.bytes)) = some (some (.agg #[.int .u64 0, .int .u64 0]), 2, 16))
    (hop : o.op = .call { callee := .builtin .append, args := #[s, x], argTypes := #[t, t] })
    (base : Nat) (v : Value) (ps : List (Int × Int)) (hs : a.eval s = v) (hown : w.ownsRow base e 2 v ps.length (flat2 ps)) (B : Nat) (p : Int × Int) (hx : a.eval x = .slice (some ⟨B, 0, none⟩) 1 1)
    (hB : w.heap[B]? = some (.cells #[.int .u64 p.1, .int .u64 p.2] e (0, 0))) (hn : ps.length ≤ 1000) (hbase : base ≤ w.heap.size)
    (hK : ∀ g cap w', w'.ownsRow base e 2 (.slice (some ⟨g, 0, none⟩) (ps ++ [p]).length cap) (ps ++ [p]).length (flat2 (ps ++ [p])) → w.grownBy w' v.ownBlock → (v.ownBlock = some g ∨ g = w.heap.size) → g < w'.heap.size →
      K (a.put o.dst (.slice (some ⟨g, 0, none⟩) (ps ++ [p]).length cap)) w') : o.wp Trym.prog a w K Q := by
  obtain ⟨g, cap, w', h1, h2, h3, h4, h5⟩ := run_app2 t e ht hinfo w o.type base v ps hown B p hB hn hbase
  have el : ps.length + 1 = (ps ++ [p]).length := by simp
  rw [el] at h1 h2
  unfold Oper.wp execOp
  simp only [hop, resolve, invoke, builtin, Sem.run_bind, Sem.run_pure, Result.andThen_ok, List.map_toArray, List.map_cons, List.map_nil, hs, hx, h1]
  exact hK g cap w' h2 h3 h4 h5
theorem wpList_app2 {ops : Array Oper} {rest : List Oper} {o : Oper} {a : Act} {w : World} {Q : Exit → Act → World → Prop} (hgd : o.guard = none) (s x : Operand) (t e : TypeId)
    (ht : Trym.prog.underlying t = some (.slice e)) (hinfo : (Trym.prog.info? e).map (fun i => (i.zero, i.size, i.bytes)) = some (some (.agg #[.int .u64 0, .int .u64 0]), 2, 16))
    (hop : o.op = .call { callee := .builtin .append, args := #[s, x], argTypes := #[t, t] })
    (base : Nat) (v : Value) (ps : List (Int × Int)) (hs : a.eval s = v) (hown : w.ownsRow base e 2 v ps.length (flat2 ps)) (B : Nat) (p : Int × Int) (hx : a.eval x = .slice (some ⟨B, 0, none⟩) 1 1)
    (hB : w.heap[B]? = some (.cells #[.int .u64 p.1, .int .u64 p.2] e (0, 0))) (hn : ps.length ≤ 1000) (hbase : base ≤ w.heap.size)
    (hK : ∀ g cap w', w'.ownsRow base e 2 (.slice (some ⟨g, 0, none⟩) (ps ++ [p]).length cap) (ps ++ [p]).length (flat2 (ps ++ [p])) → w.grownBy w' v.ownBlock → (v.ownBlock = some g ∨ g = w.heap.size) → g < w'.heap.size →
      wpList Trym.prog ops Q rest (a.put o.dst (.slice (some ⟨g, 0, none⟩) (ps ++ [p]).length cap)) w') : wpList Trym.prog ops Q (o :: rest) a w :=
  wpList_plain hgd fun _ hK' => wp_app2 s x t e ht hinfo hop base v ps hs hown B p hx hB hn hbase fun g cap w' h2 h3 h4 h5 => hK' _ _ (hK g cap w' h2 h3 h4 h5)
theorem step_app2 {ops : Array Oper} {o : Oper} {a : Act} {w : World} {K : Act → World → Prop} {Q : Exit → Act → World → Prop} {E : Prop} (hgd : o.guard = none) (s x : Operand) (t e : TypeId)
    (ht : Trym.prog.underlying t = some (.slice e)) (hinfo : (Trym.prog.info? e).map (fun i => (i.zero, i.size, i.bytes)) = some (some (.agg #[.int .u64 0, .int .u64 0]), 2, 16))
    (hop : o.op = .call { callee := .builtin .append, args := #[s, x], argTypes := #[t, t] })
    (base : Nat) (v : Value) (ps : List (Int × Int)) (hs : a.eval s = v) (hown : w.ownsRow base e 2 v ps.length (flat2 ps)) (B : Nat) (p : Int × Int) (hx : a.eval x = .slice (some ⟨B, 0, none⟩) 1 1)
    (hB : w.heap[B]? = some (.cells #[.int .u64 p.1, .int .u64 p.2] e (0, 0))) (hn : ps.length ≤ 1000) (hbase : base ≤ w.heap.size)
    (hK : ∀ g cap w', w'.ownsRow base e 2 (.slice (some ⟨g, 0, none⟩) (ps ++ [p]).length cap) (ps ++ [p]).length (flat2 (ps ++ [p])) → w.grownBy w' v.ownBlock → (v.ownBlock = some g ∨ g = w.heap.size) → g < w'.heap.size →
      K (a.put o.dst (.slice (some ⟨g, 0, none⟩) (ps ++ [p]).length cap)) w') :
    if Region.wanted o (yielded ops a.tmps) = true then Oper.wp Trym.prog o a w K Q else E := by
  have hw : Region.wanted o (yielded ops a.tmps) = true := by simp [Region.wanted, hgd]
  rw [if_pos hw]
  exact wp_app2 s x t e ht hinfo hop base v ps hs hown B p hx hB hn hbase hK
theorem wpList_app1 {ops : Array Oper} {rest : List Oper} {o : Oper} {a : Act} {w : World} {Q : Exit → Act → World → Prop} (hgd : o.guard = none) (s x : Operand)
    (hop : o.op = .call { callee := .builtin .append, args := #[s, x], argTypes := #[22, 22] })
    (base : Nat) (v : Value) (zs : List Int) (hs : a.eval s = v) (hown : w.ownsRow base 25 1 v zs.length (nums zs)) (B : Nat) (z : Int) (hx : a.eval x = .slice (some ⟨B, 0, none⟩) 1 1)
    (hB : w.heap[B]? = some (.cells #[.int .u64 z] 25 (0, 0))) (hn : zs.length ≤ 1000) (hbase : base ≤ w.heap.size)
    (hK : ∀ g cap w', w'.ownsRow base 25 1 (.slice (some ⟨g, 0, none⟩) (zs ++ [z]).length cap) (zs ++ [z]).length (nums (zs ++ [z])) → w.grownBy w' v.ownBlock → (v.ownBlock = some g ∨ g = w.heap.size) → g < w'.heap.size →
      wpList Trym.prog ops Q rest (a.put o.dst (.slice (some ⟨g, 0, none⟩) (zs ++ [z]).length cap)) w') : wpList Trym.prog ops Q (o :: rest) a w := by
  refine wpList_plain hgd fun K hK' => ?_
  obtain ⟨g, cap, w', h1, h2, h3, h4, h5⟩ := run_app1 w o.type base v zs hown B z hB hn hbase
  have el : zs.length + 1 = (zs ++ [z]).length := by simp
  rw [el] at h1 h2
  unfold Oper.wp execOp
  simp only [hop, resolve, invoke, builtin, Sem.run_bind, Sem.run_pure, Result.andThen_ok, List.map_toArray, List.map_cons, List.map_nil, hs, hx, h1]
  exact hK' _ _ (hK g cap w' h2 h3 h4 h5)

/-! ### The Layout while free runs -/
/-- w: the world in which free began; bl: the Layout's block; rl, gl: the runs and gaps laid down so far; ve, vg: what its fields hold. -/
structure F (w wr : World) (bl : Nat) (rl gl : List (Int × Int)) (ve vg : Value) : Prop where
  ce : wr.cell? ⟨bl, 2, none⟩ = some ve
  cg : wr.cell? ⟨bl, 1, none⟩ = some vg
  fe : wr.frozen? ⟨bl, 2, none⟩ = false
  fg : wr.frozen? ⟨bl, 1, none⟩ = false
  oe : wr.ownsRow w.heap.size 42 2 ve rl.length (flat2 rl)
  og : wr.ownsRow w.heap.size 44 2 vg gl.length (flat2 gl)
  ap : ∀ g, ve.ownBlock = some g → vg.ownBlock ≠ some g
  lt : bl < w.heap.size
  kept : w.grownBy wr (some bl)

theorem ownsRow_same {w w' : World} {base : Nat} {e : TypeId} {size : Nat} {v : Value} {n : Nat} {xs : List Value} (h : w.ownsRow base e size v n xs) (s : SameW w' w) : w'.ownsRow base e size v n xs := by
  obtain ⟨h1, h2⟩ := h
  refine ⟨h1, ?_⟩
  rw [s.1]; exact h2
theorem cell_same {w w' : World} (s : SameW w' w) (a : Addr) : w'.cell? a = w.cell? a := World.cell?_of_block (by rw [s.1])
theorem frozen_same {w w' : World} (s : SameW w' w) (a : Addr) : w'.frozen? a = w.frozen? a := World.frozen?_of_block (by rw [s.1])
theorem kept_same {w wr w' : World} {row : Option Nat} (h : w.grownBy wr row) (s : SameW w' wr) : w.grownBy w' row := by
  obtain ⟨f1, f2, f3, f4⟩ := s
  exact ⟨f2.trans h.os, f3.trans h.tape, f4.trans h.output, by rw [f1]; exact h.size, fun i hi hne => by rw [f1]; exact h.block i hi hne⟩
theorem kept_alloc {w wr : World} {row : Option Nat} (h : w.grownBy wr row) (o : Obj) : w.grownBy (wr.alloc o) row :=
  ⟨h.os, h.tape, h.output, by have := h.size; simp; omega, fun k hk hne => (Below.heap_alloc wr o k (by have := h.size; omega)).trans (h.block k hk hne)⟩
theorem kept_setCell {w wr : World} {b : Nat} (h : w.grownBy wr (some b)) (o : Nat) (v : Value) : w.grownBy (wr.setCell ⟨b, o, none⟩ v) (some b) :=
  ⟨h.os, h.tape, h.output, by simp only [World.setCell, Array.size_modify]; exact h.size, fun k hk hne => (Below.heap_setCell wr _ v k (by intro e; exact hne (by rw [e]))).trans (h.block k hk hne)⟩
/-- Behind an append: only a row of the call's own has turned. -/
theorem kept_grown {w wr w' : World} {row r : Option Nat} (h : w.grownBy wr row) (hg : wr.grownBy w' r) (hr : ∀ k, r = some k → w.heap.size ≤ k) : w.grownBy w' row :=
  ⟨hg.os.trans h.os, hg.tape.trans h.tape, hg.output.trans h.output, Nat.le_trans h.size hg.size, fun k hk hne => (hg.block k (by have := h.size; omega) (fun e => by have := hr k e.symm; omega)).trans (h.block k hk hne)⟩

theorem F.same {w wr w' : World} {bl : Nat} {rl gl : List (Int × Int)} {ve vg : Value} (h : F w wr bl rl gl ve vg) (s : SameW w' wr) : F w w' bl rl gl ve vg :=
  ⟨(cell_same s _).trans h.ce, (cell_same s _).trans h.cg, (frozen_same s _).trans h.fe, (frozen_same s _).trans h.fg, ownsRow_same h.oe s, ownsRow_same h.og s, h.ap, h.lt, kept_same h.kept s⟩
theorem F.alloc {w wr : World} {bl : Nat} {rl gl : List (Int × Int)} {ve vg : Value} (h : F w wr bl rl gl ve vg) (o : Obj) : F w (wr.alloc o) bl rl gl ve vg := by
  have hb : bl < wr.heap.size := by have := h.lt; have := h.kept.size; omega
  have e : (wr.alloc o).heap[bl]? = wr.heap[bl]? := Below.heap_alloc wr o bl hb
  exact ⟨(World.cell?_of_block (w := wr) e).trans h.ce, (World.cell?_of_block (w := wr) e).trans h.cg, (World.frozen?_of_block (w := wr) e).trans h.fe, (World.frozen?_of_block (w := wr) e).trans h.fg, h.oe.alloc o, h.og.alloc o, h.ap, h.lt, kept_alloc h.kept o⟩

theorem F.drew {w wr : World} {bl : Nat} {rl gl : List (Int × Int)} {ve vg : Value} (h : F w wr bl rl gl ve vg) : F w wr.drew bl rl gl ve vg := h.same ⟨rfl, rfl, rfl, rfl⟩
/-- Behind an append, ahead of the store into the field. -/
theorem F.behind {w wr w1 : World} {bl : Nat} {rl gl : List (Int × Int)} {ve vg : Value} (h : F w wr bl rl gl ve vg) {row : Option Nat} (hgrow : wr.grownBy w1 row) (hrow : row = ve.ownBlock ∨ row = vg.ownBlock) :
    w1.cell? ⟨bl, 1, none⟩ = some vg ∧ w1.cell? ⟨bl, 2, none⟩ = some ve ∧ w1.frozen? ⟨bl, 1, none⟩ = false ∧ w1.frozen? ⟨bl, 2, none⟩ = false ∧ bl < w1.heap.size := by
  have hb : bl < wr.heap.size := by have := h.lt; have := h.kept.size; omega
  have hne : some bl ≠ row := fun e => by
    have := h.lt
    rcases hrow with r | r
    · have := (h.oe.lt bl (by rw [← r, e])).1; omega
    · have := (h.og.lt bl (by rw [← r, e])).1; omega
  have eb : w1.heap[bl]? = wr.heap[bl]? := hgrow.block bl hb hne
  exact ⟨(World.cell?_of_block (w := wr) eb).trans h.cg, (World.cell?_of_block (w := wr) eb).trans h.ce, (World.frozen?_of_block (w := wr) eb).trans h.fg, (World.frozen?_of_block (w := wr) eb).trans h.fe, by have := hgrow.size; omega⟩

/-- A gap has been appended and the field stored. -/
theorem F.gap {w wr w1 : World} {bl : Nat} {rl gl : List (Int × Int)} {ve vg : Value} (h : F w wr bl rl gl ve vg) {g cap : Nat} {gl' : List (Int × Int)}
    (hown : w1.ownsRow w.heap.size 44 2 (.slice (some ⟨g, 0, none⟩) gl'.length cap) gl'.length (flat2 gl')) (hgrow : wr.grownBy w1 vg.ownBlock) {H : Nat} (hH : wr.heap.size ≤ H) (hat : vg.ownBlock = some g ∨ g = H) :
    F w (w1.setCell ⟨bl, 1, none⟩ (.slice (some ⟨g, 0, none⟩) gl'.length cap)) bl rl gl' ve (.slice (some ⟨g, 0, none⟩) gl'.length cap) := by
  have hb : bl < wr.heap.size := by have := h.lt; have := h.kept.size; omega
  have hrow : ∀ k, vg.ownBlock = some k → w.heap.size ≤ k := fun k hk => (h.og.lt k hk).1
  have hne : some bl ≠ vg.ownBlock := fun e => by have := hrow bl e.symm; have := h.lt; omega
  have eb : w1.heap[bl]? = wr.heap[bl]? := hgrow.block bl hb hne
  have c1 : w1.cell? ⟨bl, 1, none⟩ = some vg := (World.cell?_of_block (w := wr) eb).trans h.cg
  have c2 : w1.cell? ⟨bl, 2, none⟩ = some ve := (World.cell?_of_block (w := wr) eb).trans h.ce
  refine ⟨?_, ?_, ?_, ?_, ?_, ?_, ?_, h.lt, ?_⟩
  · rw [World.cell?_setCell_other _ _ _ _ (fun e => by have := congrArg Addr.off e; simp at this)]; exact c2
  · exact World.cell?_setCell_same _ _ _ c1
  · rw [World.frozen?_setCell]; exact (World.frozen?_of_block (w := wr) eb).trans h.fe
  · rw [World.frozen?_setCell]; exact (World.frozen?_of_block (w := wr) eb).trans h.fg
  · refine ownsRow_setCell_below (h.oe.kept hgrow ?_) h.lt _
    cases hv : ve.ownBlock with
    | none => exact .inl rfl
    | some k => exact .inr (fun e => h.ap k hv e.symm)
  · exact ownsRow_setCell_below hown h.lt _
  · intro k hk hk'
    simp [Value.ownBlock] at hk'
    subst hk'
    rcases hat with e | e
    · exact h.ap _ hk e
    · have := (h.oe.lt _ hk).2; omega
  · exact kept_setCell (kept_grown h.kept hgrow hrow) 1 _
/-- A run has been appended and the field stored. -/
theorem F.run {w wr w1 : World} {bl : Nat} {rl gl : List (Int × Int)} {ve vg : Value} (h : F w wr bl rl gl ve vg) {g cap : Nat} {rl' : List (Int × Int)}
    (hown : w1.ownsRow w.heap.size 42 2 (.slice (some ⟨g, 0, none⟩) rl'.length cap) rl'.length (flat2 rl')) (hgrow : wr.grownBy w1 ve.ownBlock) {H : Nat} (hH : wr.heap.size ≤ H) (hat : ve.ownBlock = some g ∨ g = H) :
    F w (w1.setCell ⟨bl, 2, none⟩ (.slice (some ⟨g, 0, none⟩) rl'.length cap)) bl rl' gl (.slice (some ⟨g, 0, none⟩) rl'.length cap) vg := by
  have hb : bl < wr.heap.size := by have := h.lt; have := h.kept.size; omega
  have hrow : ∀ k, ve.ownBlock = some k → w.heap.size ≤ k := fun k hk => (h.oe.lt k hk).1
  have hne : some bl ≠ ve.ownBlock := fun e => by have := hrow bl e.symm; have := h.lt; omega
  have eb : w1.heap[bl]? = wr.heap[bl]? := hgrow.block bl hb hne
  have c1 : w1.cell? ⟨bl, 1, none⟩ = some vg := (World.cell?_of_block (w := wr) eb).trans h.cg
  have c2 : w1.cell? ⟨bl, 2, none⟩ = some ve := (World.cell?_of_block (w := wr) eb).trans h.ce
  refine ⟨?_, ?_, ?_, ?_, ?_, ?_, ?_, h.lt, ?_⟩
  · exact World.cell?_setCell_same _ _ _ c2
  · rw [World.cell?_setCell_other _ _ _ _ (fun e => by have := congrArg Addr.off e; simp at this)]; exact c1
  · rw [World.frozen?_setCell]; exact (World.frozen?_of_block (w := wr) eb).trans h.fe
  · rw [World.frozen?_setCell]; exact (World.frozen?_of_block (w := wr) eb).trans h.fg
  · exact ownsRow_setCell_below hown h.lt _
  · refine ownsRow_setCell_below (h.og.kept hgrow ?_) h.lt _
    cases hv : vg.ownBlock with
    | none => exact .inl rfl
    | some k => exact .inr (fun e => h.ap k e.symm hv)
  · intro k hk hk'
    simp [Value.ownBlock] at hk
    subst hk
    rcases hat with e | e
    · exact h.ap _ e hk'
    · have := (h.og.lt _ hk').2; omega
  · exact kept_setCell (kept_grown h.kept hgrow hrow) 2 _
/-- The same behind the append of a run: the variable 'run' (its block: the first of two new ones) reads as it did. -/
theorem F.behind2 {w wr w1 : World} {bl : Nat} {rl gl : List (Int × Int)} {ve vg : Value} (h : F w wr bl rl gl ve vg) {x y : Value} {t : TypeId} {ob : Obj} (hgrow : (((wr.alloc (.cells #[x, y] t)).alloc ob).drew).grownBy w1 ve.ownBlock) :
    w1.cell? ⟨bl, 2, none⟩ = some ve ∧ w1.frozen? ⟨bl, 2, none⟩ = false ∧ w1.cell? ⟨wr.heap.size, 0, none⟩ = some x ∧ w1.cell? ⟨wr.heap.size, 1, none⟩ = some y := by
  have hF : F w (((wr.alloc (.cells #[x, y] t)).alloc ob).drew) bl rl gl ve vg := ((h.alloc _).alloc _).same ⟨rfl, rfl, rfl, rfl⟩
  have hne : some wr.heap.size ≠ ve.ownBlock := fun e => by have := (h.oe.lt _ e.symm).2; omega
  have eb : w1.heap[wr.heap.size]? = (((wr.alloc (.cells #[x, y] t)).alloc ob).drew).heap[wr.heap.size]? := hgrow.block _ (by simp [World.drew]; omega) hne
  have c : ∀ i, w1.cell? ⟨wr.heap.size, i, none⟩ = #[x, y][i]? := fun i => by
    refine (World.cell?_of_block (w := ((wr.alloc (.cells #[x, y] t)).alloc ob).drew) eb).trans ?_
    rw [World.cell?_drew, World.cell?_alloc_past _ _ _ (by simp), World.cell?_alloc_new]
  exact ⟨(hF.behind hgrow (.inl rfl)).2.1, (hF.behind hgrow (.inl rfl)).2.2.2.1, c 0, c 1⟩
theorem two_new (w : World) (A B : Obj) : ((w.alloc A).alloc B).drew.heap[w.heap.size + 1]? = some B := by
  have := heap_alloc_new (w.alloc A) B
  rw [World.size_alloc] at this
  exact this

/-- The two in the walk's spelling. -/
theorem F.gap1 {w wr w1 : World} {bl : Nat} {rl gl : List (Int × Int)} {ve vg : Value} (h : F w wr bl rl gl ve vg) {g cap : Nat} {p : Int × Int}
    (hown : w1.ownsRow w.heap.size 44 2 (.slice (some ⟨g, 0, none⟩) (gl.length + 1) cap) (gl.length + 1) (flat2 (gl ++ [p]))) (hgrow : wr.grownBy w1 vg.ownBlock) {H : Nat} (hH : wr.heap.size ≤ H) (hat : vg.ownBlock = some g ∨ g = H) :
    F w (w1.setCell ⟨bl, 1, none⟩ (.slice (some ⟨g, 0, none⟩) (gl.length + 1) cap)) bl rl (gl ++ [p]) ve (.slice (some ⟨g, 0, none⟩) (gl.length + 1) cap) := by
  have el : gl.length + 1 = (gl ++ [p]).length := by simp
  rw [el] at hown ⊢
  exact h.gap hown hgrow hH hat
theorem F.run1 {w wr w1 : World} {bl : Nat} {rl gl : List (Int × Int)} {ve vg : Value} (h : F w wr bl rl gl ve vg) {g cap : Nat} {p : Int × Int}
    (hown : w1.ownsRow w.heap.size 42 2 (.slice (some ⟨g, 0, none⟩) (rl.length + 1) cap) (rl.length + 1) (flat2 (rl ++ [p]))) (hgrow : wr.grownBy w1 ve.ownBlock) {H : Nat} (hH : wr.heap.size ≤ H) (hat : ve.ownBlock = some g ∨ g = H) :
    F w (w1.setCell ⟨bl, 2, none⟩ (.slice (some ⟨g, 0, none⟩) (rl.length + 1) cap)) bl (rl ++ [p]) gl (.slice (some ⟨g, 0, none⟩) (rl.length + 1) cap) vg := by
  have el : rl.length + 1 = (rl ++ [p]).length := by simp
  rw [el] at hown ⊢
  exact h.run hown hgrow hH hat
end Go.Proofs.Qxb6600586aMods.Free
