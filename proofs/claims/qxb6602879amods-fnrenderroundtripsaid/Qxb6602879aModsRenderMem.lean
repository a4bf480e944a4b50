/-
  WHAT LIES IN MEMORY WHILE FnRenderRoundTrip RUNS: the array of digits, the buffer; make, append and string(buf) as laws for the walk.
-/
import Derived.Test.Qxb6602879aModsRenderPlain
import Derived.Laws.IdiomStrings
import Derived.Deep.MidRow
namespace Go.Proofs.Qxb6602879aMods.Dec
open Go.RowKit

theorem info29 : (Trym.prog.info? 29).map (fun i => (i.zero, i.size, i.bytes)) = some (some (.agg (Array.replicate 20 (.int .u8 0))), 20, 20) := by kernel_rfl
theorem info5 : (Trym.prog.info? 5).map (fun i => (i.zero, i.size, i.bytes)) = some (some (.int .u8 0), 1, 1) := by kernel_rfl
theorem size_setCell (w : World) (a : Addr) (v : Value) : (w.setCell a v).heap.size = w.heap.size := by simp [World.setCell]

/-! ### The array of digits -/
/-- Block rb holds the first m digits of V from the right; its twenty cells may be written. -/
structure R1 (w wr : World) (rb V m : Nat) : Prop where
  lt : rb < wr.heap.size
  base : w.heap.size ≤ rb
  some_ : ∀ j, j < 20 → ∃ u, wr.cell? ⟨rb, j, none⟩ = some u
  soft : ∀ j, j < 20 → wr.frozen? ⟨rb, j, none⟩ = false
  dig : ∀ j, j < m → wr.cell? ⟨rb, j, none⟩ = some (.int .u8 ((48 + dg V j : Nat) : Int))
  bel : Below w.heap.size w wr
theorem R1_set {w wr : World} {rb V m : Nat} (h : R1 w wr rb V m) (hm : m < 20) : R1 w (wr.setCell ⟨rb, m, none⟩ (.int .u8 ((48 + dg V m : Nat) : Int))) rb V (m + 1) := by
  refine ⟨by rw [size_setCell]; exact h.lt, h.base, fun j hj => ?_, fun j hj => by rw [World.frozen?_setCell]; exact h.soft j hj, fun j hj => ?_, h.bel.setCell h.base _⟩
  · obtain ⟨u, hu⟩ := h.some_ j hj
    by_cases e : j = m
    · subst e; exact ⟨_, World.cell?_setCell_same _ _ _ hu⟩
    · exact ⟨u, by rw [World.cell?_setCell_other _ _ _ _ (fun q => e (congrArg Addr.off q).symm)]; exact hu⟩
  · by_cases e : j = m
    · subst e
      obtain ⟨u, hu⟩ := h.some_ j hm
      exact World.cell?_setCell_same _ _ _ hu
    · rw [World.cell?_setCell_other _ _ _ _ (fun q => e (congrArg Addr.off q).symm)]
      exact h.dig j (by omega)
theorem run_alloc_any {P : Program} (t : TypeId) (z : Value) (i : TypeInfo) (hi : P.info? t = some i) (hz : i.zero = some z) (w : World) :
    (Instr.alloc t true (.tuple #[])).run P w = .ok (.pointer (some ⟨w.heap.size, 0, none⟩)) (w.alloc (.cells z.cells t (0, 0))) := by
  simp [Instr.alloc, zeroValue, typeInfo, hi, hz, newVar, newRow, Sem.run_bind]
def zeros29 : Obj := .cells (Array.replicate 20 (.int .u8 0)) 29 (0, 0)
theorem run_alloc29 (w : World) : (Instr.alloc 29 true (.tuple #[])).run Trym.prog w = .ok (.pointer (some ⟨w.heap.size, 0, none⟩)) (w.alloc zeros29) := by
  obtain ⟨i, hi, hz0, hz1, hz2⟩ := info_parts info29
  exact run_alloc_any 29 _ i hi hz0 w
theorem R1_born (w : World) (V : Nat) : R1 w (w.alloc zeros29) w.heap.size V 0 := by
  have hb : (w.alloc zeros29).heap[w.heap.size]? = some zeros29 := heap_alloc_new w _
  refine ⟨by simp, Nat.le_refl _, fun j hj => ⟨.int .u8 0, ?_⟩, fun j hj => ?_, fun j hj => by omega, (Below.refl _ _).alloc (Nat.le_refl _) _⟩
  · unfold World.cell?
    rw [hb]
    simp only [zeros29]
    simp [hj]
  · unfold World.frozen?
    rw [hb]
    simp [zeros29]
theorem wpList_alloc29 {w : World} {ops : Array Oper} {rest : List Oper} {o : Oper} {a : Act} {Q : Exit → Act → World → Prop}
    (hg : o.guard = none) (hop : o.op = Op.alloc 29) (hK : wpList Trym.prog ops Q rest (a.put o.dst (.pointer (some ⟨w.heap.size, 0, none⟩))) (w.alloc zeros29)) :
    wpList Trym.prog ops Q (o :: rest) a w := by
  refine wpList_plain hg fun K hK' => ?_
  have hr := run_alloc29 w
  generalize zeros29 = ob at hr hK
  unfold Oper.wp execOp
  simp only [hop, hr, Sem.run_bind, Result.andThen_ok, Sem.run_pure]
  exact hK' _ _ hK

/-! ### The buffer -/
def bytesOf (t : List Nat) : List Value := t.map fun (x : Nat) => Value.int .u8 (x : Int)
/-- Behind the digits: the buffer at block bb holds the text t so far. -/
structure R2 (w wr : World) (rb bb V m : Nat) (t : List Nat) (l : Nat) : Prop where
  lt : rb < wr.heap.size
  ne : rb ≠ bb
  dig : ∀ j, j < m → wr.cell? ⟨rb, j, none⟩ = some (.int .u8 ((48 + dg V j : Nat) : Int))
  own : wr.ownsRow w.heap.size 5 1 (.slice (some ⟨bb, 0, none⟩) l 48) l (bytesOf t)
  len : t.length = l
  bel : Below w.heap.size w wr
theorem R2.alloc {w wr : World} {rb bb V m l : Nat} {t : List Nat} (h : R2 w wr rb bb V m t l) (o : Obj) : R2 w (wr.alloc o) rb bb V m t l :=
  ⟨by have := h.lt; simp; omega, h.ne, fun j hj => (World.cell?_of_block (w := wr) (Below.heap_alloc wr o rb h.lt)).trans (h.dig j hj), h.own.alloc o, h.len, h.bel.alloc h.bel.size o⟩
theorem R2.app {w wr w1 : World} {rb bb V m l : Nat} {t : List Nat} (h : R2 w wr rb bb V m t l) {x : Nat} (hown : w1.ownsRow w.heap.size 5 1 (.slice (some ⟨bb, 0, none⟩) (l + 1) 48) (l + 1) (bytesOf (t ++ [x]))) (hgrow : wr.grownBy w1 (some bb)) :
    R2 w w1 rb bb V m (t ++ [x]) (l + 1) :=
  ⟨by have := h.lt; have := hgrow.size; omega, h.ne, fun j hj => (World.cell?_of_block (w := wr) (hgrow.block rb h.lt (fun e => h.ne (Option.some.inj e)))).trans (h.dig j hj), hown, by simp [h.len], h.bel.grown hgrow h.bel.size (fun k hk => (h.own.lt k (by simpa [Value.ownBlock] using hk)).1)⟩
theorem R2_start {w wr w1 : World} {rb V m : Nat} (h : R1 w wr rb V m) (hown : w1.ownsRow w.heap.size 5 1 (.slice (some ⟨wr.heap.size, 0, none⟩) 0 48) 0 []) (hgrow : wr.grownBy w1 none) : R2 w w1 rb wr.heap.size V m [] 0 :=
  ⟨by have := h.lt; have := hgrow.size; omega, by have := h.lt; omega, fun j hj => (World.cell?_of_block (w := wr) (hgrow.block rb h.lt (by simp))).trans (h.dig j hj), hown, rfl, h.bel.grown hgrow h.bel.size (fun k hk => by simp at hk)⟩
theorem R2.cell {w wr : World} {rb bb V m l : Nat} {t : List Nat} (h : R2 w wr rb bb V m t l) (j x : Nat) (hx : t[j]? = some x) : wr.cell? ⟨bb, j, none⟩ = some (.int .u8 (x : Int)) := by
  have := h.own.cells (g := bb) rfl j (.int .u8 (x : Int)) (by simp [bytesOf, hx])
  have hadd : (⟨bb, 0, none⟩ : Addr).add j = ⟨bb, j, none⟩ := by unfold Addr.add; split <;> simp_all
  rwa [hadd] at this

theorem wpList_make48 {w : World} {ops : Array Oper} {rest : List Oper} {o : Oper} {a : Act} {Q : Exit → Act → World → Prop} (hg : o.guard = none) (l c : Operand) (hop : o.op = Op.makeSlice 30 l c)
    (base : Nat) (hl : a.eval l = .int .i64 0) (hc : a.eval c = .int .i64 48) (hb : base ≤ w.heap.size)
    (hK : ∀ w', w'.ownsRow base 5 1 (.slice (some ⟨w.heap.size, 0, none⟩) 0 48) 0 [] → w.grownBy w' none → wpList Trym.prog ops Q rest (a.put o.dst (.slice (some ⟨w.heap.size, 0, none⟩) 0 48)) w') :
    wpList Trym.prog ops Q (o :: rest) a w := by
  obtain ⟨i, hi, hz0, hz1, hz2⟩ := info_parts info5
  exact wpList_make_own w hg l c 30 hop base 5 i _ 1 Trym.underlying30 hi hz0 hz1 .i64 .i64 48 48 hl hc rfl (by rw [hz2]; omega) (by unfold maxLen; omega) hb hK
theorem wpList_appB {w : World} {ops : Array Oper} {rest : List Oper} {o : Oper} {a : Act} {Q : Exit → Act → World → Prop} (hg : o.guard = none) (s x : Operand)
    (hop : o.op = .call { callee := .builtin .append, args := #[s, x], argTypes := #[30, 30] }) (base g l : Nat) (t : List Nat) (hs : a.eval s = .slice (some ⟨g, 0, none⟩) l 48)
    (hown : w.ownsRow base 5 1 (.slice (some ⟨g, 0, none⟩) l 48) l (bytesOf t)) (B y : Nat) (hx : a.eval x = .slice (some ⟨B, 0, none⟩) 1 1) (hB : w.heap[B]? = some (.cells #[.int .u8 (y : Int)] 5 (0, 0))) (hl : l + 1 ≤ 48)
    (hK : ∀ w', w'.ownsRow base 5 1 (.slice (some ⟨g, 0, none⟩) (l + 1) 48) (l + 1) (bytesOf (t ++ [y])) → w.grownBy w' (some g) → wpList Trym.prog ops Q rest (a.put o.dst (.slice (some ⟨g, 0, none⟩) (l + 1) 48)) w') :
    wpList Trym.prog ops Q (o :: rest) a w := by
  obtain ⟨i, hi, hz0, hz1, hz2⟩ := info_parts info5
  refine wpList_append_fits w hg s x 30 hop base 5 i 1 Trym.underlying30 hi hz1 g l 48 (bytesOf t) hs hown ⟨B, 0, none⟩ 1 1 [.int .u8 (y : Int)] hx rfl (fun j u hu => ?_) (by intro u hu; simp at hu; subst hu; rfl) hl (fun w' h1 h2 => hK w' ?_ h2)
  · have hadd : (⟨B, 0, none⟩ : Addr).add j = ⟨B, j, none⟩ := by unfold Addr.add; split <;> simp_all
    rw [hadd, cell_of_row w B j _ 5 (0, 0) hB]
    simpa using hu
  · have e : bytesOf (t ++ [y]) = bytesOf t ++ [.int .u8 (y : Int)] := by simp [bytesOf]
    rw [e]; exact h1

/-! ### string(buf) -/
theorem wpList_str {w : World} {ops : Array Oper} {rest : List Oper} {o : Oper} {a : Act} {Q : Exit → Act → World → Prop} (hg : o.guard = none) (x : Operand) (hop : o.op = .convert 30 9 x) (bb l cap : Nat) (t : List Nat)
    (hx : a.eval x = .slice (some ⟨bb, 0, none⟩) l cap) (hl : t.length = l) (hsm : ∀ x ∈ t, x < 256) (hc : ∀ j x : Nat, t[j]? = some x → w.cell? ⟨bb, j, none⟩ = some (.int .u8 (x : Int)))
    (hK : ∀ s : ByteArray, s.size = t.length → (∀ j x : Nat, t[j]? = some x → byte s j = (x : Int)) → wpList Trym.prog ops Q rest (a.put o.dst (.string s)) w) :
    wpList Trym.prog ops Q (o :: rest) a w := by
  refine wpList_plain hg fun K hK' => ?_
  have hval : ∀ (j : Nat) (hj : j < (t.map UInt8.ofNat).length), ((t.map UInt8.ofNat)[j].toNat : Int) = ((t[j]'(by simpa using hj) : Nat) : Int) := by
    intro j hj
    have hjt : j < t.length := by simpa using hj
    have := hsm _ (List.getElem_mem hjt)
    simp only [List.getElem_map, UInt8.toNat_ofNat']
    rw [Nat.mod_eq_of_lt (by omega)]
  have hr := run_convert_bytes_back (P := Trym.prog) w 30 9 5 ⟨bb, 0, none⟩ cap (t.map UInt8.ofNat) Trym.underlying30 Trym.underlying5 Trym.underlying9 (fun j hj => by
    have hjt : j < t.length := by simpa using hj
    rw [Addr.add_mid, Nat.zero_add, hc j _ (List.getElem?_eq_getElem hjt), hval j hj])
  rw [List.length_map, hl] at hr
  have hk := hK ⟨(t.map UInt8.ofNat).toArray⟩ (by simp [ByteArray.size]) (fun j x hjx => by
    obtain ⟨hj, e⟩ := List.getElem?_eq_some_iff.1 hjx
    have hj' : j < (t.map UInt8.ofNat).length := by simpa using hj
    have hs : j < (⟨(t.map UInt8.ofNat).toArray⟩ : ByteArray).size := by simpa [ByteArray.size] using hj
    rw [← byte_at _ j hs, ← e]
    exact hval j hj')
  unfold Oper.wp execOp
  simp only [hop, hx, hr, Sem.run_bind, Result.andThen_ok, Sem.run_pure]
  exact hK' _ _ hk

/-! ### Numbers -/
theorem m_lt {V m : Nat} (hV : V ≤ 9223372036854775807) (hU : 0 < V / 10 ^ m) : m < 19 := by
  by_cases h : m < 19
  · exact h
  · have h1 : 10 ^ 19 ≤ 10 ^ m := Nat.pow_le_pow_right (by omega) (by omega)
    have h2 : (10 : Nat) ^ 19 = 10000000000000000000 := by decide
    rw [Nat.div_eq_of_lt (by omega)] at hU
    omega
theorem lt_pow {V m W : Nat} (h : V / 10 ^ m = 0) (hW : m ≤ W) : V < 10 ^ m ∧ V < 10 ^ W := by
  have h1 : V < 10 ^ m := Nat.lt_of_div_eq_zero (Nat.pow_pos (by omega)) h
  have h2 : 10 ^ m ≤ 10 ^ W := Nat.pow_le_pow_right (by omega) hW
  exact ⟨h1, by omega⟩
end Go.Proofs.Qxb6602879aMods.Dec
