/-
  THE SECOND LAW OVER byOffset: the offsets handed in backwards come out the same. The plain law, the loops' relations, the walk.
-/
import Derived.Test.Qxb6600586aModsLawParts
namespace Go.Proofs.Qxb6600586aMods.ByOff
open Go.RowKit Go.Proofs.Qxb6600586aMods.SortPlain Go.Proofs.Qxb6600586aMods.Mem
set_option linter.unusedVariables false

/-! ### The plain law -/
def back (f : Nat → Int) (n : Nat) : Nat → Int := fun i => f (n - 1 - i)
theorem back_word {f : Nat → Int} (h : Word f) (n : Nat) : Word (back f n) := fun i => h (n - 1 - i)
theorem offs_laid (f : Nat → Int) (n : Nat) : (laid f n).map Blk.off = (List.range n).map f := by simp [laid, zb]
theorem range_back (f : Nat → Int) (n : Nat) : (List.range n).map (back f n) = ((List.range n).map f).reverse := by
  apply List.ext_getElem
  · simp
  · intro i h1 h2
    simp [back]
theorem offs_sorted {f : Nat → Int} {n : Nat} {rs : List Blk} (h : Out f n rs) : (rs.map Blk.off).Pairwise (· ≤ ·) := by
  rw [List.pairwise_map]
  refine h.sorted.imp_of_mem ?_
  intro a b _ _ hab
  omega
theorem same_offs {f : Nat → Int} {n : Nat} {rs ss : List Blk} (h : Out f n rs) (k : Out (back f n) n ss) : rs.map Blk.off = ss.map Blk.off := by
  refine List.Perm.eq_of_pairwise (le := (· ≤ ·)) (fun a b _ _ => Int.le_antisymm) (offs_sorted h) (offs_sorted k) ?_
  have h1 := h.perm.map Blk.off
  have h2 := k.perm.map Blk.off
  rw [offs_laid] at h1 h2
  rw [range_back] at h2
  exact h1.trans (h2.trans (List.reverse_perm _)).symm

/-! ### Loop 1 -/
structure D1 (f : Nat → Int) (n : Nat) (w wr : World) (B k : Nat) : Prop where
  recA : Recs wr w.heap.size (built f n k)
  recB : Recs wr B (built (back f n) n k)
  lt : w.heap.size < B
  kept : Kept w wr w.heap.size
theorem D1_start {f : Nat → Int} {n : Nat} {w w1 w2 : World} (hr : Recs w1 w.heap.size (List.replicate n zeroBlk)) (hk : ∀ ba, Kept w w1 ba)
    (hr2 : Recs w2 w1.heap.size (List.replicate n zeroBlk)) (hk2 : ∀ ba, Kept w1 w2 ba) (hs2 : w2.heap.size = w1.heap.size + 1) (hb2 : ∀ k, k < w1.heap.size → w2.heap[k]? = w1.heap[k]?) : D1 f n w w2 w1.heap.size 0 := by
  refine ⟨by rw [built_zero]; exact hr.kept (by omega) (hb2 _ hr.lt), by rw [built_zero]; exact hr2, hr.lt, (hk _).trans (hk2 _)⟩
theorem D1_step {f : Nat → Int} {n : Nat} {w wr : World} {B k : Nat} (h : D1 f n w wr B k) (hk : k < n) (ob ob2 : Obj) :
    D1 f n w ((((wr.setCells w.heap.size (k * 6) (vals (zb (f k) k))).setCells B (k * 6) (vals (zb (back f n k) k))).alloc ob).alloc ob2) B (k + 1) := by
  have rA := h.recA.set (by rw [length_built]; exact hk) (zb (f k) k)
  rw [built_set f n k hk] at rA
  have hlt := h.lt
  have rB := h.recB.kept (w' := wr.setCells w.heap.size (k * 6) (vals (zb (f k) k))) (by rw [size_setCells]; exact Nat.le_refl _) (heap_setCells _ _ _ _ _ (by omega))
  have k1 := h.kept.setCells (b := w.heap.size) (.inl rfl) (vals (zb (f k) k)) (k * 6)
  generalize wr.setCells w.heap.size (k * 6) (vals (zb (f k) k)) = wa at *
  have rB' := rB.set (by rw [length_built]; exact hk) (zb (back f n k) k)
  rw [built_set (back f n) n k hk] at rB'
  have rA' := rA.kept (w' := wa.setCells B (k * 6) (vals (zb (back f n k) k))) (by rw [size_setCells]; exact Nat.le_refl _) (heap_setCells _ _ _ _ _ (by omega))
  have k2 := k1.setCells (b := B) (.inr (by omega)) (vals (zb (back f n k) k)) (k * 6)
  generalize wa.setCells B (k * 6) (vals (zb (back f n k) k)) = wb at *
  have rA2 := rA'.kept (w' := wb.alloc ob) (by simp) (Below.heap_alloc _ _ _ rA'.lt)
  have rB2 := rB'.kept (w' := wb.alloc ob) (by simp) (Below.heap_alloc _ _ _ rB'.lt)
  exact ⟨rA2.kept (by simp) (Below.heap_alloc _ _ _ rA2.lt), rB2.kept (by simp) (Below.heap_alloc _ _ _ rB2.lt), hlt, (k2.alloc _).alloc _⟩
/-- In the walk's spelling. -/
theorem D1_step' {f : Nat → Int} {n : Nat} {w wr : World} {B k : Nat} (h : D1 f n w wr B k) (hk : k < n) (ob ob2 : Obj) :
    D1 f n w ((((((((((((((wr.setCell ⟨w.heap.size, k * 6, none⟩ (.int .u64 (f k))).setCell ⟨w.heap.size, k * 6 + 1, none⟩ (.int .u64 (zb (f k) k).n)).setCell ⟨w.heap.size, k * 6 + 2, none⟩ (.int .u64 (k : Int))).setCell ⟨w.heap.size, k * 6 + 3, none⟩ (.bool (zb (f k) k).g)).setCell ⟨w.heap.size, k * 6 + 4, none⟩ (.int .u64 (zb (f k) k).m)).setCell ⟨w.heap.size, k * 6 + 5, none⟩ (.int .u64 (zb (f k) k).t)).setCell
      ⟨B, k * 6, none⟩ (.int .u64 (f (n - 1 - k)))).setCell ⟨B, k * 6 + 1, none⟩ (.int .u64 (zb (f (n - 1 - k)) k).n)).setCell ⟨B, k * 6 + 2, none⟩ (.int .u64 (k : Int))).setCell ⟨B, k * 6 + 3, none⟩ (.bool (zb (f (n - 1 - k)) k).g)).setCell ⟨B, k * 6 + 4, none⟩ (.int .u64 (zb (f (n - 1 - k)) k).m)).setCell ⟨B, k * 6 + 5, none⟩ (.int .u64 (zb (f (n - 1 - k)) k).t)).alloc ob).alloc ob2) B (k + 1) :=
  D1_step h hk ob ob2

/-! ### Behind the two sorts -/
structure D2 (f : Nat → Int) (n : Nat) (w wr : World) (B : Nat) (rs ss : List Blk) : Prop where
  outA : Out f n rs
  outB : Out (back f n) n ss
  recA : Recs wr w.heap.size rs
  recB : Recs wr B ss
  kept : Kept w wr w.heap.size
theorem D2_start {f : Nat → Int} {n : Nat} {w wr w2 w3 : World} {B : Nat} (hw : Word f) (h : D1 f n w wr B n) (s1 : Sorted (laid f n) wr w2 w.heap.size) (s2 : Sorted (laid (back f n) n) w2 w3 B) :
    ∃ rs ss, D2 f n w w3 B rs ss := by
  obtain ⟨rs, hr, hd⟩ := s1.ex
  obtain ⟨ss, hr2, hd2⟩ := s2.ex
  have hlt := h.lt
  refine ⟨rs, ss, out_of hw hd, out_of (back_word hw n) hd2, hr.kept s2.kept.size (s2.kept.block _ hr.lt (by simp; omega)), hr2, ?_⟩
  have k1 := h.kept.trans s1.kept
  have k2 := s2.kept
  refine ⟨k2.os.trans k1.os, k2.tape.trans k1.tape, k2.output.trans k1.output, Nat.le_trans k1.size k2.size, fun i hi hne => ?_⟩
  have := k1.size
  exact (k2.block i (by omega) (by simp; omega)).trans (k1.block i hi hne)
theorem D1_recB {f : Nat → Int} {n : Nat} {w wr w2 : World} {B : Nat} (h : D1 f n w wr B n) (s1 : Sorted (laid f n) wr w2 w.heap.size) : Recs w2 B (laid (back f n) n) := by
  have hlt := h.lt
  have := h.recB.kept s1.kept.size (s1.kept.block _ h.recB.lt (by simp; omega))
  rwa [built_all] at this
theorem D2_reads {f : Nat → Int} {n : Nat} {w wr : World} {B : Nat} {rs ss : List Blk} (h : D2 f n w wr B rs ss) {i : Nat} (hi : i < n) :
    ∃ o, wr.cell? ⟨w.heap.size, i * 6, none⟩ = some (.int .u64 o) ∧ wr.cell? ⟨B, i * 6, none⟩ = some (.int .u64 o) := by
  obtain ⟨x, hx⟩ := get_of_lt h.outA.len hi
  obtain ⟨y, hy⟩ := get_of_lt h.outB.len hi
  have e := same_offs h.outA h.outB
  have e2 : (rs.map Blk.off)[i]? = (ss.map Blk.off)[i]? := by rw [e]
  simp only [List.getElem?_map, hx, hy, Option.map_some, Option.some.injEq] at e2
  refine ⟨x.off, (h.recA.six hx).1, ?_⟩
  rw [e2]; exact (h.recB.six hy).1
theorem D2_same {f : Nat → Int} {n : Nat} {w wr w' : World} {B : Nat} {rs ss : List Blk} (h : D2 f n w wr B rs ss) (e : SameW w' wr) : D2 f n w w' B rs ss :=
  ⟨h.outA, h.outB, Recs_same h.recA e, Recs_same h.recB e, Kept_same h.kept e⟩

set_option maxHeartbeats 1600000 in
set_option maxRecDepth 100000 in
theorem law2_main (f : Nat → Int) (hw : Word f) (a0 : Option Addr) (n cap : Nat) (w : World) (hn : n ≤ 131072)
    (hcell : ∀ k, k < n → ∃ b off, a0 = some ⟨b, off, none⟩ ∧ b < w.heap.size ∧ w.cell? ⟨b, off + k, none⟩ = some (.int .u64 (f k))) :
    Calls Trym.prog 5 #[.slice a0 n cap] w fun e w' => e = .returned (.bool true) ∧ Below w.heap.size w w' := by
  have hnI : (n : Int) ≤ 131072 := by omega
  have hb8 : decide ((n : Int) ≤ 1048576) = true := decide_eq_true (by omega)
  have HC : Hid (∀ k, k < n → ∃ b off, a0 = some ⟨b, off, none⟩ ∧ b < w.heap.size ∧ w.cell? ⟨b, off + k, none⟩ = some (.int .u64 (f k))) := hcell
  clear hcell
  go_enter Trym.func5, Trym.ntmps5
  go_wp2_with (first | (go_at_call 12; refine (bytes12 a0 n cap _ (by omega)).mono ?_; rintro e w' ⟨rfl, rfl⟩) | (refine wpList_make27 rfl _ _ rfl _ n rfl rfl rfl hn ?_))
  intro w1 hr1 hs1 hk1 hb1
  have H1 : Hid (Recs w1 w.heap.size (List.replicate n zeroBlk) ∧ (∀ ba, Kept w w1 ba)) := ⟨hr1, hk1⟩
  clear hr1 hs1 hk1 hb1
  go_wp2_with (refine wpList_make27 rfl _ _ rfl _ n rfl rfl rfl hn ?_)
  intro w2 hr2 hs2 hk2 hb2
  have h1 := D1_start (f := f) H1.out.1 H1.out.2 hr2 hk2 hs2 hb2
  clear hr2 hs2 hk2 hb2 H1
  generalize w1.heap.size = B at *
  go_wp2
  go_loopw [6] (fun i wr => ∃ k : Nat, k ≤ n ∧ i = .int .i64 k ∧ D1 f n w wr B k) (fun i _ => n - (intOf i).toNat)
  case atStart => exact ⟨0, Nat.zero_le _, rfl, h1⟩
  case round =>
    clear h1
    obtain ⟨k, hk, rfl, hA⟩ := hrel
    by_cases hlt : k < n
    · obtain ⟨b, off, ha, hbw, hc⟩ := HC.out k hlt
      obtain ⟨b', off', ha', _, hc2⟩ := HC.out (n - 1 - k) (by omega)
      obtain ⟨rfl, rfl⟩ : b' = b ∧ off' = off := by
        rw [ha] at ha'; simp at ha'; omega
      have hcr : wr.cell? ⟨b', off' + k, none⟩ = some (.int .u64 (f k)) := ((Kept.below hA.kept).cell hbw).trans hc
      have hcr2 : wr.cell? ⟨b', off' + (n - 1 - k), none⟩ = some (.int .u64 (f (n - 1 - k))) := ((Kept.below hA.kept).cell hbw).trans hc2
      obtain ⟨u0, u1, u2, u3, u4, u5, ⟨g0, g1, g2, g3, g4, g5⟩, e0, e1, e2, e3, e4, e5⟩ := six_there hA.recA (i := k) (by rw [length_built]; exact hlt)
      obtain ⟨v0, v1, v2, v3, v4, v5, ⟨p0, p1, p2, p3, p4, p5⟩, q0, q1, q2, q3, q4, q5⟩ := six_there hA.recB (i := k) (by rw [length_built]; exact hlt)
      have hsz := hA.recA.lt
      have hszB := hA.recB.lt
      have hAB := hA.lt
      have hbz : b' < wr.heap.size := by omega
      obtain ⟨ho, ho2⟩ := hw k
      obtain ⟨hp, hp2⟩ := hw (n - 1 - k)
      have hA' := D1_step' hA hlt (boxed (zb (f k) k)) (boxed (zb (f (n - 1 - k)) k))
      clear hc hc2 hA ha'
      subst ha
      go_wp2_with fail
      refine (zzBlock_any (f k) k _ ho ho2 (by omega)).mono ?_
      rintro e w' ⟨rfl, rfl⟩
      go_wp2_with fail
      refine (zzBlock_any (f (n - 1 - k)) k _ hp hp2 (by omega)).mono ?_
      rintro e w' ⟨rfl, rfl⟩
      go_wp2_with fail
      go_roundw
      case rel => exact ⟨k + 1, by omega, by go_num, hA'⟩
      case measure => simp [intOf]; omega
    · obtain rfl : k = n := by omega
      have hr := hA.recA
      rw [built_all] at hr
      have hfit := laid_fits hw k
      have hfit2 := laid_fits (back_word hw k) k
      go_wp2_with fail
      refine (zzByOffset_any (laid f k) _ k _ hn (length_laid f k) hr hfit).mono ?_
      rintro e w3 ⟨rfl, s3⟩
      have hr2 := D1_recB hA s3
      go_wp2_with fail
      refine (zzByOffset_any (laid (back f k) k) _ k _ hn (length_laid _ k) hr2 hfit2).mono ?_
      rintro e w4 ⟨rfl, s4⟩
      obtain ⟨rs, ss, h2⟩ := D2_start hw hA s3 s4
      clear hA hr hfit hfit2 hr2 s3 s4
      go_wp2
      go_loopw [7] (fun i wr => ∃ j : Nat, j ≤ k ∧ i = .int .i64 j ∧ D2 f k w wr B rs ss) (fun i _ => k - (intOf i).toNat)
      case atStart => exact ⟨0, Nat.zero_le _, rfl, h2⟩
      case round =>
        clear h2
        obtain ⟨j, hj, rfl, hA⟩ := hrel
        by_cases hlj : j < k
        · obtain ⟨o, c1, c2⟩ := D2_reads hA hlj
          go_wp2
          go_quiet (fail)
          go_wp2
          go_roundw
          case rel => exact ⟨j + 1, by omega, by go_num, D2_same hA ⟨rfl, rfl, rfl, rfl⟩⟩
          case measure => simp [intOf]; omega
        · obtain rfl : j = k := by omega
          have hb := Kept.below hA.kept
          clear hA
          go_wp2
          go_ret
          exact ⟨rfl, hb⟩

theorem law2_big (a0 : Option Addr) (n cap : Nat) (w : World) (hm : n ≤ 9223372036854775807) (hn : 131072 < n) :
    Calls Trym.prog 5 #[.slice a0 n cap] w fun e w' => e = .returned (.bool true) ∧ Below w.heap.size w w' := by
  have hnI : (131072 : Int) < (n : Int) := by omega
  by_cases h : (n : Int) ≤ 1048576
  · have hb8 : decide ((n : Int) ≤ 1048576) = true := decide_eq_true h
    go_enter Trym.func5, Trym.ntmps5
    go_wp2_with (go_at_call 12; refine (bytes12 a0 n cap _ (by omega)).mono ?_; rintro e w' ⟨rfl, rfl⟩)
    go_ret
    exact ⟨rfl, Below.refl _ _⟩
  · have hb8 : decide ((n : Int) ≤ 1048576) = false := decide_eq_false h
    go_enter Trym.func5, Trym.ntmps5
    go_wp2_with (go_at_call 12; refine (bytes12 a0 n cap _ (by omega)).mono ?_; rintro e w' ⟨rfl, rfl⟩)
    go_ret
    exact ⟨rfl, Below.refl _ _⟩
end Go.Proofs.Qxb6600586aMods.ByOff
