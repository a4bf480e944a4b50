/-
  THE WALK OF THE FIRST LAW OVER byOffset.
-/
import Derived.Test.Qxb6600586aModsLawParts
import Derived.Deep.OwnRows
import Derived.Deep.RegionHeld3
namespace Go.Proofs.Qxb6600586aMods.ByOff
open Go.RowKit Go.Proofs.Qxb6600586aMods.SortPlain Go.Proofs.Qxb6600586aMods.Mem
set_option linter.unusedVariables false

theorem info4 : (Trym.prog.info? 4).map (fun i => (i.zero, i.size, i.bytes)) = some (some (.bool false), 1, 1) := by kernel_rfl

set_option maxHeartbeats 1600000 in
set_option maxRecDepth 100000 in
theorem law1_main (f : Nat → Int) (hw : Word f) (a0 : Option Addr) (n cap : Nat) (w : World) (hn : n ≤ 131072)
    (hcell : ∀ k, k < n → ∃ b off, a0 = some ⟨b, off, none⟩ ∧ b < w.heap.size ∧ w.cell? ⟨b, off + k, none⟩ = some (.int .u64 (f k))) :
    Calls Trym.prog 3 #[.slice a0 n cap] w fun e w' => e = .returned (.bool true) ∧ Below w.heap.size w w' := by
  have hnI : (n : Int) ≤ 131072 := by omega
  have hb8 : decide ((n : Int) ≤ 1048576) = true := decide_eq_true (by omega)
  have HC : Hid (∀ k, k < n → ∃ b off, a0 = some ⟨b, off, none⟩ ∧ b < w.heap.size ∧ w.cell? ⟨b, off + k, none⟩ = some (.int .u64 (f k))) := hcell
  clear hcell
  go_enter Trym.func3, Trym.ntmps3
  go_wp2_with (first | (go_at_call 8; refine (bytes8 a0 n cap _ (by omega)).mono ?_; rintro e w' ⟨rfl, rfl⟩) | (refine wpList_make27 rfl _ _ rfl _ n rfl rfl rfl hn ?_))
  intro w1 hr1 hs1 hk1 hb1
  have h1 := A1_start (f := f) hr1 hk1
  clear hr1 hs1 hk1 hb1
  go_wp2
  go_loopw [5] (fun i wr => ∃ k : Nat, k ≤ n ∧ i = .int .i64 k ∧ A1 f n w wr k) (fun i _ => n - (intOf i).toNat)
  case atStart => exact ⟨0, Nat.zero_le _, rfl, h1⟩
  case round =>
    clear h1
    obtain ⟨k, hk, rfl, hA⟩ := hrel
    by_cases hlt : k < n
    · obtain ⟨b, off, ha, hbw, hc⟩ := HC.out k hlt
      have hcr : wr.cell? ⟨b, off + k, none⟩ = some (.int .u64 (f k)) := ((Kept.below hA.kept).cell hbw).trans hc
      obtain ⟨u0, u1, u2, u3, u4, u5, ⟨g0, g1, g2, g3, g4, g5⟩, e0, e1, e2, e3, e4, e5⟩ := six_there hA.recs (i := k) (by rw [length_built]; exact hlt)
      have hsz := hA.recs.lt
      obtain ⟨ho, ho2⟩ := hw k
      have hA' := A1_step hA hlt (boxed (zb (f k) k))
      have HA : Hid (A1 f n w wr k) := hA
      clear hc hA
      subst ha
      go_wp2_with (go_at_call 9; refine (zzBlock_any (f k) k _ ho ho2 (by omega)).mono ?_; rintro e w' ⟨rfl, rfl⟩)
      go_roundw
      case rel => exact ⟨k + 1, by omega, by go_num, hA'⟩
      case measure => simp [intOf]; omega
    · obtain rfl : k = n := by omega
      have hr := hA.recs
      rw [built_all] at hr
      have hfit := laid_fits hw k
      have hmk := run_make_row' (P := Trym.prog) 30 4 (.bool false) 1 Trym.underlying30 info4 rfl .i64 .i64 k (by omega) (by omega)
      go_wp2_with (go_at_call 10; refine (zzByOffset_any (laid f k) _ k _ hn (length_laid f k) hr hfit).mono ?_; rintro e w2 ⟨rfl, hs2⟩)
      obtain ⟨rs, h2⟩ := A2_start hw hA hs2 4
      clear hA hr hfit hs2 hmk
      go_loopw [7] (fun i wr => ∃ j : Nat, j ≤ k ∧ i = .int .i64 j ∧ A2 f k w wr w2.heap.size rs j) (fun i _ => k - (intOf i).toNat)
      case atStart => exact ⟨0, Nat.zero_le _, rfl, h2⟩
      case round =>
        clear h2
        obtain ⟨j, hj, rfl, hA⟩ := hrel
        by_cases hlj : j < k
        · obtain ⟨r, hr, HX, hR, hs1, hs2, hs3, hnext⟩ := A2_reads hA hlj
          have hlt2 := hA.lt
          clear hA
          go_wp2
          generalize wr.setCell ⟨w2.heap.size, r, none⟩ (.bool true) = wz at *
          have hA2 := hnext.out
          obtain ⟨b, off, ha, hbw, hc⟩ := HC.out r hr
          have hcr : wz.cell? ⟨b, off + r, none⟩ = some (.int .u64 (f r)) := ((Kept.below hA2.kept).cell hbw).trans hc
          obtain ⟨c0, c1, c2, c3, c4, c5⟩ := six_zb hA2.recs HX.out
          have hsz := hA2.recs.lt
          obtain ⟨ho, ho2⟩ := hw r
          have hbz : b < wz.heap.size := by omega
          have hwr : IntKind.i64.wrap (r : Int) = (r : Int) := by rw [IntKind.wrap_i64]; omega
          clear hc hA2 hR hs1 hs2 hs3
          subst ha
          go_region_held3 (fun w' => w'.cell? ⟨w.heap.size, j * 6, none⟩ = some (.int .u64 (f r)) ∧ w'.cell? ⟨w.heap.size, j * 6 + 1, none⟩ = some (.int .u64 (zb (f r) r).n) ∧ w'.cell? ⟨w.heap.size, j * 6 + 2, none⟩ = some (.int .u64 (r : Int)) ∧
              w'.cell? ⟨w.heap.size, j * 6 + 3, none⟩ = some (.bool (zb (f r) r).g) ∧ w'.cell? ⟨w.heap.size, j * 6 + 4, none⟩ = some (.int .u64 (zb (f r) r).m) ∧ w'.cell? ⟨w.heap.size, j * 6 + 5, none⟩ = some (.int .u64 (zb (f r) r).t) ∧ w'.cell? ⟨b, off + r, none⟩ = some (.int .u64 (f r))) (simp [go_sem, World.cell?_alloc_past, *])
            ((go_at_call 9; refine (zzBlock_any (f r) r _ ho ho2 (by omega)).mono ?_; rintro e w' ⟨rfl, rfl⟩))
          clear hwr
          by_cases hj0 : j = 0
          · have hj1 : ¬ (0 : Int) < (j : Int) := by omega
            have HJ : Hid (j = 0) := hj0
            clear hj0
            go_wp2
            go_roundw
            case rel => exact ⟨j + 1, by omega, by go_num, A2_same (A2_alloc hnext.out _) ⟨rfl, rfl, rfl, rfl⟩⟩
            case measure => simp [intOf]; omega
          · have hj1 : (0 : Int) < (j : Int) := by omega
            obtain ⟨r', hr', hx'⟩ := hnext.out.out.at_ (show j - 1 < k by omega)
            obtain ⟨d0, d1, d2, d3, d4, d5⟩ := six_zb hnext.out.recs hx'
            have hlt3 := hnext.out.out.lt (show j - 1 < j by omega) hx' HX.out
            have hlt4 : f r' < f r ∨ (f r' = f r ∧ (r' : Int) < (r : Int)) := hlt3
            clear hx' hlt3 hj0
            rcases hlt4 with q1 | ⟨q1, q2⟩
            · have q3 : decide (f r < f r') = false := decide_eq_false (by omega)
              have q4 : (f r' == f r) = false := by simp; omega
              clear q1
              go_wp2
              go_quiet (fail)
              go_wp2
              go_roundw
              case rel => exact ⟨j + 1, by omega, by go_num, A2_same (A2_alloc (A2_alloc hnext.out _) _) ⟨rfl, rfl, rfl, rfl⟩⟩
              case measure => simp [intOf]; omega
            · have q3 : decide (f r < f r') = false := decide_eq_false (by omega)
              have q4 : (f r' == f r) = true := by simp; omega
              have q5 : decide ((r : Int) ≤ (r' : Int)) = false := decide_eq_false (by omega)
              have q6 : decide (r ≤ r') = false := decide_eq_false (by omega)
              clear q1
              go_wp2
              go_quiet (fail)
              go_wp2
              go_roundw
              case rel => exact ⟨j + 1, by omega, by go_num, A2_same (A2_alloc (A2_alloc hnext.out _) _) ⟨rfl, rfl, rfl, rfl⟩⟩
              case measure => simp [intOf]; omega
        · obtain rfl : j = k := by omega
          have hb := Kept.below hA.kept
          clear hA
          go_wp2
          go_ret
          exact ⟨rfl, hb⟩

theorem law1_big (a0 : Option Addr) (n cap : Nat) (w : World) (hm : n ≤ 9223372036854775807) (hn : 131072 < n) :
    Calls Trym.prog 3 #[.slice a0 n cap] w fun e w' => e = .returned (.bool true) ∧ Below w.heap.size w w' := by
  have hnI : (131072 : Int) < (n : Int) := by omega
  by_cases h : (n : Int) ≤ 1048576
  · have hb8 : decide ((n : Int) ≤ 1048576) = true := decide_eq_true h
    go_enter Trym.func3, Trym.ntmps3
    go_wp2_with (go_at_call 8; refine (bytes8 a0 n cap _ (by omega)).mono ?_; rintro e w' ⟨rfl, rfl⟩)
    go_ret
    exact ⟨rfl, Below.refl _ _⟩
  · have hb8 : decide ((n : Int) ≤ 1048576) = false := decide_eq_false h
    go_enter Trym.func3, Trym.ntmps3
    go_wp2_with (go_at_call 8; refine (bytes8 a0 n cap _ (by omega)).mono ?_; rintro e w' ⟨rfl, rfl⟩)
    go_ret
    exact ⟨rfl, Below.refl _ _⟩
end Go.Proofs.Qxb6600586aMods.ByOff
