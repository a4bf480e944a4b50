/-
  THE WALK OF ZZfree: it hands back the runs and the gaps of the plain law as four slices.
-/
import Derived.Test.Qxb6600586aModsFreeWalk
namespace Go.Proofs.Qxb6600586aMods.Free
open Go.RowKit Go.Proofs.Qxb6600586aMods.FreePlain
set_option linter.unusedVariables false

/-! ### Two slices of uint64 that the call owns, grown side by side -/
structure G (w wr : World) (xs ys : List Int) (vx vy : Value) : Prop where
  ox : wr.ownsRow w.heap.size 25 1 vx xs.length (nums xs)
  oy : wr.ownsRow w.heap.size 25 1 vy ys.length (nums ys)
  ap : ∀ g, vx.ownBlock = some g → vy.ownBlock ≠ some g
  bel : Below w.heap.size w wr
theorem G.swap {w wr : World} {xs ys : List Int} {vx vy : Value} (h : G w wr xs ys vx vy) : G w wr ys xs vy vx := ⟨h.oy, h.ox, fun g h1 h2 => h.ap g h2 h1, h.bel⟩
theorem G.alloc {w wr : World} {xs ys : List Int} {vx vy : Value} (h : G w wr xs ys vx vy) (o : Obj) : G w (wr.alloc o) xs ys vx vy := ⟨h.ox.alloc o, h.oy.alloc o, h.ap, h.bel.alloc h.bel.size o⟩
theorem G_start (w : World) : G w w [] [] (.slice none 0 0) (.slice none 0 0) := ⟨World.ownsRow_nil _ _ _ _, World.ownsRow_nil _ _ _ _, fun g h => by simp [Value.ownBlock] at h, Below.refl _ _⟩
theorem G.first {w wr w1 : World} {xs ys : List Int} {vx vy : Value} (h : G w wr xs ys vx vy) {g cap : Nat} {z : Int}
    (hown : w1.ownsRow w.heap.size 25 1 (.slice (some ⟨g, 0, none⟩) (xs.length + 1) cap) (xs.length + 1) (nums (xs ++ [z]))) (hgrow : wr.grownBy w1 vx.ownBlock) {H : Nat} (hH : wr.heap.size ≤ H) (hat : vx.ownBlock = some g ∨ g = H) :
    G w w1 (xs ++ [z]) ys (.slice (some ⟨g, 0, none⟩) (xs.length + 1) cap) vy := by
  refine ⟨by simpa using hown, h.oy.kept hgrow ?_, ?_, h.bel.grown hgrow h.bel.size (fun k hk => (h.ox.lt k hk).1)⟩
  · cases hv : vy.ownBlock with
    | none => exact .inl rfl
    | some k => exact .inr (fun e => h.ap k e.symm hv)
  · intro k hk hk'
    simp [Value.ownBlock] at hk
    subst hk
    rcases hat with e | e
    · exact h.ap _ e hk'
    · have := (h.oy.lt _ hk').2; omega

/-! ### What a slice of the result is -/
def Sl (w w' : World) (v : Value) (zs : List Int) : Prop := ∃ ao cap, v = .slice ao zs.length cap ∧ ∀ i z, zs[i]? = some z → ∃ g, ao = some ⟨g, 0, none⟩ ∧ w.heap.size ≤ g ∧ g < w'.heap.size ∧ w'.cell? ⟨g, i, none⟩ = some (.int .u64 z)
theorem Sl_of {w w' : World} {v : Value} {zs : List Int} (h : w'.ownsRow w.heap.size 25 1 v zs.length (nums zs)) : Sl w w' v zs := by
  rcases h.2 with ⟨hv, h0⟩ | ⟨g, cap, cur, hv, hb, hg, _⟩
  · refine ⟨none, 0, by rw [hv, h0], fun i z hz => ?_⟩
    have := (List.getElem?_eq_some_iff.1 hz).1
    omega
  · refine ⟨some ⟨g, 0, none⟩, cap, hv, fun i z hz => ⟨g, rfl, hb, (h.lt g (by rw [hv]; rfl)).2, ?_⟩⟩
    have := h.cells (g := g) (by rw [hv]; rfl) i (.int .u64 z) (by simp [nums, hz])
    have hadd : (⟨g, 0, none⟩ : Addr).add i = ⟨g, i, none⟩ := by unfold Addr.add; split <;> simp_all
    rwa [hadd] at this
theorem Sl.mono {w0 w w' w2 : World} {v : Value} {zs : List Int} (h : Sl w w' v zs) (h0 : w0.heap.size ≤ w.heap.size) (hb : Below w'.heap.size w' w2) : Sl w0 w2 v zs := by
  obtain ⟨ao, cap, hv, hc⟩ := h
  refine ⟨ao, cap, hv, fun i z hz => ?_⟩
  obtain ⟨g, h1, h2, h3, h4⟩ := hc i z hz
  exact ⟨g, h1, by omega, by have := hb.size; omega, (hb.cell (by exact h3)).trans h4⟩

/-- A slice of pairs in a field of the Layout, as the loop over it reads it. -/
theorem pairs_of {w wr : World} {e : TypeId} {v : Value} {ps : List (Int × Int)} (h : wr.ownsRow w.heap.size e 2 v ps.length (flat2 ps)) :
    ∃ ao cap, v = .slice ao ps.length cap ∧ ∀ i p, ps[i]? = some p → ∃ g, ao = some ⟨g, 0, none⟩ ∧ g < wr.heap.size ∧ wr.cell? ⟨g, i * 2, none⟩ = some (.int .u64 p.1) ∧ wr.cell? ⟨g, i * 2 + 1, none⟩ = some (.int .u64 p.2) := by
  rcases h.2 with ⟨hv, h0⟩ | ⟨g, cap, cur, hv, hb, hg, _⟩
  · refine ⟨none, 0, by rw [hv, h0], fun i z hz => ?_⟩
    have := (List.getElem?_eq_some_iff.1 hz).1
    omega
  · refine ⟨some ⟨g, 0, none⟩, cap, hv, fun i p hp => ⟨g, rfl, (h.lt g (by rw [hv]; rfl)).2, ?_⟩⟩
    obtain ⟨c1, c2⟩ := flat2_at ps i p hp
    have r1 := h.cells (g := g) (by rw [hv]; rfl) _ _ c1
    have r2 := h.cells (g := g) (by rw [hv]; rfl) _ _ c2
    have hadd : ∀ j, (⟨g, 0, none⟩ : Addr).add j = ⟨g, j, none⟩ := fun j => by unfold Addr.add; split <;> simp_all
    rw [hadd] at r1 r2
    exact ⟨r1, r2⟩

theorem F_start (w : World) : F (w.alloc (.cells #[.int .u64 0, .slice none 0 0, .slice none 0 0, .slice none 0 0] 39)) (w.alloc (.cells #[.int .u64 0, .slice none 0 0, .slice none 0 0, .slice none 0 0] 39)) w.heap.size [] [] (.slice none 0 0) (.slice none 0 0) := by
  refine ⟨?_, ?_, ?_, ?_, World.ownsRow_nil _ _ _ _, World.ownsRow_nil _ _ _ _, fun g h => by simp [Value.ownBlock] at h, by simp, World.grownBy.refl _ _⟩
  · rw [World.cell?_alloc_new]; rfl
  · rw [World.cell?_alloc_new]; rfl
  · exact World.frozen?_alloc_at _ _ _ _ rfl
  · exact World.frozen?_alloc_at _ _ _ _ rfl

/-- Behind an append: the loop's variable (the first of two new blocks) reads as it did. -/
theorem elem_behind {wr w1 : World} {base : Nat} {e : TypeId} {size n : Nat} {v : Value} {xs : List Value} (h : wr.ownsRow base e size v n xs) {x y : Value} {t : TypeId} {ob : Obj} (hgrow : ((wr.alloc (.cells #[x, y] t)).alloc ob).grownBy w1 v.ownBlock) :
    w1.cell? ⟨wr.heap.size, 0, none⟩ = some x ∧ w1.cell? ⟨wr.heap.size, 1, none⟩ = some y ∧ wr.heap.size + 1 + 1 ≤ w1.heap.size := by
  have hne : some wr.heap.size ≠ v.ownBlock := fun q => by have := (h.lt _ q.symm).2; omega
  have eb : w1.heap[wr.heap.size]? = ((wr.alloc (.cells #[x, y] t)).alloc ob).heap[wr.heap.size]? := hgrow.block _ (by simp; omega) hne
  have c : ∀ i, w1.cell? ⟨wr.heap.size, i, none⟩ = #[x, y][i]? := fun i => by
    refine (World.cell?_of_block (w := (wr.alloc (.cells #[x, y] t)).alloc ob) eb).trans ?_
    rw [World.cell?_alloc_past _ _ _ (by simp), World.cell?_alloc_new]
  have hs := hgrow.size
  simp at hs
  exact ⟨c 0, c 1, by omega⟩
theorem two_new' (w : World) (A B : Obj) : ((w.alloc A).alloc B).heap[w.heap.size + 1]? = some B := two_new w A B
theorem one_more {ps : List (Int × Int)} {k : Nat} {p : Int × Int} {xs ys : List Int} (hp : ps[k]? = some p) (hx : xs = (ps.take k).map Prod.fst) (hy : ys = (ps.take k).map Prod.snd) :
    xs ++ [p.1] = (ps.take (k + 1)).map Prod.fst ∧ ys ++ [p.2] = (ps.take (k + 1)).map Prod.snd := by
  obtain ⟨hk, e⟩ := List.getElem?_eq_some_iff.1 hp
  rw [List.take_succ_eq_append_getElem hk, e, hx, hy]
  simp
theorem short_take {ps : List (Int × Int)} {k n : Nat} (hn : ps.length = n) (h : n ≤ 2) {xs : List Int} (f : Int × Int → Int) (hx : xs = (ps.take k).map f) : xs.length ≤ 1000 := by
  rw [hx]; simp; omega

set_option maxHeartbeats 1600000 in
set_option maxRecDepth 100000 in
theorem zzfree_any (off en g : Int) (w : World) (ho : 0 ≤ off) (ho2 : off ≤ 18446744073709551615) (he : en ≤ 18446744073709547519) (g0 : 0 ≤ g) (g1 : g ≤ 18446744073709551615) :
    Calls Trym.prog 13 #[.int .u64 off, .int .u64 en, .int .u64 g] w fun e w' => ∃ v6 v7 v8 v9, e = .returned (.tuple #[v6, v7, v8, v9]) ∧
      Sl w w' v6 ((runs off en).map Prod.fst) ∧ Sl w w' v7 ((runs off en).map Prod.snd) ∧ Sl w w' v8 ((gaps off en g).map Prod.fst) ∧ Sl w w' v9 ((gaps off en g).map Prod.snd) ∧ Below w.heap.size w w' := by
  obtain ⟨rl, hrl⟩ : ∃ rl, rl = runs off en := ⟨_, rfl⟩
  obtain ⟨gl, hgl⟩ : ∃ gl, gl = gaps off en g := ⟨_, rfl⟩
  have L1 : Hid (rl.length ≤ 2) := by have := length_runs off en; rw [← hrl] at this; exact Nat.le_trans this (by omega)
  have L2 : Hid (gl.length ≤ 2) := by have := length_gaps off en g; rw [← hgl] at this; exact this
  rw [← hrl, ← hgl]
  have HRL : Hid (rl = runs off en) := hrl
  have HGL : Hid (gl = gaps off en g) := hgl
  clear hrl hgl
  go_enter Trym.func13, Trym.ntmps13
  go_wp2_with fail
  refine (free_any w.heap.size off en g _ ho ho2 he g0 g1 (F_start w)).mono ?_
  rintro e w3 ⟨rfl, ve, vg, hF⟩
  rw [← HRL.out, ← HGL.out] at hF
  obtain ⟨ao, cap, hve, hpe⟩ := pairs_of hF.oe
  obtain ⟨ao2, cap2, hvg, hpg⟩ := pairs_of hF.og
  have c1 := hF.cg
  have c2 := hF.ce
  rw [hvg] at c1
  rw [hve] at c2
  have hbl : w.heap.size < w3.heap.size := by have := hF.kept.size; simp at this; omega
  have hb3 : Below w.heap.size w w3 := by
    have k := hF.kept
    refine ⟨k.os, k.tape, k.output, by omega, fun i hi => ?_⟩
    exact (k.block i (by simp; omega) (by simp; omega)).trans (Below.heap_alloc w _ i hi)
  have HE : Hid (∀ i p, rl[i]? = some p → ∃ g, ao = some ⟨g, 0, none⟩ ∧ g < w3.heap.size ∧ w3.cell? ⟨g, i * 2, none⟩ = some (.int .u64 p.1) ∧ w3.cell? ⟨g, i * 2 + 1, none⟩ = some (.int .u64 p.2)) := hpe
  have HG : Hid (∀ i p, gl[i]? = some p → ∃ g, ao2 = some ⟨g, 0, none⟩ ∧ g < w3.heap.size ∧ w3.cell? ⟨g, i * 2, none⟩ = some (.int .u64 p.1) ∧ w3.cell? ⟨g, i * 2 + 1, none⟩ = some (.int .u64 p.2)) := hpg
  clear hF hve hvg hpe hpg
  obtain ⟨n, hn⟩ : ∃ n, n = rl.length := ⟨_, rfl⟩
  obtain ⟨m, hm⟩ : ∃ m, m = gl.length := ⟨_, rfl⟩
  rw [← hn] at c2
  rw [← hm] at c1
  have HNL : Hid (n = rl.length ∧ m = gl.length) := ⟨hn, hm⟩
  have hn2 : n ≤ 2 := by have := L1.out; omega
  have hm2 : m ≤ 2 := by have := L2.out; omega
  clear hn hm
  go_wp2
  go_loopw [6, 7, 22] (fun sx sy i wr => ∃ (k : Nat) (xs ys : List Int), k ≤ n ∧ i = .int .i64 k ∧ G w3 wr xs ys sx sy ∧ Hid (xs = (rl.take k).map Prod.fst) ∧ Hid (ys = (rl.take k).map Prod.snd)) (fun _ _ i _ => n - (intOf i).toNat)
  case atStart => exact ⟨0, [], [], Nat.zero_le _, rfl, G_start w3, rfl, rfl⟩
  case round =>
    obtain ⟨k, xs, ys, hk, rfl, hG, hX, hY⟩ := hrel
    by_cases hlt : k < n
    · obtain ⟨p, hp⟩ : ∃ p, rl[k]? = some p := ⟨rl[k]'(by have := HNL.out.1; omega), List.getElem?_eq_getElem _⟩
      obtain ⟨ge, ha, hge, hc1, hc2⟩ := HE.out k p hp
      have r1 : wr.cell? ⟨ge, k * 2, none⟩ = some (.int .u64 p.1) := (hG.bel.cell (by exact hge)).trans hc1
      have r2 : wr.cell? ⟨ge, k * 2 + 1, none⟩ = some (.int .u64 p.2) := (hG.bel.cell (by exact hge)).trans hc2
      have hl1 := short_take HNL.out.1.symm hn2 Prod.fst hX.out
      have hl2 := short_take HNL.out.1.symm hn2 Prod.snd hY.out
      have hsz : w3.heap.size ≤ wr.heap.size := hG.bel.size
      have HM := one_more hp hX.out hY.out
      have HM' : Hid (xs ++ [p.1] = (rl.take (k + 1)).map Prod.fst ∧ ys ++ [p.2] = (rl.take (k + 1)).map Prod.snd) := HM
      have hx1 := (hG.ox.alloc (.cells #[.int .u64 p.1, .int .u64 p.2] 42)).alloc (.cells #[.int .u64 p.1] 25)
      clear hp hc1 hc2 HM
      subst ha
      go_wp2_with (at_builtin; refine wpList_app1 rfl (.tmp 26) (.tmp 29) rfl w3.heap.size _ xs rfl hx1 (wr.heap.size + 1) p.1 rfl (two_new' _ _ _) hl1 (by simp; omega) ?_)
      intro g1' cap1 w4 hown hgrow hat hlt4
      have hG2 := ((hG.alloc _).alloc _).first hown hgrow (H := wr.heap.size + 1 + 1) (by simp) hat
      obtain ⟨q1, q2, q3⟩ := elem_behind hG.ox hgrow
      clear hown hgrow hat hx1 hG r1 r2
      have hy1 := hG2.oy.alloc (.cells #[.int .u64 p.2] 25)
      have hsz4 : w3.heap.size ≤ w4.heap.size := hG2.bel.size
      go_wp2_with (at_builtin; refine wpList_app1 rfl (.tmp 31) (.tmp 34) rfl w3.heap.size _ ys rfl hy1 w4.heap.size p.2 rfl (heap_alloc_new _ _) hl2 (by simp; omega) ?_)
      intro g2' cap2' w5 hown hgrow hat hlt5
      have hG3 := ((hG2.alloc _).swap.first hown hgrow (H := w4.heap.size + 1) (by simp) hat).swap
      clear hown hgrow hat hy1 hG2 q1 q2 q3
      go_wp2
      go_roundw
      case rel => exact ⟨k + 1, xs ++ [p.1], ys ++ [p.2], by omega, by go_num, hG3, HM'.out.1, HM'.out.2⟩
      case measure => simp [intOf]; omega
    · obtain rfl : k = n := by omega
      have r1 : wr.cell? ⟨w.heap.size, 1, none⟩ = some (.slice ao2 m cap2) := (hG.bel.cell (by exact hbl)).trans c1
      have HX : Hid (xs = rl.map Prod.fst ∧ ys = rl.map Prod.snd) := by
        have e := HNL.out.1
        have h1 := hX.out
        have h2 := hY.out
        rw [e, List.take_length] at h1 h2
        exact ⟨h1, h2⟩
      clear hX hY c1 c2
      obtain ⟨w6, rfl⟩ : ∃ w6 : World, w6 = wr := ⟨_, rfl⟩
      obtain ⟨v6, hv6⟩ : ∃ v6 : Value, v6 = u6 := ⟨_, rfl⟩
      obtain ⟨v7, hv7⟩ : ∃ v7 : Value, v7 = u7 := ⟨_, rfl⟩
      rw [← hv6, ← hv7] at hG
      rw [← hv6, ← hv7]
      clear hv6 hv7
      go_wp2
      go_loopw [8, 9, 40] (fun sx sy i wr => ∃ (j : Nat) (cs ds : List Int), j ≤ m ∧ i = .int .i64 j ∧ G w6 wr cs ds sx sy ∧ Hid (cs = (gl.take j).map Prod.fst) ∧ Hid (ds = (gl.take j).map Prod.snd)) (fun _ _ i _ => m - (intOf i).toNat)
      case atStart => exact ⟨0, [], [], Nat.zero_le _, rfl, G_start w6, rfl, rfl⟩
      case round =>
        clear r1
        obtain ⟨j, cs, ds, hj, rfl, hK, hX, hY⟩ := hrel
        by_cases hlt : j < m
        · obtain ⟨p, hp⟩ : ∃ p, gl[j]? = some p := ⟨gl[j]'(by have := HNL.out.2; omega), List.getElem?_eq_getElem _⟩
          obtain ⟨ge, ha, hge, hc1, hc2⟩ := HG.out j p hp
          have h36 := hG.bel.size
          have r1 : wr.cell? ⟨ge, j * 2, none⟩ = some (.int .u64 p.1) := (hK.bel.cell (show ge < w6.heap.size by omega)).trans ((hG.bel.cell (by exact hge)).trans hc1)
          have r2 : wr.cell? ⟨ge, j * 2 + 1, none⟩ = some (.int .u64 p.2) := (hK.bel.cell (show ge < w6.heap.size by omega)).trans ((hG.bel.cell (by exact hge)).trans hc2)
          have hl1 := short_take HNL.out.2.symm hm2 Prod.fst hX.out
          have hl2 := short_take HNL.out.2.symm hm2 Prod.snd hY.out
          have hsz : w6.heap.size ≤ wr.heap.size := hK.bel.size
          have HM' : Hid (cs ++ [p.1] = (gl.take (j + 1)).map Prod.fst ∧ ds ++ [p.2] = (gl.take (j + 1)).map Prod.snd) := one_more hp hX.out hY.out
          have hx1 := (hK.ox.alloc (.cells #[.int .u64 p.1, .int .u64 p.2] 44)).alloc (.cells #[.int .u64 p.1] 25)
          clear hp hc1 hc2
          subst ha
          go_wp2_with (at_builtin; refine wpList_app1 rfl (.tmp 44) (.tmp 47) rfl w6.heap.size _ cs rfl hx1 (wr.heap.size + 1) p.1 rfl (two_new' _ _ _) hl1 (by simp; omega) ?_)
          intro g1' cap1 w4 hown hgrow hat hlt4
          have hG2 := ((hK.alloc _).alloc _).first hown hgrow (H := wr.heap.size + 1 + 1) (by simp) hat
          obtain ⟨q1, q2, q3⟩ := elem_behind hK.ox hgrow
          clear hown hgrow hat hx1 hK r1 r2
          have hy1 := hG2.oy.alloc (.cells #[.int .u64 p.2] 25)
          have hsz4 : w6.heap.size ≤ w4.heap.size := hG2.bel.size
          go_wp2_with (at_builtin; refine wpList_app1 rfl (.tmp 49) (.tmp 52) rfl w6.heap.size _ ds rfl hy1 w4.heap.size p.2 rfl (heap_alloc_new _ _) hl2 (by simp; omega) ?_)
          intro g2' cap2' w5 hown hgrow hat hlt5
          have hG3 := ((hG2.alloc _).swap.first hown hgrow (H := w4.heap.size + 1) (by simp) hat).swap
          clear hown hgrow hat hy1 hG2 q1 q2 q3
          go_wp2
          go_roundw
          case rel => exact ⟨j + 1, cs ++ [p.1], ds ++ [p.2], by omega, by go_num, hG3, HM'.out.1, HM'.out.2⟩
          case measure => simp [intOf]; omega
        · obtain rfl : j = m := by omega
          have HY : cs = gl.map Prod.fst ∧ ds = gl.map Prod.snd := by
            have e := HNL.out.2
            have h1 := hX.out
            have h2 := hY.out
            rw [e, List.take_length] at h1 h2
            exact ⟨h1, h2⟩
          have f1 := hb3.size
          have f2 := hG.bel.size
          have S6 := (Sl_of hG.ox).mono (w0 := w) f1 hK.bel
          have S7 := (Sl_of hG.oy).mono (w0 := w) f1 hK.bel
          have S8 := (Sl_of hK.ox).mono (w0 := w) (by omega) (Below.refl _ _)
          have S9 := (Sl_of hK.oy).mono (w0 := w) (by omega) (Below.refl _ _)
          rw [HX.out.1] at S6
          rw [HX.out.2] at S7
          rw [HY.1] at S8
          rw [HY.2] at S9
          have hB := hb3.trans ((hG.bel.mono f1).trans (hK.bel.mono (by omega)))
          clear hX hY HY hG hK
          obtain ⟨v8, hv8⟩ : ∃ v8 : Value, v8 = u8 := ⟨_, rfl⟩
          obtain ⟨v9, hv9⟩ : ∃ v9 : Value, v9 = u9 := ⟨_, rfl⟩
          rw [← hv8] at S8 ⊢
          rw [← hv9] at S9 ⊢
          clear hv8 hv9
          go_wp2
          exact bodyPost_ret (v := .tuple #[v6, v7, v8, v9]) (by simp [results, Trym.results13, go_sem]) rfl ⟨v6, v7, v8, v9, rfl, S6, S7, S8, S9, hB⟩
end Go.Proofs.Qxb6600586aMods.Free
