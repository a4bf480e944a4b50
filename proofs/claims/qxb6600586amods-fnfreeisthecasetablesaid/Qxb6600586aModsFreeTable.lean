/-
  THE WALK OF THE LAW 'free is the case table': one theorem a case of the table.
-/
import Derived.Test.Qxb6600586aModsSame
namespace Go.Proofs.Qxb6600586aMods.Free
open Go.RowKit Go.Proofs.Qxb6600586aMods.FreePlain
set_option linter.unusedVariables false

theorem bel_drewN {B : Nat} {a w : World} (h : Below B a w) (q : Nat) : Below B a (w.drewN q) := ⟨h.os, h.tape, h.output, h.size, h.block⟩

set_option maxHeartbeats 1600000 in
set_option maxRecDepth 100000 in
theorem t_none (off en g a b : Int) (w : World) (ho : 0 ≤ off) (ho2 : off ≤ 18446744073709551615) (he0 : 0 ≤ en) (he : en ≤ 18446744073709547519) (g0 : 0 ≤ g) (g1 : g ≤ 18446744073709551615) (hlt : ¬ off < en)
    (hR : runs off en = []) (hG : gaps off en g = []) :
    Calls Trym.prog 6 #[.int .u64 off, .int .u64 en, .int .u64 g] w fun e w' => e = .returned (.bool true) ∧ Below w.heap.size w w' := by
  have HZ := zzfree_any off en g w ho ho2 he g0 g1
  rw [hR, hG] at HZ
  have hbg := bg_walk g
  clear hR hG
  go_enter Trym.func6, Trym.ntmps6
  go_wp2_with fail
  refine HZ.mono ?_
  clear HZ
  rintro e w1 ⟨v6, v7, v8, v9, rfl, s6, s7, s8, s9, hb1⟩
  have hW1 := Ws_start w1
  have t0 := hW1.sl 0 rfl
  have t1 := hW1.sl 1 rfl
  have t2 := hW1.sl 2 rfl
  have t3 := hW1.sl 3 rfl
  have hB := hb1.trans (hW1.bel.mono hb1.size)
  have s6' := s6.mono (w0 := w) (Nat.le_refl _) hW1.bel
  have s7' := s7.mono (w0 := w) (Nat.le_refl _) hW1.bel
  have s8' := s8.mono (w0 := w) (Nat.le_refl _) hW1.bel
  have s9' := s9.mono (w0 := w) (Nat.le_refl _) hW1.bel
  clear hW1 s6 s7 s8 s9
  go_wp2_with fail
  refine (same_any [] v6 _ w w1 _ (by simp) s6' t0).mono ?_
  rintro e wA ⟨rfl, q1, rfl⟩
  go_wp2_with fail
  refine (same_any [] v7 _ w w1 _ (by simp) (s7'.drewN _) (t1.drewN _)).mono ?_
  rintro e wA ⟨rfl, q2, rfl⟩
  go_wp2_with fail
  refine (same_any [] v8 _ w w1 _ (by simp) (s8'.drewN _) (t2.drewN _)).mono ?_
  rintro e wA ⟨rfl, q3, rfl⟩
  go_wp2_with fail
  refine (same_any [] v9 _ w w1 _ (by simp) (s9'.drewN _) (t3.drewN _)).mono ?_
  rintro e wA ⟨rfl, q4, rfl⟩
  go_wp2
  go_ret
  exact ⟨rfl, bel_drewN hB _⟩

set_option maxHeartbeats 1600000 in
set_option maxRecDepth 100000 in
theorem t_A (off en g a b : Int) (w : World) (ho : 0 ≤ off) (ho2 : off ≤ 18446744073709551615) (he0 : 0 ≤ en) (he : en ≤ 18446744073709547519) (g0 : 0 ≤ g) (g1 : g ≤ 18446744073709551615) (hlt : off < en) (ha : (off + 4096 - 1) / 4096 * 4096 = a) (hb : en / 4096 * 4096 = b) (hab : b < a)
    (hR : runs off en = []) (hG : gaps off en g = [(bg g, en - off)]) :
    Calls Trym.prog 6 #[.int .u64 off, .int .u64 en, .int .u64 g] w fun e w' => e = .returned (.bool true) ∧ Below w.heap.size w w' := by
  have HZ := zzfree_any off en g w ho ho2 he g0 g1
  rw [hR, hG] at HZ
  have hbg := bg_walk g
  clear hR hG
  go_enter Trym.func6, Trym.ntmps6
  go_wp2_with fail
  refine HZ.mono ?_
  clear HZ
  rintro e w1 ⟨v6, v7, v8, v9, rfl, s6, s7, s8, s9, hb1⟩
  have hW1 := Ws_start w1
  go_wp2_with (at_builtin; refine wpList_app1 rfl (.tmp 42) (.tmp 46) rfl w1.heap.size _ [] rfl ((hW1.alloc _).own 2 _ rfl) w1.heap.size (bg g) rfl (heap_alloc_new _ _) (by simp) (by simp <;> omega) ?_)
  intro x2 cap2 w2 hown hgrow hat hlt2
  have hW2 : Ws w1 w2 [(.slice none 0 0, []), (.slice none 0 0, []), (.slice (some ⟨x2, 0, none⟩) 1 cap2, [bg g]), (.slice none 0 0, [])] := (hW1.alloc _).app 2 rfl hown hgrow (H := w1.heap.size + 1) (by simp) hat
  have hsz2 : w1.heap.size ≤ w2.heap.size := hW2.bel.size
  clear hown hgrow hat hW1
  go_wp2_with (at_builtin; refine wpList_app1 rfl (.tmp 48) (.tmp 52) rfl w1.heap.size _ [] rfl ((hW2.alloc _).own 3 _ rfl) w2.heap.size (en - off) rfl (heap_alloc_new _ _) (by simp) (by simp <;> omega) ?_)
  intro x3 cap3 w3 hown hgrow hat hlt3
  have hW3 : Ws w1 w3 [(.slice none 0 0, []), (.slice none 0 0, []), (.slice (some ⟨x2, 0, none⟩) 1 cap2, [bg g]), (.slice (some ⟨x3, 0, none⟩) 1 cap3, [en - off])] := (hW2.alloc _).app 3 rfl hown hgrow (H := w2.heap.size + 1) (by simp) hat
  have hsz3 : w1.heap.size ≤ w3.heap.size := hW3.bel.size
  clear hown hgrow hat hW2
  have t0 := hW3.sl 0 rfl
  have t1 := hW3.sl 1 rfl
  have t2 := hW3.sl 2 rfl
  have t3 := hW3.sl 3 rfl
  have hB := hb1.trans (hW3.bel.mono hb1.size)
  have s6' := s6.mono (w0 := w) (Nat.le_refl _) hW3.bel
  have s7' := s7.mono (w0 := w) (Nat.le_refl _) hW3.bel
  have s8' := s8.mono (w0 := w) (Nat.le_refl _) hW3.bel
  have s9' := s9.mono (w0 := w) (Nat.le_refl _) hW3.bel
  clear hW3 s6 s7 s8 s9
  go_wp2_with fail
  refine (same_any [] v6 _ w w1 _ (by simp) s6' t0).mono ?_
  rintro e wA ⟨rfl, q1, rfl⟩
  go_wp2_with fail
  refine (same_any [] v7 _ w w1 _ (by simp) (s7'.drewN _) (t1.drewN _)).mono ?_
  rintro e wA ⟨rfl, q2, rfl⟩
  go_wp2_with fail
  refine (same_any [bg g] v8 _ w w1 _ (by simp) (s8'.drewN _) (t2.drewN _)).mono ?_
  rintro e wA ⟨rfl, q3, rfl⟩
  go_wp2_with fail
  refine (same_any [en - off] v9 _ w w1 _ (by simp) (s9'.drewN _) (t3.drewN _)).mono ?_
  rintro e wA ⟨rfl, q4, rfl⟩
  go_wp2
  go_ret
  exact ⟨rfl, bel_drewN hB _⟩

set_option maxHeartbeats 1600000 in
set_option maxRecDepth 100000 in
theorem t_BCD (off en g a b : Int) (w : World) (ho : 0 ≤ off) (ho2 : off ≤ 18446744073709551615) (he0 : 0 ≤ en) (he : en ≤ 18446744073709547519) (g0 : 0 ≤ g) (g1 : g ≤ 18446744073709551615) (hlt : off < en) (ha : (off + 4096 - 1) / 4096 * 4096 = a) (hb : en / 4096 * 4096 = b) (hab : ¬ b < a) (h1 : off < a) (h2 : a < b) (h3 : b < en)
    (hR : runs off en = [(a, b - a)]) (hG : gaps off en g = [(2 * (a / 4096), a - off), (bg g, en - b)]) :
    Calls Trym.prog 6 #[.int .u64 off, .int .u64 en, .int .u64 g] w fun e w' => e = .returned (.bool true) ∧ Below w.heap.size w w' := by
  have HZ := zzfree_any off en g w ho ho2 he g0 g1
  rw [hR, hG] at HZ
  have hbg := bg_walk g
  clear hR hG
  go_enter Trym.func6, Trym.ntmps6
  go_wp2_with fail
  refine HZ.mono ?_
  clear HZ
  rintro e w1 ⟨v6, v7, v8, v9, rfl, s6, s7, s8, s9, hb1⟩
  have hW1 := Ws_start w1
  go_wp2_with (at_builtin; refine wpList_app1 rfl (.tmp 57) (.tmp 61) rfl w1.heap.size _ [] rfl ((hW1.alloc _).own 2 _ rfl) w1.heap.size (2 * (a / 4096)) rfl (heap_alloc_new _ _) (by simp) (by simp <;> omega) ?_)
  intro x2 cap2 w2 hown hgrow hat hlt2
  have hW2 : Ws w1 w2 [(.slice none 0 0, []), (.slice none 0 0, []), (.slice (some ⟨x2, 0, none⟩) 1 cap2, [2 * (a / 4096)]), (.slice none 0 0, [])] := (hW1.alloc _).app 2 rfl hown hgrow (H := w1.heap.size + 1) (by simp) hat
  have hsz2 : w1.heap.size ≤ w2.heap.size := hW2.bel.size
  clear hown hgrow hat hW1
  go_wp2_with (at_builtin; refine wpList_app1 rfl (.tmp 63) (.tmp 67) rfl w1.heap.size _ [] rfl ((hW2.alloc _).own 3 _ rfl) w2.heap.size (a - off) rfl (heap_alloc_new _ _) (by simp) (by simp <;> omega) ?_)
  intro x3 cap3 w3 hown hgrow hat hlt3
  have hW3 : Ws w1 w3 [(.slice none 0 0, []), (.slice none 0 0, []), (.slice (some ⟨x2, 0, none⟩) 1 cap2, [2 * (a / 4096)]), (.slice (some ⟨x3, 0, none⟩) 1 cap3, [a - off])] := (hW2.alloc _).app 3 rfl hown hgrow (H := w2.heap.size + 1) (by simp) hat
  have hsz3 : w1.heap.size ≤ w3.heap.size := hW3.bel.size
  clear hown hgrow hat hW2
  go_wp2_with (at_builtin; refine wpList_app1 rfl (.tmp 72) (.tmp 74) rfl w1.heap.size _ [] rfl ((hW3.alloc _).own 0 _ rfl) w3.heap.size (a) rfl (heap_alloc_new _ _) (by simp) (by simp <;> omega) ?_)
  intro x4 cap4 w4 hown hgrow hat hlt4
  have hW4 : Ws w1 w4 [(.slice (some ⟨x4, 0, none⟩) 1 cap4, [a]), (.slice none 0 0, []), (.slice (some ⟨x2, 0, none⟩) 1 cap2, [2 * (a / 4096)]), (.slice (some ⟨x3, 0, none⟩) 1 cap3, [a - off])] := (hW3.alloc _).app 0 rfl hown hgrow (H := w3.heap.size + 1) (by simp) hat
  have hsz4 : w1.heap.size ≤ w4.heap.size := hW4.bel.size
  clear hown hgrow hat hW3
  go_wp2_with (at_builtin; refine wpList_app1 rfl (.tmp 76) (.tmp 80) rfl w1.heap.size _ [] rfl ((hW4.alloc _).own 1 _ rfl) w4.heap.size (b - a) rfl (heap_alloc_new _ _) (by simp) (by simp <;> omega) ?_)
  intro x5 cap5 w5 hown hgrow hat hlt5
  have hW5 : Ws w1 w5 [(.slice (some ⟨x4, 0, none⟩) 1 cap4, [a]), (.slice (some ⟨x5, 0, none⟩) 1 cap5, [b - a]), (.slice (some ⟨x2, 0, none⟩) 1 cap2, [2 * (a / 4096)]), (.slice (some ⟨x3, 0, none⟩) 1 cap3, [a - off])] := (hW4.alloc _).app 1 rfl hown hgrow (H := w4.heap.size + 1) (by simp) hat
  have hsz5 : w1.heap.size ≤ w5.heap.size := hW5.bel.size
  clear hown hgrow hat hW4
  go_wp2_with (at_builtin; refine wpList_app1 rfl (.tmp 85) (.tmp 89) rfl w1.heap.size _ [2 * (a / 4096)] rfl ((hW5.alloc _).own 2 _ rfl) w5.heap.size (bg g) rfl (heap_alloc_new _ _) (by simp) (by simp <;> omega) ?_)
  intro x6 cap6 w6 hown hgrow hat hlt6
  have hW6 : Ws w1 w6 [(.slice (some ⟨x4, 0, none⟩) 1 cap4, [a]), (.slice (some ⟨x5, 0, none⟩) 1 cap5, [b - a]), (.slice (some ⟨x6, 0, none⟩) 2 cap6, [2 * (a / 4096), bg g]), (.slice (some ⟨x3, 0, none⟩) 1 cap3, [a - off])] := (hW5.alloc _).app 2 rfl hown hgrow (H := w5.heap.size + 1) (by simp) hat
  have hsz6 : w1.heap.size ≤ w6.heap.size := hW6.bel.size
  clear hown hgrow hat hW5
  go_wp2_with (at_builtin; refine wpList_app1 rfl (.tmp 91) (.tmp 95) rfl w1.heap.size _ [a - off] rfl ((hW6.alloc _).own 3 _ rfl) w6.heap.size (en - b) rfl (heap_alloc_new _ _) (by simp) (by simp <;> omega) ?_)
  intro x7 cap7 w7 hown hgrow hat hlt7
  have hW7 : Ws w1 w7 [(.slice (some ⟨x4, 0, none⟩) 1 cap4, [a]), (.slice (some ⟨x5, 0, none⟩) 1 cap5, [b - a]), (.slice (some ⟨x6, 0, none⟩) 2 cap6, [2 * (a / 4096), bg g]), (.slice (some ⟨x7, 0, none⟩) 2 cap7, [a - off, en - b])] := (hW6.alloc _).app 3 rfl hown hgrow (H := w6.heap.size + 1) (by simp) hat
  have hsz7 : w1.heap.size ≤ w7.heap.size := hW7.bel.size
  clear hown hgrow hat hW6
  have t0 := hW7.sl 0 rfl
  have t1 := hW7.sl 1 rfl
  have t2 := hW7.sl 2 rfl
  have t3 := hW7.sl 3 rfl
  have hB := hb1.trans (hW7.bel.mono hb1.size)
  have s6' := s6.mono (w0 := w) (Nat.le_refl _) hW7.bel
  have s7' := s7.mono (w0 := w) (Nat.le_refl _) hW7.bel
  have s8' := s8.mono (w0 := w) (Nat.le_refl _) hW7.bel
  have s9' := s9.mono (w0 := w) (Nat.le_refl _) hW7.bel
  clear hW7 s6 s7 s8 s9
  go_wp2_with fail
  refine (same_any [a] v6 _ w w1 _ (by simp) s6' t0).mono ?_
  rintro e wA ⟨rfl, q1, rfl⟩
  go_wp2_with fail
  refine (same_any [b - a] v7 _ w w1 _ (by simp) (s7'.drewN _) (t1.drewN _)).mono ?_
  rintro e wA ⟨rfl, q2, rfl⟩
  go_wp2_with fail
  refine (same_any [2 * (a / 4096), bg g] v8 _ w w1 _ (by simp) (s8'.drewN _) (t2.drewN _)).mono ?_
  rintro e wA ⟨rfl, q3, rfl⟩
  go_wp2_with fail
  refine (same_any [a - off, en - b] v9 _ w w1 _ (by simp) (s9'.drewN _) (t3.drewN _)).mono ?_
  rintro e wA ⟨rfl, q4, rfl⟩
  go_wp2
  go_ret
  exact ⟨rfl, bel_drewN hB _⟩

set_option maxHeartbeats 1600000 in
set_option maxRecDepth 100000 in
theorem t_BC (off en g a b : Int) (w : World) (ho : 0 ≤ off) (ho2 : off ≤ 18446744073709551615) (he0 : 0 ≤ en) (he : en ≤ 18446744073709547519) (g0 : 0 ≤ g) (g1 : g ≤ 18446744073709551615) (hlt : off < en) (ha : (off + 4096 - 1) / 4096 * 4096 = a) (hb : en / 4096 * 4096 = b) (hab : ¬ b < a) (h1 : off < a) (h2 : a < b) (h3 : ¬ b < en)
    (hR : runs off en = [(a, b - a)]) (hG : gaps off en g = [(2 * (a / 4096), a - off)]) :
    Calls Trym.prog 6 #[.int .u64 off, .int .u64 en, .int .u64 g] w fun e w' => e = .returned (.bool true) ∧ Below w.heap.size w w' := by
  have HZ := zzfree_any off en g w ho ho2 he g0 g1
  rw [hR, hG] at HZ
  have hbg := bg_walk g
  clear hR hG
  go_enter Trym.func6, Trym.ntmps6
  go_wp2_with fail
  refine HZ.mono ?_
  clear HZ
  rintro e w1 ⟨v6, v7, v8, v9, rfl, s6, s7, s8, s9, hb1⟩
  have hW1 := Ws_start w1
  go_wp2_with (at_builtin; refine wpList_app1 rfl (.tmp 57) (.tmp 61) rfl w1.heap.size _ [] rfl ((hW1.alloc _).own 2 _ rfl) w1.heap.size (2 * (a / 4096)) rfl (heap_alloc_new _ _) (by simp) (by simp <;> omega) ?_)
  intro x2 cap2 w2 hown hgrow hat hlt2
  have hW2 : Ws w1 w2 [(.slice none 0 0, []), (.slice none 0 0, []), (.slice (some ⟨x2, 0, none⟩) 1 cap2, [2 * (a / 4096)]), (.slice none 0 0, [])] := (hW1.alloc _).app 2 rfl hown hgrow (H := w1.heap.size + 1) (by simp) hat
  have hsz2 : w1.heap.size ≤ w2.heap.size := hW2.bel.size
  clear hown hgrow hat hW1
  go_wp2_with (at_builtin; refine wpList_app1 rfl (.tmp 63) (.tmp 67) rfl w1.heap.size _ [] rfl ((hW2.alloc _).own 3 _ rfl) w2.heap.size (a - off) rfl (heap_alloc_new _ _) (by simp) (by simp <;> omega) ?_)
  intro x3 cap3 w3 hown hgrow hat hlt3
  have hW3 : Ws w1 w3 [(.slice none 0 0, []), (.slice none 0 0, []), (.slice (some ⟨x2, 0, none⟩) 1 cap2, [2 * (a / 4096)]), (.slice (some ⟨x3, 0, none⟩) 1 cap3, [a - off])] := (hW2.alloc _).app 3 rfl hown hgrow (H := w2.heap.size + 1) (by simp) hat
  have hsz3 : w1.heap.size ≤ w3.heap.size := hW3.bel.size
  clear hown hgrow hat hW2
  go_wp2_with (at_builtin; refine wpList_app1 rfl (.tmp 72) (.tmp 74) rfl w1.heap.size _ [] rfl ((hW3.alloc _).own 0 _ rfl) w3.heap.size (a) rfl (heap_alloc_new _ _) (by simp) (by simp <;> omega) ?_)
  intro x4 cap4 w4 hown hgrow hat hlt4
  have hW4 : Ws w1 w4 [(.slice (some ⟨x4, 0, none⟩) 1 cap4, [a]), (.slice none 0 0, []), (.slice (some ⟨x2, 0, none⟩) 1 cap2, [2 * (a / 4096)]), (.slice (some ⟨x3, 0, none⟩) 1 cap3, [a - off])] := (hW3.alloc _).app 0 rfl hown hgrow (H := w3.heap.size + 1) (by simp) hat
  have hsz4 : w1.heap.size ≤ w4.heap.size := hW4.bel.size
  clear hown hgrow hat hW3
  go_wp2_with (at_builtin; refine wpList_app1 rfl (.tmp 76) (.tmp 80) rfl w1.heap.size _ [] rfl ((hW4.alloc _).own 1 _ rfl) w4.heap.size (b - a) rfl (heap_alloc_new _ _) (by simp) (by simp <;> omega) ?_)
  intro x5 cap5 w5 hown hgrow hat hlt5
  have hW5 : Ws w1 w5 [(.slice (some ⟨x4, 0, none⟩) 1 cap4, [a]), (.slice (some ⟨x5, 0, none⟩) 1 cap5, [b - a]), (.slice (some ⟨x2, 0, none⟩) 1 cap2, [2 * (a / 4096)]), (.slice (some ⟨x3, 0, none⟩) 1 cap3, [a - off])] := (hW4.alloc _).app 1 rfl hown hgrow (H := w4.heap.size + 1) (by simp) hat
  have hsz5 : w1.heap.size ≤ w5.heap.size := hW5.bel.size
  clear hown hgrow hat hW4
  have t0 := hW5.sl 0 rfl
  have t1 := hW5.sl 1 rfl
  have t2 := hW5.sl 2 rfl
  have t3 := hW5.sl 3 rfl
  have hB := hb1.trans (hW5.bel.mono hb1.size)
  have s6' := s6.mono (w0 := w) (Nat.le_refl _) hW5.bel
  have s7' := s7.mono (w0 := w) (Nat.le_refl _) hW5.bel
  have s8' := s8.mono (w0 := w) (Nat.le_refl _) hW5.bel
  have s9' := s9.mono (w0 := w) (Nat.le_refl _) hW5.bel
  clear hW5 s6 s7 s8 s9
  go_wp2_with fail
  refine (same_any [a] v6 _ w w1 _ (by simp) s6' t0).mono ?_
  rintro e wA ⟨rfl, q1, rfl⟩
  go_wp2_with fail
  refine (same_any [b - a] v7 _ w w1 _ (by simp) (s7'.drewN _) (t1.drewN _)).mono ?_
  rintro e wA ⟨rfl, q2, rfl⟩
  go_wp2_with fail
  refine (same_any [2 * (a / 4096)] v8 _ w w1 _ (by simp) (s8'.drewN _) (t2.drewN _)).mono ?_
  rintro e wA ⟨rfl, q3, rfl⟩
  go_wp2_with fail
  refine (same_any [a - off] v9 _ w w1 _ (by simp) (s9'.drewN _) (t3.drewN _)).mono ?_
  rintro e wA ⟨rfl, q4, rfl⟩
  go_wp2
  go_ret
  exact ⟨rfl, bel_drewN hB _⟩

set_option maxHeartbeats 1600000 in
set_option maxRecDepth 100000 in
theorem t_BD (off en g a b : Int) (w : World) (ho : 0 ≤ off) (ho2 : off ≤ 18446744073709551615) (he0 : 0 ≤ en) (he : en ≤ 18446744073709547519) (g0 : 0 ≤ g) (g1 : g ≤ 18446744073709551615) (hlt : off < en) (ha : (off + 4096 - 1) / 4096 * 4096 = a) (hb : en / 4096 * 4096 = b) (hab : ¬ b < a) (h1 : off < a) (h2 : ¬ a < b) (h3 : b < en)
    (hR : runs off en = []) (hG : gaps off en g = [(2 * (a / 4096), a - off), (bg g, en - b)]) :
    Calls Trym.prog 6 #[.int .u64 off, .int .u64 en, .int .u64 g] w fun e w' => e = .returned (.bool true) ∧ Below w.heap.size w w' := by
  have HZ := zzfree_any off en g w ho ho2 he g0 g1
  rw [hR, hG] at HZ
  have hbg := bg_walk g
  clear hR hG
  go_enter Trym.func6, Trym.ntmps6
  go_wp2_with fail
  refine HZ.mono ?_
  clear HZ
  rintro e w1 ⟨v6, v7, v8, v9, rfl, s6, s7, s8, s9, hb1⟩
  have hW1 := Ws_start w1
  go_wp2_with (at_builtin; refine wpList_app1 rfl (.tmp 57) (.tmp 61) rfl w1.heap.size _ [] rfl ((hW1.alloc _).own 2 _ rfl) w1.heap.size (2 * (a / 4096)) rfl (heap_alloc_new _ _) (by simp) (by simp <;> omega) ?_)
  intro x2 cap2 w2 hown hgrow hat hlt2
  have hW2 : Ws w1 w2 [(.slice none 0 0, []), (.slice none 0 0, []), (.slice (some ⟨x2, 0, none⟩) 1 cap2, [2 * (a / 4096)]), (.slice none 0 0, [])] := (hW1.alloc _).app 2 rfl hown hgrow (H := w1.heap.size + 1) (by simp) hat
  have hsz2 : w1.heap.size ≤ w2.heap.size := hW2.bel.size
  clear hown hgrow hat hW1
  go_wp2_with (at_builtin; refine wpList_app1 rfl (.tmp 63) (.tmp 67) rfl w1.heap.size _ [] rfl ((hW2.alloc _).own 3 _ rfl) w2.heap.size (a - off) rfl (heap_alloc_new _ _) (by simp) (by simp <;> omega) ?_)
  intro x3 cap3 w3 hown hgrow hat hlt3
  have hW3 : Ws w1 w3 [(.slice none 0 0, []), (.slice none 0 0, []), (.slice (some ⟨x2, 0, none⟩) 1 cap2, [2 * (a / 4096)]), (.slice (some ⟨x3, 0, none⟩) 1 cap3, [a - off])] := (hW2.alloc _).app 3 rfl hown hgrow (H := w2.heap.size + 1) (by simp) hat
  have hsz3 : w1.heap.size ≤ w3.heap.size := hW3.bel.size
  clear hown hgrow hat hW2
  go_wp2_with (at_builtin; refine wpList_app1 rfl (.tmp 85) (.tmp 89) rfl w1.heap.size _ [2 * (a / 4096)] rfl ((hW3.alloc _).own 2 _ rfl) w3.heap.size (bg g) rfl (heap_alloc_new _ _) (by simp) (by simp <;> omega) ?_)
  intro x4 cap4 w4 hown hgrow hat hlt4
  have hW4 : Ws w1 w4 [(.slice none 0 0, []), (.slice none 0 0, []), (.slice (some ⟨x4, 0, none⟩) 2 cap4, [2 * (a / 4096), bg g]), (.slice (some ⟨x3, 0, none⟩) 1 cap3, [a - off])] := (hW3.alloc _).app 2 rfl hown hgrow (H := w3.heap.size + 1) (by simp) hat
  have hsz4 : w1.heap.size ≤ w4.heap.size := hW4.bel.size
  clear hown hgrow hat hW3
  go_wp2_with (at_builtin; refine wpList_app1 rfl (.tmp 91) (.tmp 95) rfl w1.heap.size _ [a - off] rfl ((hW4.alloc _).own 3 _ rfl) w4.heap.size (en - b) rfl (heap_alloc_new _ _) (by simp) (by simp <;> omega) ?_)
  intro x5 cap5 w5 hown hgrow hat hlt5
  have hW5 : Ws w1 w5 [(.slice none 0 0, []), (.slice none 0 0, []), (.slice (some ⟨x4, 0, none⟩) 2 cap4, [2 * (a / 4096), bg g]), (.slice (some ⟨x5, 0, none⟩) 2 cap5, [a - off, en - b])] := (hW4.alloc _).app 3 rfl hown hgrow (H := w4.heap.size + 1) (by simp) hat
  have hsz5 : w1.heap.size ≤ w5.heap.size := hW5.bel.size
  clear hown hgrow hat hW4
  have t0 := hW5.sl 0 rfl
  have t1 := hW5.sl 1 rfl
  have t2 := hW5.sl 2 rfl
  have t3 := hW5.sl 3 rfl
  have hB := hb1.trans (hW5.bel.mono hb1.size)
  have s6' := s6.mono (w0 := w) (Nat.le_refl _) hW5.bel
  have s7' := s7.mono (w0 := w) (Nat.le_refl _) hW5.bel
  have s8' := s8.mono (w0 := w) (Nat.le_refl _) hW5.bel
  have s9' := s9.mono (w0 := w) (Nat.le_refl _) hW5.bel
  clear hW5 s6 s7 s8 s9
  go_wp2_with fail
  refine (same_any [] v6 _ w w1 _ (by simp) s6' t0).mono ?_
  rintro e wA ⟨rfl, q1, rfl⟩
  go_wp2_with fail
  refine (same_any [] v7 _ w w1 _ (by simp) (s7'.drewN _) (t1.drewN _)).mono ?_
  rintro e wA ⟨rfl, q2, rfl⟩
  go_wp2_with fail
  refine (same_any [2 * (a / 4096), bg g] v8 _ w w1 _ (by simp) (s8'.drewN _) (t2.drewN _)).mono ?_
  rintro e wA ⟨rfl, q3, rfl⟩
  go_wp2_with fail
  refine (same_any [a - off, en - b] v9 _ w w1 _ (by simp) (s9'.drewN _) (t3.drewN _)).mono ?_
  rintro e wA ⟨rfl, q4, rfl⟩
  go_wp2
  go_ret
  exact ⟨rfl, bel_drewN hB _⟩

set_option maxHeartbeats 1600000 in
set_option maxRecDepth 100000 in
theorem t_B (off en g a b : Int) (w : World) (ho : 0 ≤ off) (ho2 : off ≤ 18446744073709551615) (he0 : 0 ≤ en) (he : en ≤ 18446744073709547519) (g0 : 0 ≤ g) (g1 : g ≤ 18446744073709551615) (hlt : off < en) (ha : (off + 4096 - 1) / 4096 * 4096 = a) (hb : en / 4096 * 4096 = b) (hab : ¬ b < a) (h1 : off < a) (h2 : ¬ a < b) (h3 : ¬ b < en)
    (hR : runs off en = []) (hG : gaps off en g = [(2 * (a / 4096), a - off)]) :
    Calls Trym.prog 6 #[.int .u64 off, .int .u64 en, .int .u64 g] w fun e w' => e = .returned (.bool true) ∧ Below w.heap.size w w' := by
  have HZ := zzfree_any off en g w ho ho2 he g0 g1
  rw [hR, hG] at HZ
  have hbg := bg_walk g
  clear hR hG
  go_enter Trym.func6, Trym.ntmps6
  go_wp2_with fail
  refine HZ.mono ?_
  clear HZ
  rintro e w1 ⟨v6, v7, v8, v9, rfl, s6, s7, s8, s9, hb1⟩
  have hW1 := Ws_start w1
  go_wp2_with (at_builtin; refine wpList_app1 rfl (.tmp 57) (.tmp 61) rfl w1.heap.size _ [] rfl ((hW1.alloc _).own 2 _ rfl) w1.heap.size (2 * (a / 4096)) rfl (heap_alloc_new _ _) (by simp) (by simp <;> omega) ?_)
  intro x2 cap2 w2 hown hgrow hat hlt2
  have hW2 : Ws w1 w2 [(.slice none 0 0, []), (.slice none 0 0, []), (.slice (some ⟨x2, 0, none⟩) 1 cap2, [2 * (a / 4096)]), (.slice none 0 0, [])] := (hW1.alloc _).app 2 rfl hown hgrow (H := w1.heap.size + 1) (by simp) hat
  have hsz2 : w1.heap.size ≤ w2.heap.size := hW2.bel.size
  clear hown hgrow hat hW1
  go_wp2_with (at_builtin; refine wpList_app1 rfl (.tmp 63) (.tmp 67) rfl w1.heap.size _ [] rfl ((hW2.alloc _).own 3 _ rfl) w2.heap.size (a - off) rfl (heap_alloc_new _ _) (by simp) (by simp <;> omega) ?_)
  intro x3 cap3 w3 hown hgrow hat hlt3
  have hW3 : Ws w1 w3 [(.slice none 0 0, []), (.slice none 0 0, []), (.slice (some ⟨x2, 0, none⟩) 1 cap2, [2 * (a / 4096)]), (.slice (some ⟨x3, 0, none⟩) 1 cap3, [a - off])] := (hW2.alloc _).app 3 rfl hown hgrow (H := w2.heap.size + 1) (by simp) hat
  have hsz3 : w1.heap.size ≤ w3.heap.size := hW3.bel.size
  clear hown hgrow hat hW2
  have t0 := hW3.sl 0 rfl
  have t1 := hW3.sl 1 rfl
  have t2 := hW3.sl 2 rfl
  have t3 := hW3.sl 3 rfl
  have hB := hb1.trans (hW3.bel.mono hb1.size)
  have s6' := s6.mono (w0 := w) (Nat.le_refl _) hW3.bel
  have s7' := s7.mono (w0 := w) (Nat.le_refl _) hW3.bel
  have s8' := s8.mono (w0 := w) (Nat.le_refl _) hW3.bel
  have s9' := s9.mono (w0 := w) (Nat.le_refl _) hW3.bel
  clear hW3 s6 s7 s8 s9
  go_wp2_with fail
  refine (same_any [] v6 _ w w1 _ (by simp) s6' t0).mono ?_
  rintro e wA ⟨rfl, q1, rfl⟩
  go_wp2_with fail
  refine (same_any [] v7 _ w w1 _ (by simp) (s7'.drewN _) (t1.drewN _)).mono ?_
  rintro e wA ⟨rfl, q2, rfl⟩
  go_wp2_with fail
  refine (same_any [2 * (a / 4096)] v8 _ w w1 _ (by simp) (s8'.drewN _) (t2.drewN _)).mono ?_
  rintro e wA ⟨rfl, q3, rfl⟩
  go_wp2_with fail
  refine (same_any [a - off] v9 _ w w1 _ (by simp) (s9'.drewN _) (t3.drewN _)).mono ?_
  rintro e wA ⟨rfl, q4, rfl⟩
  go_wp2
  go_ret
  exact ⟨rfl, bel_drewN hB _⟩

set_option maxHeartbeats 1600000 in
set_option maxRecDepth 100000 in
theorem t_CD (off en g a b : Int) (w : World) (ho : 0 ≤ off) (ho2 : off ≤ 18446744073709551615) (he0 : 0 ≤ en) (he : en ≤ 18446744073709547519) (g0 : 0 ≤ g) (g1 : g ≤ 18446744073709551615) (hlt : off < en) (ha : (off + 4096 - 1) / 4096 * 4096 = a) (hb : en / 4096 * 4096 = b) (hab : ¬ b < a) (h1 : ¬ off < a) (h2 : a < b) (h3 : b < en)
    (hR : runs off en = [(a, b - a)]) (hG : gaps off en g = [(bg g, en - b)]) :
    Calls Trym.prog 6 #[.int .u64 off, .int .u64 en, .int .u64 g] w fun e w' => e = .returned (.bool true) ∧ Below w.heap.size w w' := by
  have HZ := zzfree_any off en g w ho ho2 he g0 g1
  rw [hR, hG] at HZ
  have hbg := bg_walk g
  clear hR hG
  go_enter Trym.func6, Trym.ntmps6
  go_wp2_with fail
  refine HZ.mono ?_
  clear HZ
  rintro e w1 ⟨v6, v7, v8, v9, rfl, s6, s7, s8, s9, hb1⟩
  have hW1 := Ws_start w1
  go_wp2_with (at_builtin; refine wpList_app1 rfl (.tmp 72) (.tmp 74) rfl w1.heap.size _ [] rfl ((hW1.alloc _).own 0 _ rfl) w1.heap.size (a) rfl (heap_alloc_new _ _) (by simp) (by simp <;> omega) ?_)
  intro x2 cap2 w2 hown hgrow hat hlt2
  have hW2 : Ws w1 w2 [(.slice (some ⟨x2, 0, none⟩) 1 cap2, [a]), (.slice none 0 0, []), (.slice none 0 0, []), (.slice none 0 0, [])] := (hW1.alloc _).app 0 rfl hown hgrow (H := w1.heap.size + 1) (by simp) hat
  have hsz2 : w1.heap.size ≤ w2.heap.size := hW2.bel.size
  clear hown hgrow hat hW1
  go_wp2_with (at_builtin; refine wpList_app1 rfl (.tmp 76) (.tmp 80) rfl w1.heap.size _ [] rfl ((hW2.alloc _).own 1 _ rfl) w2.heap.size (b - a) rfl (heap_alloc_new _ _) (by simp) (by simp <;> omega) ?_)
  intro x3 cap3 w3 hown hgrow hat hlt3
  have hW3 : Ws w1 w3 [(.slice (some ⟨x2, 0, none⟩) 1 cap2, [a]), (.slice (some ⟨x3, 0, none⟩) 1 cap3, [b - a]), (.slice none 0 0, []), (.slice none 0 0, [])] := (hW2.alloc _).app 1 rfl hown hgrow (H := w2.heap.size + 1) (by simp) hat
  have hsz3 : w1.heap.size ≤ w3.heap.size := hW3.bel.size
  clear hown hgrow hat hW2
  go_wp2_with (at_builtin; refine wpList_app1 rfl (.tmp 85) (.tmp 89) rfl w1.heap.size _ [] rfl ((hW3.alloc _).own 2 _ rfl) w3.heap.size (bg g) rfl (heap_alloc_new _ _) (by simp) (by simp <;> omega) ?_)
  intro x4 cap4 w4 hown hgrow hat hlt4
  have hW4 : Ws w1 w4 [(.slice (some ⟨x2, 0, none⟩) 1 cap2, [a]), (.slice (some ⟨x3, 0, none⟩) 1 cap3, [b - a]), (.slice (some ⟨x4, 0, none⟩) 1 cap4, [bg g]), (.slice none 0 0, [])] := (hW3.alloc _).app 2 rfl hown hgrow (H := w3.heap.size + 1) (by simp) hat
  have hsz4 : w1.heap.size ≤ w4.heap.size := hW4.bel.size
  clear hown hgrow hat hW3
  go_wp2_with (at_builtin; refine wpList_app1 rfl (.tmp 91) (.tmp 95) rfl w1.heap.size _ [] rfl ((hW4.alloc _).own 3 _ rfl) w4.heap.size (en - b) rfl (heap_alloc_new _ _) (by simp) (by simp <;> omega) ?_)
  intro x5 cap5 w5 hown hgrow hat hlt5
  have hW5 : Ws w1 w5 [(.slice (some ⟨x2, 0, none⟩) 1 cap2, [a]), (.slice (some ⟨x3, 0, none⟩) 1 cap3, [b - a]), (.slice (some ⟨x4, 0, none⟩) 1 cap4, [bg g]), (.slice (some ⟨x5, 0, none⟩) 1 cap5, [en - b])] := (hW4.alloc _).app 3 rfl hown hgrow (H := w4.heap.size + 1) (by simp) hat
  have hsz5 : w1.heap.size ≤ w5.heap.size := hW5.bel.size
  clear hown hgrow hat hW4
  have t0 := hW5.sl 0 rfl
  have t1 := hW5.sl 1 rfl
  have t2 := hW5.sl 2 rfl
  have t3 := hW5.sl 3 rfl
  have hB := hb1.trans (hW5.bel.mono hb1.size)
  have s6' := s6.mono (w0 := w) (Nat.le_refl _) hW5.bel
  have s7' := s7.mono (w0 := w) (Nat.le_refl _) hW5.bel
  have s8' := s8.mono (w0 := w) (Nat.le_refl _) hW5.bel
  have s9' := s9.mono (w0 := w) (Nat.le_refl _) hW5.bel
  clear hW5 s6 s7 s8 s9
  go_wp2_with fail
  refine (same_any [a] v6 _ w w1 _ (by simp) s6' t0).mono ?_
  rintro e wA ⟨rfl, q1, rfl⟩
  go_wp2_with fail
  refine (same_any [b - a] v7 _ w w1 _ (by simp) (s7'.drewN _) (t1.drewN _)).mono ?_
  rintro e wA ⟨rfl, q2, rfl⟩
  go_wp2_with fail
  refine (same_any [bg g] v8 _ w w1 _ (by simp) (s8'.drewN _) (t2.drewN _)).mono ?_
  rintro e wA ⟨rfl, q3, rfl⟩
  go_wp2_with fail
  refine (same_any [en - b] v9 _ w w1 _ (by simp) (s9'.drewN _) (t3.drewN _)).mono ?_
  rintro e wA ⟨rfl, q4, rfl⟩
  go_wp2
  go_ret
  exact ⟨rfl, bel_drewN hB _⟩

set_option maxHeartbeats 1600000 in
set_option maxRecDepth 100000 in
theorem t_C (off en g a b : Int) (w : World) (ho : 0 ≤ off) (ho2 : off ≤ 18446744073709551615) (he0 : 0 ≤ en) (he : en ≤ 18446744073709547519) (g0 : 0 ≤ g) (g1 : g ≤ 18446744073709551615) (hlt : off < en) (ha : (off + 4096 - 1) / 4096 * 4096 = a) (hb : en / 4096 * 4096 = b) (hab : ¬ b < a) (h1 : ¬ off < a) (h2 : a < b) (h3 : ¬ b < en)
    (hR : runs off en = [(a, b - a)]) (hG : gaps off en g = []) :
    Calls Trym.prog 6 #[.int .u64 off, .int .u64 en, .int .u64 g] w fun e w' => e = .returned (.bool true) ∧ Below w.heap.size w w' := by
  have HZ := zzfree_any off en g w ho ho2 he g0 g1
  rw [hR, hG] at HZ
  have hbg := bg_walk g
  clear hR hG
  go_enter Trym.func6, Trym.ntmps6
  go_wp2_with fail
  refine HZ.mono ?_
  clear HZ
  rintro e w1 ⟨v6, v7, v8, v9, rfl, s6, s7, s8, s9, hb1⟩
  have hW1 := Ws_start w1
  go_wp2_with (at_builtin; refine wpList_app1 rfl (.tmp 72) (.tmp 74) rfl w1.heap.size _ [] rfl ((hW1.alloc _).own 0 _ rfl) w1.heap.size (a) rfl (heap_alloc_new _ _) (by simp) (by simp <;> omega) ?_)
  intro x2 cap2 w2 hown hgrow hat hlt2
  have hW2 : Ws w1 w2 [(.slice (some ⟨x2, 0, none⟩) 1 cap2, [a]), (.slice none 0 0, []), (.slice none 0 0, []), (.slice none 0 0, [])] := (hW1.alloc _).app 0 rfl hown hgrow (H := w1.heap.size + 1) (by simp) hat
  have hsz2 : w1.heap.size ≤ w2.heap.size := hW2.bel.size
  clear hown hgrow hat hW1
  go_wp2_with (at_builtin; refine wpList_app1 rfl (.tmp 76) (.tmp 80) rfl w1.heap.size _ [] rfl ((hW2.alloc _).own 1 _ rfl) w2.heap.size (b - a) rfl (heap_alloc_new _ _) (by simp) (by simp <;> omega) ?_)
  intro x3 cap3 w3 hown hgrow hat hlt3
  have hW3 : Ws w1 w3 [(.slice (some ⟨x2, 0, none⟩) 1 cap2, [a]), (.slice (some ⟨x3, 0, none⟩) 1 cap3, [b - a]), (.slice none 0 0, []), (.slice none 0 0, [])] := (hW2.alloc _).app 1 rfl hown hgrow (H := w2.heap.size + 1) (by simp) hat
  have hsz3 : w1.heap.size ≤ w3.heap.size := hW3.bel.size
  clear hown hgrow hat hW2
  have t0 := hW3.sl 0 rfl
  have t1 := hW3.sl 1 rfl
  have t2 := hW3.sl 2 rfl
  have t3 := hW3.sl 3 rfl
  have hB := hb1.trans (hW3.bel.mono hb1.size)
  have s6' := s6.mono (w0 := w) (Nat.le_refl _) hW3.bel
  have s7' := s7.mono (w0 := w) (Nat.le_refl _) hW3.bel
  have s8' := s8.mono (w0 := w) (Nat.le_refl _) hW3.bel
  have s9' := s9.mono (w0 := w) (Nat.le_refl _) hW3.bel
  clear hW3 s6 s7 s8 s9
  go_wp2_with fail
  refine (same_any [a] v6 _ w w1 _ (by simp) s6' t0).mono ?_
  rintro e wA ⟨rfl, q1, rfl⟩
  go_wp2_with fail
  refine (same_any [b - a] v7 _ w w1 _ (by simp) (s7'.drewN _) (t1.drewN _)).mono ?_
  rintro e wA ⟨rfl, q2, rfl⟩
  go_wp2_with fail
  refine (same_any [] v8 _ w w1 _ (by simp) (s8'.drewN _) (t2.drewN _)).mono ?_
  rintro e wA ⟨rfl, q3, rfl⟩
  go_wp2_with fail
  refine (same_any [] v9 _ w w1 _ (by simp) (s9'.drewN _) (t3.drewN _)).mono ?_
  rintro e wA ⟨rfl, q4, rfl⟩
  go_wp2
  go_ret
  exact ⟨rfl, bel_drewN hB _⟩

set_option maxHeartbeats 1600000 in
set_option maxRecDepth 100000 in
theorem t_D (off en g a b : Int) (w : World) (ho : 0 ≤ off) (ho2 : off ≤ 18446744073709551615) (he0 : 0 ≤ en) (he : en ≤ 18446744073709547519) (g0 : 0 ≤ g) (g1 : g ≤ 18446744073709551615) (hlt : off < en) (ha : (off + 4096 - 1) / 4096 * 4096 = a) (hb : en / 4096 * 4096 = b) (hab : ¬ b < a) (h1 : ¬ off < a) (h2 : ¬ a < b) (h3 : b < en)
    (hR : runs off en = []) (hG : gaps off en g = [(bg g, en - b)]) :
    Calls Trym.prog 6 #[.int .u64 off, .int .u64 en, .int .u64 g] w fun e w' => e = .returned (.bool true) ∧ Below w.heap.size w w' := by
  have HZ := zzfree_any off en g w ho ho2 he g0 g1
  rw [hR, hG] at HZ
  have hbg := bg_walk g
  clear hR hG
  go_enter Trym.func6, Trym.ntmps6
  go_wp2_with fail
  refine HZ.mono ?_
  clear HZ
  rintro e w1 ⟨v6, v7, v8, v9, rfl, s6, s7, s8, s9, hb1⟩
  have hW1 := Ws_start w1
  go_wp2_with (at_builtin; refine wpList_app1 rfl (.tmp 85) (.tmp 89) rfl w1.heap.size _ [] rfl ((hW1.alloc _).own 2 _ rfl) w1.heap.size (bg g) rfl (heap_alloc_new _ _) (by simp) (by simp <;> omega) ?_)
  intro x2 cap2 w2 hown hgrow hat hlt2
  have hW2 : Ws w1 w2 [(.slice none 0 0, []), (.slice none 0 0, []), (.slice (some ⟨x2, 0, none⟩) 1 cap2, [bg g]), (.slice none 0 0, [])] := (hW1.alloc _).app 2 rfl hown hgrow (H := w1.heap.size + 1) (by simp) hat
  have hsz2 : w1.heap.size ≤ w2.heap.size := hW2.bel.size
  clear hown hgrow hat hW1
  go_wp2_with (at_builtin; refine wpList_app1 rfl (.tmp 91) (.tmp 95) rfl w1.heap.size _ [] rfl ((hW2.alloc _).own 3 _ rfl) w2.heap.size (en - b) rfl (heap_alloc_new _ _) (by simp) (by simp <;> omega) ?_)
  intro x3 cap3 w3 hown hgrow hat hlt3
  have hW3 : Ws w1 w3 [(.slice none 0 0, []), (.slice none 0 0, []), (.slice (some ⟨x2, 0, none⟩) 1 cap2, [bg g]), (.slice (some ⟨x3, 0, none⟩) 1 cap3, [en - b])] := (hW2.alloc _).app 3 rfl hown hgrow (H := w2.heap.size + 1) (by simp) hat
  have hsz3 : w1.heap.size ≤ w3.heap.size := hW3.bel.size
  clear hown hgrow hat hW2
  have t0 := hW3.sl 0 rfl
  have t1 := hW3.sl 1 rfl
  have t2 := hW3.sl 2 rfl
  have t3 := hW3.sl 3 rfl
  have hB := hb1.trans (hW3.bel.mono hb1.size)
  have s6' := s6.mono (w0 := w) (Nat.le_refl _) hW3.bel
  have s7' := s7.mono (w0 := w) (Nat.le_refl _) hW3.bel
  have s8' := s8.mono (w0 := w) (Nat.le_refl _) hW3.bel
  have s9' := s9.mono (w0 := w) (Nat.le_refl _) hW3.bel
  clear hW3 s6 s7 s8 s9
  go_wp2_with fail
  refine (same_any [] v6 _ w w1 _ (by simp) s6' t0).mono ?_
  rintro e wA ⟨rfl, q1, rfl⟩
  go_wp2_with fail
  refine (same_any [] v7 _ w w1 _ (by simp) (s7'.drewN _) (t1.drewN _)).mono ?_
  rintro e wA ⟨rfl, q2, rfl⟩
  go_wp2_with fail
  refine (same_any [bg g] v8 _ w w1 _ (by simp) (s8'.drewN _) (t2.drewN _)).mono ?_
  rintro e wA ⟨rfl, q3, rfl⟩
  go_wp2_with fail
  refine (same_any [en - b] v9 _ w w1 _ (by simp) (s9'.drewN _) (t3.drewN _)).mono ?_
  rintro e wA ⟨rfl, q4, rfl⟩
  go_wp2
  go_ret
  exact ⟨rfl, bel_drewN hB _⟩


theorem law6_any (off en g : Int) (w : World) (ho : 0 ≤ off) (ho2 : off ≤ 18446744073709551615) (he0 : 0 ≤ en) (g0 : 0 ≤ g) (g1 : g ≤ 18446744073709551615) :
    Calls Trym.prog 6 #[.int .u64 off, .int .u64 en, .int .u64 g] w fun e w' => e = .returned (.bool true) ∧ Below w.heap.size w w' := by
  by_cases he : en ≤ 18446744073709547519
  · by_cases hlt : off < en
    · have ha : (off + 4096 - 1) / 4096 * 4096 = up off := by unfold up; omega
      have hb : en / 4096 * 4096 = dn en := rfl
      by_cases hab : dn en < up off
      · exact t_A off en g _ _ w ho ho2 he0 he g0 g1 hlt ha hb hab (by unfold runs; rw [if_neg (by omega)]) (by unfold gaps gap1 gap2 gap3; rw [if_pos (by omega), if_neg (by omega), if_neg (by omega)]; rfl)
      · have hu : off ≤ up off := by unfold up; omega
        have hd : dn en ≤ en := by unfold dn; omega
        by_cases h1 : off < up off
        · by_cases h2 : up off < dn en
          · by_cases h3 : dn en < en
            · exact t_BCD off en g _ _ w ho ho2 he0 he g0 g1 hlt ha hb hab h1 h2 h3 (by unfold runs; rw [if_pos (by omega)]) (by unfold gaps gap1 gap2 gap3; rw [if_neg (by omega), if_pos (by omega), if_pos (by omega)]; rfl)
            · exact t_BC off en g _ _ w ho ho2 he0 he g0 g1 hlt ha hb hab h1 h2 h3 (by unfold runs; rw [if_pos (by omega)]) (by unfold gaps gap1 gap2 gap3; rw [if_neg (by omega), if_pos (by omega), if_neg (by omega)]; rfl)
          · by_cases h3 : dn en < en
            · exact t_BD off en g _ _ w ho ho2 he0 he g0 g1 hlt ha hb hab h1 h2 h3 (by unfold runs; rw [if_neg (by omega)]) (by unfold gaps gap1 gap2 gap3; rw [if_neg (by omega), if_pos (by omega), if_pos (by omega)]; rfl)
            · exact t_B off en g _ _ w ho ho2 he0 he g0 g1 hlt ha hb hab h1 h2 h3 (by unfold runs; rw [if_neg (by omega)]) (by unfold gaps gap1 gap2 gap3; rw [if_neg (by omega), if_pos (by omega), if_neg (by omega)]; rfl)
        · by_cases h2 : up off < dn en
          · by_cases h3 : dn en < en
            · exact t_CD off en g _ _ w ho ho2 he0 he g0 g1 hlt ha hb hab h1 h2 h3 (by unfold runs; rw [if_pos (by omega)]) (by unfold gaps gap1 gap2 gap3; rw [if_neg (by omega), if_neg (by omega), if_pos (by omega)]; rfl)
            · exact t_C off en g _ _ w ho ho2 he0 he g0 g1 hlt ha hb hab h1 h2 h3 (by unfold runs; rw [if_pos (by omega)]) (by unfold gaps gap1 gap2 gap3; rw [if_neg (by omega), if_neg (by omega), if_neg (by omega)]; rfl)
          · have h3 : dn en < en := by omega
            exact t_D off en g _ _ w ho ho2 he0 he g0 g1 hlt ha hb hab h1 h2 h3 (by unfold runs; rw [if_neg (by omega)]) (by unfold gaps gap1 gap2 gap3; rw [if_neg (by omega), if_neg (by omega), if_pos (by omega)]; rfl)
    · exact t_none off en g 0 0 w ho ho2 he0 he g0 g1 hlt (runs_end hlt) (gaps_end hlt)
  · go_enter Trym.func6, Trym.ntmps6
    go_wp2
    go_ret
    exact ⟨rfl, Below.refl _ _⟩
end Go.Proofs.Qxb6600586aMods.Free
