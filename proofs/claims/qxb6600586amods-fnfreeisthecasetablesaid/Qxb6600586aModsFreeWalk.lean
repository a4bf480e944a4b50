/-
  THE WALK OF free: it lays down the runs and the gaps of the plain law.
-/
import Derived.Test.Qxb6600586aModsFreeMem
import Derived.WalkSpells
import Derived.WalkLawsBesides
import Derived.Deep.RegionHeld3
import Derived.Deep.RegionLaw
namespace Go.Proofs.Qxb6600586aMods.Free
open Go.RowKit Go.Proofs.Qxb6600586aMods.FreePlain
set_option linter.unusedVariables false

theorem e17 (s : Int) (h0 : 0 ≤ s) (h1 : s ≤ 18446744073709551615) (w : World) :
    Calls Trym.prog 17 #[.int .u64 s] w fun e w' => e = .returned (.int .u64 (2 * (s / 4096) + 2)) ∧ w = w' := by
  go_enter Trym.func17, Trym.ntmps17
  go_wp2
  go_ret
  exact ⟨rfl, rfl⟩
theorem bg_walk (g : Int) : IntKind.u64.wrap (IntKind.u64.wrap (2 * g) + 1) = bg g := by
  unfold bg
  simp only [IntKind.wrap_u64]
  omega
theorem ret_int {k : IntKind} {a b : Int} (h : a = b) : Ending.returned (.int k a) = .returned (.int k b) := by rw [h]
theorem e18 (g : Int) (w : World) :
    Calls Trym.prog 18 #[.int .u64 g] w fun e w' => e = .returned (.int .u64 (bg g)) ∧ w = w' := by
  go_enter Trym.func18, Trym.ntmps18
  go_wp2
  go_ret
  exact ⟨ret_int (bg_walk g), rfl⟩

/-- What holds at the loop's head: 'what has been laid down, and what is yet to be laid down from o on, is what is to be laid down from off on'. -/
def Rest (off o en g : Int) (rl gl : List (Int × Int)) : Prop := rl ++ runs o en = runs off en ∧ gl ++ gaps o en g = gaps off en g
theorem Rest_len {off o en g : Int} {rl gl : List (Int × Int)} (h : Rest off o en g rl gl) : rl.length ≤ 1000 ∧ gl.length ≤ 1000 := by
  have h1 := congrArg List.length h.1
  have h2 := congrArg List.length h.2
  have := length_runs off en
  have := length_gaps off en g
  simp only [List.length_append] at h1 h2
  omega

theorem Rest_gap {off o o' en g : Int} {rl gl : List (Int × Int)} {p : Int × Int} (h : Rest off o en g rl gl) (k : gaps o en g = p :: gaps o' en g ∧ runs o en = runs o' en) : Rest off o' en g rl (gl ++ [p]) := by
  unfold Rest at *
  rw [← k.2]
  refine ⟨h.1, ?_⟩
  rw [List.append_assoc, List.singleton_append, ← k.1]; exact h.2
theorem Rest_run {off o o' en g : Int} {rl gl : List (Int × Int)} {p : Int × Int} (h : Rest off o en g rl gl) (k : runs o en = p :: runs o' en ∧ gaps o en g = gaps o' en g) : Rest off o' en g (rl ++ [p]) gl := by
  unfold Rest at *
  rw [← k.2]
  refine ⟨?_, h.2⟩
  rw [List.append_assoc, List.singleton_append, ← k.1]; exact h.1
theorem Rest_end {off o en g : Int} {rl gl : List (Int × Int)} (h : Rest off o en g rl gl) (hlt : ¬ o < en) : rl = runs off en ∧ gl = gaps off en g := by
  obtain ⟨h1, h2⟩ := h
  rw [runs_end hlt, List.append_nil] at h1
  rw [gaps_end hlt, List.append_nil] at h2
  exact ⟨h1, h2⟩

set_option maxHeartbeats 1600000 in
set_option maxRecDepth 100000 in
theorem free_any (bl : Nat) (off en g : Int) (w : World) (ho : 0 ≤ off) (ho2 : off ≤ 18446744073709551615) (he : en ≤ 18446744073709547519) (g0 : 0 ≤ g) (g1 : g ≤ 18446744073709551615)
    (hF : F w w bl [] [] (.slice none 0 0) (.slice none 0 0)) :
    Calls Trym.prog 16 #[.pointer (some ⟨bl, 0, none⟩), .int .u64 off, .int .u64 en, .int .u64 g] w fun e w' => e = .returned (.tuple #[]) ∧ ∃ ve vg, F w w' bl (runs off en) (gaps off en g) ve vg := by
  go_enter Trym.func16, Trym.ntmps16
  go_wp2
  go_loopw [1] (fun s wr => ∃ (o : Int) (rl gl : List (Int × Int)) (ve vg : Value), s = .int .u64 o ∧ 0 ≤ o ∧ o ≤ 18446744073709551615 ∧ F w wr bl rl gl ve vg ∧ Rest off o en g rl gl) (fun s _ => (en - intOf s).toNat)
  case atStart => exact ⟨off, [], [], _, _, rfl, ho, ho2, hF, rfl, rfl⟩
  case round =>
    clear hF
    obtain ⟨o, rl, gl, ve, vg, rfl, h0, h1, hF, hR⟩ := hrel
    obtain ⟨hl1, hl2⟩ := Rest_len hR
    have ce := hF.ce
    have cg := hF.cg
    have fe := hF.fe
    have fg := hF.fg
    have hbl : bl < wr.heap.size := by have := hF.lt; have := hF.kept.size; omega
    have hsz : w.heap.size ≤ wr.heap.size := hF.kept.size
    by_cases hlt : o < en
    · by_cases hr : o % 4096 = 0 ∧ 4096 ≤ en - o
      · obtain ⟨hr1, hr2⟩ := hr
        have hr3 : (o == o / 4096 * 4096) = true := by simp; omega
        go_wp2
        go_region_law ((refine step_app2 (by rfl) _ _ 37 42 Trym.underlying37 info42 (by rfl) w.heap.size ve rl (by rfl) (((hF.oe.alloc _).alloc _).drew) (wr.heap.size + 1) (o, (en - o) / 4096 * 4096) (by rfl) (two_new _ _ _) hl1 (by simp; omega) ?_; intro g' cap w1 hown hgrow hat hlt'; obtain ⟨k1, k2, k3, k4⟩ := hF.behind2 hgrow))
        all_goals
          simp only [List.length_append, List.length_cons, List.length_nil, Nat.zero_add] at hown
          have hF' := ((hF.alloc _).alloc _).drew.run1 hown hgrow (Nat.le_refl _) hat
          have HR : Hid (runs o en = (o, (en - o) / 4096 * 4096) :: runs (o + (en - o) / 4096 * 4096) en ∧ gaps o en g = gaps (o + (en - o) / 4096 * 4096) en g) := run_step h0 hlt hr1 hr2
          have HN : Hid (Rest off o en g rl gl) := hR
          clear hR ce cg fe fg hF hown hgrow hat hr1
          go_wp2
          go_roundw
          case rel => exact ⟨o + (en - o) / 4096 * 4096, rl ++ [(o, (en - o) / 4096 * 4096)], gl, _, _, rfl, by omega, by omega, hF', Rest_run HN.out HR.out⟩
          case measure => simp [intOf]; omega
      · by_cases hz : o % 4096 = 0
        · have hr3 : (o == o / 4096 * 4096) = true := by simp; omega
          have hr4 : decide (4096 ≤ en - o) = false := decide_eq_false (by omega)
          have hm : ¬ o / 4096 * 4096 + 4096 < en := by omega
          have hm2 : en < o / 4096 * 4096 + 4096 := by omega
          clear hr hz
          go_wp2_with (first | (go_at_call 17; refine (e17 _ (by omega) (by omega) _).mono ?_; rintro e w' ⟨rfl, rfl⟩) | (go_at_call 18; refine (e18 _ _).mono ?_; rintro e w' ⟨rfl, rfl⟩) | (at_builtin; refine wpList_app2 rfl _ _ 36 44 Trym.underlying36 info44 rfl w.heap.size vg gl rfl (hF.og.alloc _) wr.heap.size (bg g, en - o) rfl (heap_alloc_new _ _) hl2 (by simp; omega) ?_))
          intro g' cap w1 hown hgrow hat hlt'
          have hF' := (hF.alloc _).gap1 hown hgrow (H := wr.heap.size + 1) (by simp) hat
          obtain ⟨k1, k2, k3, k4, k5⟩ := (hF.alloc _).behind hgrow (.inr rfl)
          have HR : Hid (gaps o en g = (bg g, en - o) :: gaps (en) en g ∧ runs o en = runs (en) en) := gap_step_end h0 hlt hm2
          have HN : Hid (Rest off o en g rl gl) := hR
          clear hR ce cg fe fg hF hown hgrow hat
          go_wp2
          go_roundw
          case rel => exact ⟨en, rl, gl ++ [(bg g, en - o)], _, _, rfl, by omega, by omega, hF', Rest_gap HN.out HR.out⟩
          case measure => simp [intOf]; omega
        · have hr3 : (o == o / 4096 * 4096) = false := by simp; omega
          by_cases hm : o / 4096 * 4096 + 4096 < en
          · have hs := gap_step_slot (g := g) h0 hlt hz (by omega)
            have HS : Hid (gaps o en g = (2 * (o / 4096) + 2, o / 4096 * 4096 + 4096 - o) :: gaps (o / 4096 * 4096 + 4096) en g ∧ runs o en = runs (o / 4096 * 4096 + 4096) en) := hs
            clear hr hz hs
            go_wp2_with (first | (go_at_call 17; refine (e17 _ (by omega) (by omega) _).mono ?_; rintro e w' ⟨rfl, rfl⟩) | (go_at_call 18; refine (e18 _ _).mono ?_; rintro e w' ⟨rfl, rfl⟩) | (at_builtin; refine wpList_app2 rfl _ _ 36 44 Trym.underlying36 info44 rfl w.heap.size vg gl rfl (hF.og.alloc _) wr.heap.size (2 * (o / 4096) + 2, o / 4096 * 4096 + 4096 - o) rfl (heap_alloc_new _ _) hl2 (by simp; omega) ?_))
            intro g' cap w1 hown hgrow hat hlt'
            have hF' := (hF.alloc _).gap1 hown hgrow (H := wr.heap.size + 1) (by simp) hat
            obtain ⟨k1, k2, k3, k4, k5⟩ := (hF.alloc _).behind hgrow (.inr rfl)
            have HR : Hid (gaps o en g = (2 * (o / 4096) + 2, o / 4096 * 4096 + 4096 - o) :: gaps (o / 4096 * 4096 + 4096) en g ∧ runs o en = runs (o / 4096 * 4096 + 4096) en) := HS
            have HN : Hid (Rest off o en g rl gl) := hR
            clear hR ce cg fe fg hF hown hgrow hat
            go_wp2
            go_roundw
            case rel => exact ⟨o / 4096 * 4096 + 4096, rl, gl ++ [(2 * (o / 4096) + 2, o / 4096 * 4096 + 4096 - o)], _, _, rfl, by omega, by omega, hF', Rest_gap HN.out HR.out⟩
            case measure => simp [intOf]; omega
          · by_cases hm2 : en < o / 4096 * 4096 + 4096
            · clear hr hz
              go_wp2_with (first | (go_at_call 17; refine (e17 _ (by omega) (by omega) _).mono ?_; rintro e w' ⟨rfl, rfl⟩) | (go_at_call 18; refine (e18 _ _).mono ?_; rintro e w' ⟨rfl, rfl⟩) | (at_builtin; refine wpList_app2 rfl _ _ 36 44 Trym.underlying36 info44 rfl w.heap.size vg gl rfl (hF.og.alloc _) wr.heap.size (bg g, en - o) rfl (heap_alloc_new _ _) hl2 (by simp; omega) ?_))
              intro g' cap w1 hown hgrow hat hlt'
              have hF' := (hF.alloc _).gap1 hown hgrow (H := wr.heap.size + 1) (by simp) hat
              obtain ⟨k1, k2, k3, k4, k5⟩ := (hF.alloc _).behind hgrow (.inr rfl)
              have HR : Hid (gaps o en g = (bg g, en - o) :: gaps (en) en g ∧ runs o en = runs (en) en) := gap_step_end h0 hlt hm2
              have HN : Hid (Rest off o en g rl gl) := hR
              clear hR ce cg fe fg hF hown hgrow hat
              go_wp2
              go_roundw
              case rel => exact ⟨en, rl, gl ++ [(bg g, en - o)], _, _, rfl, by omega, by omega, hF', Rest_gap HN.out HR.out⟩
              case measure => simp [intOf]; omega
            · have hs := gap_step_both (g := g) h0 hlt hz hm hm2
              have HS : Hid (gaps o en g = (2 * (o / 4096) + 2, en - o) :: gaps en en g ∧ runs o en = runs en en) := hs
              clear hr hz hs
              go_wp2_with (first | (go_at_call 17; refine (e17 _ (by omega) (by omega) _).mono ?_; rintro e w' ⟨rfl, rfl⟩) | (go_at_call 18; refine (e18 _ _).mono ?_; rintro e w' ⟨rfl, rfl⟩) | (at_builtin; refine wpList_app2 rfl _ _ 36 44 Trym.underlying36 info44 rfl w.heap.size vg gl rfl (hF.og.alloc _) wr.heap.size (2 * (o / 4096) + 2, en - o) rfl (heap_alloc_new _ _) hl2 (by simp; omega) ?_))
              intro g' cap w1 hown hgrow hat hlt'
              have hF' := (hF.alloc _).gap1 hown hgrow (H := wr.heap.size + 1) (by simp) hat
              obtain ⟨k1, k2, k3, k4, k5⟩ := (hF.alloc _).behind hgrow (.inr rfl)
              have HR : Hid (gaps o en g = (2 * (o / 4096) + 2, en - o) :: gaps (en) en g ∧ runs o en = runs (en) en) := HS
              have HN : Hid (Rest off o en g rl gl) := hR
              clear hR ce cg fe fg hF hown hgrow hat
              go_wp2
              go_roundw
              case rel => exact ⟨en, rl, gl ++ [(2 * (o / 4096) + 2, en - o)], _, _, rfl, by omega, by omega, hF', Rest_gap HN.out HR.out⟩
              case measure => simp [intOf]; omega
    · obtain ⟨rfl, rfl⟩ := Rest_end hR hlt
      clear hR ce cg fe fg
      go_wp2
      go_end0
      exact ⟨rfl, _, _, hF⟩
end Go.Proofs.Qxb6600586aMods.Free
