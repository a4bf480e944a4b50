/-
  zzGrammar, AND THE LAW THAT countDigits ANSWERS WHAT IT ANSWERS.
-/
import Derived.Test.Qxb6602879aModsCount
namespace Go.Proofs.Qxb6602879aMods.Dec
open Go.RowKit
set_option linter.unusedVariables false

theorem isDigit_any (c : Int) (w : World) (h0 : 0 ≤ c) (h1 : c ≤ 255) : Calls Trym.prog 20 #[.int .u8 c] w fun e w' => e = .returned (.bool (digB c)) ∧ w = w' := by
  by_cases a : 48 ≤ c
  · by_cases b : c ≤ 57
    · go_enter Trym.func20, Trym.ntmps20
      go_wp2
      go_ret
      exact ⟨by simp [digB, a, b], rfl⟩
    · have hb : decide (c ≤ 57) = false := decide_eq_false b
      go_enter Trym.func20, Trym.ntmps20
      go_wp2
      go_ret
      exact ⟨by simp [digB, a, hb], rfl⟩
  · have ha : decide (48 ≤ c) = false := decide_eq_false a
    go_enter Trym.func20, Trym.ntmps20
    go_wp2
    go_ret
    exact ⟨by simp [digB, ha], rfl⟩

theorem all_good {f : Nat → Int} {n p : Nat} (h : ∀ i, i < n → i ≠ p → digB (f i) = true) (h0 : 0 < n) (hp : p < n → 0 < p ∧ p + 1 < n) : Good f n p :=
  ⟨h0, fun i hi hne => (digB_iff _).1 (h i hi hne), hp⟩

/-- A text with a point. -/
theorem gram_pt (s : ByteArray) (p : Nat) (w : World) (hs : s.size ≤ 1048576) (hp : IsFp (byte s) s.size p) (hlp : p < s.size) :
    Calls Trym.prog 11 #[.string s] w fun e w' => e = .returned (.tuple #[.int .i64 (resN (byte s) s.size p), .bool (goodB (byte s) s.size p)]) ∧ w = w' := by
  have HP : Hid (IsFp (byte s) s.size p) := hp
  have hsI : (s.size : Int) ≤ 1048576 := by omega
  have hlpI : (p : Int) < (s.size : Int) := by omega
  clear hp
  go_enter Trym.func11, Trym.ntmps11
  go_wp2
  go_loop [4, 5] (fun d i => ∃ k : Nat, k ≤ p ∧ i = .int .i64 k ∧ d = .int .i64 (-1)) (fun _ i => s.size - (intOf i).toNat)
  case atStart => exact ⟨0, Nat.zero_le _, rfl, rfl⟩
  case round =>
    obtain ⟨k, hk, rfl, rfl⟩ := hrel
    have hlt : k < s.size := by omega
    have hb := byte_at s k hlt
    by_cases e : k = p
    · have he : (byte s k == 46) = true := by subst e; simp [HP.out.hit hlt]
      subst e
      go_wp2
      go_loop [6] (fun i => ∃ j : Nat, j ≤ s.size ∧ i = .int .i64 j ∧ Hid (∀ i, i < j → i ≠ k → digB (byte s i) = true)) (fun i => s.size - (intOf i).toNat)
      case atStart => exact ⟨0, Nat.zero_le _, rfl, fun i hi => by omega⟩
      case round =>
        clear hb he
        obtain ⟨j, hj, rfl, hD⟩ := hrel
        by_cases hlj : j < s.size
        · have hb := byte_at s j hlj
          obtain ⟨b0, b1⟩ := byte_bound s j
          by_cases ejk : j = k
          · have hne : ((j : Int) != (k : Int)) = false := by simp [ejk]
            have HD : Hid (∀ i, i < j + 1 → i ≠ k → digB (byte s i) = true) := fun i hi hne => hD.out i (by omega) hne
            clear ejk hD
            go_wp2
            go_round
            case rel => exact ⟨j + 1, by omega, by go_num, HD⟩
            case measure => simp [intOf]; omega
          · have hne : ((j : Int) != (k : Int)) = true := by simp; omega
            cases hdg : digB (byte s j) with
            | true =>
              have HD : Hid (∀ i, i < j + 1 → i ≠ k → digB (byte s i) = true) := by
                intro i hi hne
                by_cases e : i = j
                · subst e; exact hdg
                · exact hD.out i (by omega) hne
              clear hD ejk
              go_wp2_with (go_at_call 20; refine (isDigit_any (byte s j) _ b0 b1).mono ?_; rintro e w' ⟨rfl, rfl⟩)
              go_round
              case rel => exact ⟨j + 1, by omega, by go_num, HD⟩
              case measure => simp [intOf]; omega
            | false =>
              have hbad : ¬ Good (byte s) s.size k := fun h => by
                have := (digB_iff _).2 (h.dig j hlj ejk)
                rw [hdg] at this; cases this
              obtain ⟨hg, hr⟩ := res_bad hbad
              have HG : Hid (goodB (byte s) s.size k = false ∧ resN (byte s) s.size k = 0) := ⟨hg, hr⟩
              clear hg hr hbad hD ejk
              go_wp2_with (go_at_call 20; refine (isDigit_any (byte s j) _ b0 b1).mono ?_; rintro e w' ⟨rfl, rfl⟩)
              go_ret2
              exact ⟨ret_two HG.out.2.symm HG.out.1.symm, rfl⟩
        · obtain rfl : j = s.size := by omega
          by_cases hk0 : k = 0
          · have hbad : ¬ Good (byte s) s.size k := fun h => by have := h.pt hlp; omega
            obtain ⟨hg, hr⟩ := res_bad hbad
            have HG : Hid (goodB (byte s) s.size k = false ∧ resN (byte s) s.size k = 0) := ⟨hg, hr⟩
            have h1 : ((k : Int) == 0) = true := by simp [hk0]
            clear hg hr hbad hD hk0
            go_wp2
            go_ret2
            exact ⟨ret_two HG.out.2.symm HG.out.1.symm, rfl⟩
          · have h1 : ((k : Int) == 0) = false := by simp [hk0]
            by_cases hk1 : k + 1 < s.size
            · obtain ⟨hg, hr⟩ := res_good (all_good hD.out (by omega) (fun _ => ⟨by omega, hk1⟩))
              have HG : Hid (goodB (byte s) s.size k = true ∧ resN (byte s) s.size k = (cn k s.size : Int)) := ⟨hg, hr⟩
              have h2 : ((k : Int) == (s.size : Int) - 1) = false := by simp; omega
              clear hg hr hD
              go_wp2
              go_ret2
              exact ⟨ret_two (by rw [HG.out.2]; unfold cn; rw [if_pos hlp]; omega) HG.out.1.symm, rfl⟩
            · have hbad : ¬ Good (byte s) s.size k := fun h => by have := h.pt hlp; omega
              obtain ⟨hg, hr⟩ := res_bad hbad
              have HG : Hid (goodB (byte s) s.size k = false ∧ resN (byte s) s.size k = 0) := ⟨hg, hr⟩
              have h2 : ((k : Int) == (s.size : Int) - 1) = true := by simp; omega
              clear hg hr hbad hD
              go_wp2
              go_ret2
              exact ⟨ret_two HG.out.2.symm HG.out.1.symm, rfl⟩
    · have he : (byte s k == 46) = false := by have := HP.out.before k (by omega); simp [this]
      go_wp2
      go_round
      case rel => exact ⟨k + 1, by omega, by go_num, rfl⟩
      case measure => simp [intOf]; omega

/-- A text without a point. -/
theorem gram_no (s : ByteArray) (p : Nat) (w : World) (hs : s.size ≤ 1048576) (hp : IsFp (byte s) s.size p) (hlp : p = s.size) :
    Calls Trym.prog 11 #[.string s] w fun e w' => e = .returned (.tuple #[.int .i64 (resN (byte s) s.size p), .bool (goodB (byte s) s.size p)]) ∧ w = w' := by
  have HP : Hid (IsFp (byte s) s.size p) := hp
  have hsI : (s.size : Int) ≤ 1048576 := by omega
  have HL : Hid (p = s.size) := hlp
  clear hp hlp
  go_enter Trym.func11, Trym.ntmps11
  go_wp2
  go_loop [4, 5] (fun d i => ∃ k : Nat, k ≤ s.size ∧ i = .int .i64 k ∧ d = .int .i64 (-1)) (fun _ i => s.size - (intOf i).toNat)
  case atStart => exact ⟨0, Nat.zero_le _, rfl, rfl⟩
  case round =>
    obtain ⟨k, hk, rfl, rfl⟩ := hrel
    by_cases hlt : k < s.size
    · have hb := byte_at s k hlt
      have he : (byte s k == 46) = false := by have := HP.out.before k (by have := HL.out; omega); simp [this]
      go_wp2
      go_round
      case rel => exact ⟨k + 1, by omega, by go_num, rfl⟩
      case measure => simp [intOf]; omega
    · go_wp2
      go_loop [6] (fun i => ∃ j : Nat, j ≤ s.size ∧ i = .int .i64 j ∧ Hid (∀ i, i < j → i ≠ p → digB (byte s i) = true)) (fun i => s.size - (intOf i).toNat)
      case atStart => exact ⟨0, Nat.zero_le _, rfl, fun i hi => by omega⟩
      case round =>
        obtain ⟨j, hj, rfl, hD⟩ := hrel
        by_cases hlj : j < s.size
        · have hb := byte_at s j hlj
          obtain ⟨b0, b1⟩ := byte_bound s j
          have hne : ((j : Int) != -1) = true := by simp
          cases hdg : digB (byte s j) with
          | true =>
            have HD : Hid (∀ i, i < j + 1 → i ≠ p → digB (byte s i) = true) := by
              intro i hi hne
              by_cases e : i = j
              · subst e; exact hdg
              · exact hD.out i (by omega) hne
            clear hD
            go_wp2_with (go_at_call 20; refine (isDigit_any (byte s j) _ b0 b1).mono ?_; rintro e w' ⟨rfl, rfl⟩)
            go_round
            case rel => exact ⟨j + 1, by omega, by go_num, HD⟩
            case measure => simp [intOf]; omega
          | false =>
            have hbad : ¬ Good (byte s) s.size p := fun h => by
              have := (digB_iff _).2 (h.dig j hlj (by have := HL.out; omega))
              rw [hdg] at this; cases this
            obtain ⟨hg, hr⟩ := res_bad hbad
            have HG : Hid (goodB (byte s) s.size p = false ∧ resN (byte s) s.size p = 0) := ⟨hg, hr⟩
            clear hg hr hbad hD
            go_wp2_with (go_at_call 20; refine (isDigit_any (byte s j) _ b0 b1).mono ?_; rintro e w' ⟨rfl, rfl⟩)
            go_ret2
            exact ⟨ret_two HG.out.2.symm HG.out.1.symm, rfl⟩
        · obtain rfl : j = s.size := by omega
          by_cases h0 : s.size = 0
          · have hbad : ¬ Good (byte s) s.size p := fun h => by have := h.pos; omega
            obtain ⟨hg, hr⟩ := res_bad hbad
            have HG : Hid (goodB (byte s) s.size p = false ∧ resN (byte s) s.size p = 0) := ⟨hg, hr⟩
            have h1 : ((s.size : Int) == 0) = true := by simp [h0]
            clear hg hr hbad hD h0
            go_wp2
            go_ret2
            exact ⟨ret_two HG.out.2.symm HG.out.1.symm, rfl⟩
          · have h1 : ((s.size : Int) == 0) = false := by simp [h0]
            obtain ⟨hg, hr⟩ := res_good (all_good hD.out (by omega) (fun h => by have := HL.out; omega))
            have HG : Hid (goodB (byte s) s.size p = true ∧ resN (byte s) s.size p = (cn p s.size : Int)) := ⟨hg, hr⟩
            clear hg hr hD
            go_wp2
            go_ret2
            exact ⟨ret_two (by rw [HG.out.2]; unfold cn; rw [if_neg (by have := HL.out; omega)]) HG.out.1.symm, rfl⟩
theorem gram_any (s : ByteArray) (p : Nat) (w : World) (hs : s.size ≤ 1048576) (hp : IsFp (byte s) s.size p) :
    Calls Trym.prog 11 #[.string s] w fun e w' => e = .returned (.tuple #[.int .i64 (resN (byte s) s.size p), .bool (goodB (byte s) s.size p)]) ∧ w = w' := by
  by_cases h : p < s.size
  · exact gram_pt s p w hs hp h
  · exact gram_no s p w hs hp (by have := hp.le; omega)

/-! ### zzBytes, and the law -/
theorem bytes9 (s : ByteArray) (w : World) (h : s.size ≤ 9223372036854775807) :
    Calls Trym.prog 9 #[.string s] w fun e w' => e = .returned (.bool (decide ((s.size : Int) ≤ 1048576))) ∧ w = w' := by
  by_cases hl : (s.size : Int) ≤ 1048576
  · go_enter Trym.func9, Trym.ntmps9
    go_wp2
    go_ret
    exact ⟨by simp [hl], rfl⟩
  · go_enter Trym.func9, Trym.ntmps9
    go_wp2
    go_ret
    exact ⟨by simp [hl], rfl⟩
theorem grammar_law (s : ByteArray) (w : World) (hm : s.size ≤ 9223372036854775807) :
    Calls Trym.prog 3 #[.string s] w fun e w' => e = .returned (.bool true) ∧ Below w.heap.size w w' := by
  by_cases hs : s.size ≤ 1048576
  · obtain ⟨p, hp⟩ := fp_exists (byte s) s.size
    have hb8 : decide ((s.size : Int) ≤ 1048576) = true := decide_eq_true (by omega)
    have hsI : (s.size : Int) ≤ 1048576 := by omega
    have HP : Hid (IsFp (byte s) s.size p) := hp
    clear hp
    go_enter Trym.func3, Trym.ntmps3
    go_wp2_with (first | (go_at_call 9; refine (bytes9 s _ hm).mono ?_; rintro e w' ⟨rfl, rfl⟩) | (go_at_call 10; refine (zzcount_any s p _ hs HP.out).mono ?_; rintro e w1 ⟨rfl, hb⟩) | (go_at_call 11; refine (gram_any s p _ hs HP.out).mono ?_; rintro e w' ⟨rfl, rfl⟩))
    go_ret
    exact ⟨by simp, by assumption⟩
  · have hb8 : decide ((s.size : Int) ≤ 1048576) = false := decide_eq_false (by omega)
    go_enter Trym.func3, Trym.ntmps3
    go_wp2_with (go_at_call 9; refine (bytes9 s _ hm).mono ?_; rintro e w' ⟨rfl, rfl⟩)
    go_ret
    exact ⟨rfl, Below.refl _ _⟩
end Go.Proofs.Qxb6602879aMods.Dec
