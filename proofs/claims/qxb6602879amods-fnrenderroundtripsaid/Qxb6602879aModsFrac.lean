/-
  THE BYTES OF A STRING; THE FIRST POINT; fractionDigits AND ITS LAW.
-/
import Derived.Test.Qxb6602879aModsRows
import Derived.WalkKit
import Derived.ProofKit
import Derived.WalkSpells
import Derived.Below
namespace Go.Proofs.Qxb6602879aMods.Dec
open Go.RowKit
set_option linter.unusedVariables false

/-- Byte k of the string, as a number (0 where there is none). -/
def byte (s : ByteArray) (k : Nat) : Int := if h : k < s.size then ((s[k]'h).toNat : Int) else 0
theorem byte_at (s : ByteArray) (k : Nat) (h : k < s.size) : ((s[k]'h).toNat : Int) = byte s k := by simp [byte, h]
theorem byte_bound (s : ByteArray) (k : Nat) : 0 ≤ byte s k ∧ byte s k ≤ 255 := by
  unfold byte
  split
  · have := (s[k]).toNat_lt
    omega
  · omega

/-- p: where the first point stands among the first n; n where there is none. -/
structure IsFp (f : Nat → Int) (n p : Nat) : Prop where
  le : p ≤ n
  before : ∀ j, j < p → f j ≠ 46
  hit : p < n → f p = 46
theorem fp_exists (f : Nat → Int) (n : Nat) : ∃ p, IsFp f n p := by
  induction n with
  | zero => exact ⟨0, Nat.le_refl _, fun j hj => by omega, fun h => by omega⟩
  | succ n ih =>
    obtain ⟨p, h1, h2, h3⟩ := ih
    by_cases hp : p < n
    · exact ⟨p, by omega, h2, fun _ => h3 hp⟩
    · obtain rfl : p = n := by omega
      by_cases hf : f p = 46
      · exact ⟨p, by omega, h2, fun _ => hf⟩
      · refine ⟨p + 1, Nat.le_refl _, fun j hj => ?_, fun h => by omega⟩
        by_cases e : j = p
        · subst e; exact hf
        · exact h2 j (by omega)

theorem ret_int {k : IntKind} {a b : Int} (h : a = b) : Ending.returned (.int k a) = .returned (.int k b) := by rw [h]

/-! ### fractionDigits -/
theorem frac_any (s : ByteArray) (p : Nat) (w : World) (hs : s.size ≤ 1048576) (hp : IsFp (byte s) s.size p) :
    Calls Trym.prog 22 #[.string s] w fun e w' => e = .returned (.int .i64 ((s.size - p - 1 : Nat) : Int)) ∧ w = w' := by
  have HP : Hid (IsFp (byte s) s.size p) := hp
  clear hp
  go_enter Trym.func22, Trym.ntmps22
  go_wp2
  go_loop [6] (fun i => ∃ k : Nat, k ≤ s.size ∧ k ≤ p ∧ i = .int .i64 k) (fun i => s.size - (intOf i).toNat)
  case atStart => exact ⟨0, Nat.zero_le _, Nat.zero_le _, rfl⟩
  case round =>
    obtain ⟨k, hk, hkp, rfl⟩ := hrel
    by_cases hlt : k < s.size
    · have hb := byte_at s k hlt
      by_cases hpt : byte s k = 46
      · have he : (byte s k == 46) = true := by simp [hpt]
        have hkp' : k = p := by
          by_cases e : k < p
          · exact absurd hpt (HP.out.before k e)
          · omega
        have HK : Hid (k = p) := hkp'
        clear hpt hkp'
        go_wp2
        go_ret
        exact ⟨ret_int (by have := HK.out; omega), rfl⟩
      · have he : (byte s k == 46) = false := by simp [hpt]
        have hkp' : k < p := by
          by_cases e : k = p
          · subst e; exact absurd (HP.out.hit hlt) hpt
          · omega
        clear hpt
        go_wp2
        go_round
        case rel => exact ⟨k + 1, by omega, by omega, by go_num⟩
        case measure => simp [intOf]; omega
    · go_wp2
      go_ret
      exact ⟨ret_int (by have := HP.out.le; omega), rfl⟩
theorem zzfrac_any (s : ByteArray) (p : Nat) (w : World) (hs : s.size ≤ 1048576) (hp : IsFp (byte s) s.size p) :
    Calls Trym.prog 16 #[.string s] w fun e w' => e = .returned (.int .i64 ((s.size - p - 1 : Nat) : Int)) ∧ w = w' := by
  go_enter Trym.func16, Trym.ntmps16
  go_wp2_with (go_at_call 22; refine (frac_any s p _ hs hp).mono ?_; rintro e w' ⟨rfl, rfl⟩)
  go_ret
  exact ⟨rfl, rfl⟩

/-! ### zzBytes -/
theorem bytes15 (s : ByteArray) (w : World) (h : s.size ≤ 9223372036854775807) :
    Calls Trym.prog 15 #[.string s] w fun e w' => e = .returned (.bool (decide ((s.size : Int) ≤ 1048576))) ∧ w = w' := by
  by_cases hl : (s.size : Int) ≤ 1048576
  · go_enter Trym.func15, Trym.ntmps15
    go_wp2
    go_ret
    exact ⟨by simp [hl], rfl⟩
  · go_enter Trym.func15, Trym.ntmps15
    go_wp2
    go_ret
    exact ⟨by simp [hl], rfl⟩

/-! ### The law -/
theorem frac_law (s : ByteArray) (w : World) (hm : s.size ≤ 9223372036854775807) :
    Calls Trym.prog 6 #[.string s] w fun e w' => e = .returned (.bool true) ∧ Grown w w' := by
  by_cases hs : s.size ≤ 1048576
  · obtain ⟨p, hp⟩ := fp_exists (byte s) s.size
    have hb8 : decide ((s.size : Int) ≤ 1048576) = true := decide_eq_true (by omega)
    have HP : Hid (IsFp (byte s) s.size p) := hp
    clear hp
    have hsI : (s.size : Int) ≤ 1048576 := by omega
    go_enter Trym.func6, Trym.ntmps6
    go_wp2_with (go_at_call 15; refine (bytes15 s _ hm).mono ?_; rintro e w' ⟨rfl, rfl⟩)
    go_loop [3, 4, 5] (fun c sn i => ∃ k : Nat, k ≤ s.size ∧ i = .int .i64 k ∧ sn = .bool (decide (p < k)) ∧ c = .int .i64 ((k - p - 1 : Nat) : Int)) (fun _ _ i => s.size - (intOf i).toNat)
    case atStart => exact ⟨0, Nat.zero_le _, rfl, by simp, by simp⟩
    case round =>
      obtain ⟨k, hk, rfl, rfl, rfl⟩ := hrel
      by_cases hlt : k < s.size
      · have hb := byte_at s k hlt
        by_cases hpk : p < k
        · have hd : decide (p < k) = true := decide_eq_true hpk
          have hc : ((k - p - 1 : Nat) : Int) ≤ 1048576 := by omega
          go_wp2
          go_round
          case rel => exact ⟨k + 1, by omega, by go_num, by simp; omega, by congr 1; omega⟩
          case measure => simp [intOf]; omega
        · have hd : decide (p < k) = false := decide_eq_false hpk
          by_cases e : k = p
          · have he : (byte s k == 46) = true := by subst e; simp [HP.out.hit hlt]
            have HK : Hid (k = p) := e
            clear e
            go_wp2
            go_round
            case rel => exact ⟨k + 1, by omega, by go_num, by have := HK.out; simp; omega, by have := HK.out; congr 1; omega⟩
            case measure => simp [intOf]; omega
          · have he : (byte s k == 46) = false := by have := HP.out.before k (by omega); simp [this]
            go_wp2
            go_round
            case rel => exact ⟨k + 1, by omega, by go_num, by simp; omega, by congr 1; omega⟩
            case measure => simp [intOf]; omega
      · obtain rfl : k = s.size := by omega
        go_wp2_with (go_at_call 16; refine (zzfrac_any s p _ hs HP.out).mono ?_; rintro e w' ⟨rfl, rfl⟩)
        go_ret
        exact ⟨by simp, Grown.refl _⟩
  · by_cases h : (s.size : Int) ≤ 1048576
    · omega
    · have hb8 : decide ((s.size : Int) ≤ 1048576) = false := decide_eq_false h
      go_enter Trym.func6, Trym.ntmps6
      go_wp2_with (go_at_call 15; refine (bytes15 s _ hm).mono ?_; rintro e w' ⟨rfl, rfl⟩)
      go_ret
      exact ⟨rfl, Grown.refl _⟩
end Go.Proofs.Qxb6602879aMods.Dec
