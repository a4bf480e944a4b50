/-
  coefficient: the digits as one number; and the law of the positional value.
-/
import Derived.Test.Qxb6602879aModsGrammar
namespace Go.Proofs.Qxb6602879aMods.Dec
open Go.RowKit
set_option linter.unusedVariables false

/-! ### The plain numbers -/
/-- The first k bytes as one number, the points left out. -/
def val (f : Nat → Int) : Nat → Int
  | 0 => 0
  | k + 1 => if f k = 46 then val f k else val f k * 10 + (f k - 48)
/-- Ten to the number of digits among the last m of n bytes. -/
def pwr (f : Nat → Int) (n : Nat) : Nat → Int
  | 0 => 1
  | m + 1 => if f (n - 1 - m) = 46 then pwr f n m else pwr f n m * 10
/-- The last m of n bytes, place by place. -/
def tvr (f : Nat → Int) (n : Nat) : Nat → Int
  | 0 => 0
  | m + 1 => if f (n - 1 - m) = 46 then tvr f n m else tvr f n m + (f (n - 1 - m) - 48) * pwr f n m
theorem val_split (f : Nat → Int) (n m : Nat) (h : m ≤ n) : val f n = val f (n - m) * pwr f n m + tvr f n m := by
  induction m with
  | zero => simp [pwr, tvr]
  | succ m ih =>
    have ih' := ih (by omega)
    rw [show n - m = (n - 1 - m) + 1 by omega] at ih'
    rw [show n - (m + 1) = n - 1 - m by omega, ih']
    simp only [val, pwr, tvr]
    by_cases e : f (n - 1 - m) = 46
    · rw [if_pos e, if_pos e, if_pos e]
    · rw [if_neg e, if_neg e, if_neg e, Int.add_mul, Int.mul_assoc, Int.mul_comm 10, Int.add_assoc, Int.add_comm (_ * pwr f n m) (tvr f n m)]
theorem val_places (f : Nat → Int) (n : Nat) : val f n = tvr f n n := by
  have := val_split f n n (Nat.le_refl _)
  simpa [val] using this

/-- Each byte is a digit or a point. -/
def Plainly (f : Nat → Int) (n : Nat) : Prop := ∀ i, i < n → f i = 46 ∨ (48 ≤ f i ∧ f i ≤ 57)
theorem Good.plainly {f : Nat → Int} {n p : Nat} (h : Good f n p) (hp : IsFp f n p) : Plainly f n := by
  intro i hi
  by_cases e : i = p
  · left; subst e; exact hp.hit hi
  · exact .inr (h.dig i hi e)

theorem wrapEq (x : Int) : IntKind.i64.wrap x = wrap64 x := by rw [IntKind.wrap_i64]; unfold wrap64; rfl
theorem step64 (x d : Int) : wrap64 (wrap64 (wrap64 x * 10) + d) = wrap64 (x * 10 + d) := by unfold wrap64; omega

/-! ### coefficient -/
set_option maxHeartbeats 1600000 in
set_option maxRecDepth 100000 in
theorem coef_any (s : ByteArray) (w : World) (hs : s.size ≤ 1048576) (hp : Plainly (byte s) s.size) :
    Calls Trym.prog 21 #[.string s] w fun e w' => e = .returned (.int .i64 (wrap64 (val (byte s) s.size))) ∧ Below w.heap.size w w' := by
  have HP : Hid (Plainly (byte s) s.size) := hp
  have hsI : (s.size : Int) ≤ 1048576 := by omega
  clear hp
  go_enter Trym.func21, Trym.ntmps21
  go_wp2_with (refine wpList_bytes rfl _ rfl s rfl ?_)
  intro cap w1 hsz hcell hbel
  have HB : Hid (Below w.heap.size w w1) := hbel
  have HC : Hid (∀ j, j < s.size → w1.cell? ⟨w.heap.size, j, none⟩ = some (.int .u8 (byte s j))) := hcell
  clear hsz hcell hbel
  go_wp2
  go_loop [3, 9] (fun c i => ∃ k : Nat, k ≤ s.size ∧ i = .int .i64 k ∧ c = .int .i64 (wrap64 (val (byte s) k))) (fun _ i => s.size - (intOf i).toNat)
  case atStart => exact ⟨0, Nat.zero_le _, rfl, by simp [val, wrap64]⟩
  case round =>
    obtain ⟨k, hk, rfl, rfl⟩ := hrel
    by_cases hlt : k < s.size
    · have hc := HC.out k hlt
      obtain ⟨b0, b1⟩ := byte_bound s k
      by_cases e : byte s k = 46
      · have he : (byte s k != 46) = false := by simp [e]
        have HV : Hid (val (byte s) (k + 1) = val (byte s) k) := by show _ = _; simp only [val]; rw [if_pos e]
        clear e
        obtain ⟨V, hV⟩ : ∃ V, V = val (byte s) k := ⟨_, rfl⟩
        rw [← hV] at HV ⊢
        clear hV
        go_wp2
        go_round
        case rel => exact ⟨k + 1, by omega, by go_num, by rw [HV.out]⟩
        case measure => simp [intOf]; omega
      · have he : (byte s k != 46) = true := by simp [e]
        have hd := (HP.out k hlt).resolve_left e
        obtain ⟨d1, d2⟩ := hd
        have HV : Hid (val (byte s) (k + 1) = val (byte s) k * 10 + (byte s k - 48)) := by show _ = _; simp only [val]; rw [if_neg e]
        clear e
        obtain ⟨V, hV⟩ : ∃ V, V = val (byte s) k := ⟨_, rfl⟩
        rw [← hV] at HV ⊢
        clear hV
        go_wp2
        go_round
        case rel => exact ⟨k + 1, by omega, by go_num, by rw [HV.out, ← step64]⟩
        case measure => simp [intOf]; omega
    · obtain rfl : k = s.size := by omega
      go_wp2
      go_ret
      exact ⟨rfl, HB.out⟩
theorem zzcoef_any (s : ByteArray) (w : World) (hs : s.size ≤ 1048576) (hp : Plainly (byte s) s.size) :
    Calls Trym.prog 13 #[.string s] w fun e w' => e = .returned (.int .i64 (wrap64 (val (byte s) s.size))) ∧ Below w.heap.size w w' := by
  go_enter Trym.func13, Trym.ntmps13
  go_wp2_with (go_at_call 21; refine (coef_any s _ hs hp).mono ?_; rintro e w' ⟨rfl, hb⟩)
  go_ret
  exact ⟨rfl, by assumption⟩

/-! ### The law -/
theorem bytes12 (s : ByteArray) (w : World) (h : s.size ≤ 9223372036854775807) :
    Calls Trym.prog 12 #[.string s] w fun e w' => e = .returned (.bool (decide ((s.size : Int) ≤ 1048576))) ∧ w = w' := by
  by_cases hl : (s.size : Int) ≤ 1048576
  · go_enter Trym.func12, Trym.ntmps12
    go_wp2
    go_ret
    exact ⟨by simp [hl], rfl⟩
  · go_enter Trym.func12, Trym.ntmps12
    go_wp2
    go_ret
    exact ⟨by simp [hl], rfl⟩
theorem ret_bool {a b : Bool} (h : a = b) : Ending.returned (.bool a) = .returned (.bool b) := by rw [h]
theorem mulWrap (a b : Int) : IntKind.u64.wrap (a * IntKind.u64.wrap b) = IntKind.u64.wrap (a * b) := by
  simp only [IntKind.wrap_u64]
  rw [Int.mul_emod, Int.emod_emod_of_dvd _ (Int.dvd_refl _), ← Int.mul_emod]
theorem addWrap (a b : Int) : IntKind.u64.wrap (IntKind.u64.wrap a + IntKind.u64.wrap b) = IntKind.u64.wrap (a + b) := by
  simp only [IntKind.wrap_u64]
  omega
theorem stepV (T d P : Int) : IntKind.u64.wrap (IntKind.u64.wrap T + IntKind.u64.wrap (d * IntKind.u64.wrap P)) = IntKind.u64.wrap (T + d * P) := by
  rw [mulWrap, addWrap]
theorem stepP (P : Int) : IntKind.u64.wrap (IntKind.u64.wrap P * 10) = IntKind.u64.wrap (P * 10) := by
  simp only [IntKind.wrap_u64]
  omega
theorem lastWrap (x : Int) : wrap64 (IntKind.u64.wrap x) = wrap64 x := by
  rw [IntKind.wrap_u64]; unfold wrap64; omega

set_option maxHeartbeats 1600000 in
set_option maxRecDepth 100000 in
theorem coef_good (s : ByteArray) (p : Nat) (w : World) (hs : s.size ≤ 1048576) (hp : IsFp (byte s) s.size p) (hg : Good (byte s) s.size p) :
    Calls Trym.prog 4 #[.string s] w fun e w' => e = .returned (.bool true) ∧ Below w.heap.size w w' := by
  have hb8 : decide ((s.size : Int) ≤ 1048576) = true := decide_eq_true (by omega)
  have hsI : (s.size : Int) ≤ 1048576 := by omega
  have HP : Hid (Plainly (byte s) s.size) := hg.plainly hp
  have HI : Hid (IsFp (byte s) s.size p) := hp
  have hgb := (res_good hg).1
  clear hp hg
  go_enter Trym.func4, Trym.ntmps4
  go_wp2_with (first | (go_at_call 12; refine (bytes12 s _ (by omega)).mono ?_; rintro e w' ⟨rfl, rfl⟩) | (go_at_call 11; refine (gram_any s p _ hs HI.out).mono ?_; rintro e w' ⟨rfl, rfl⟩))
  go_loop [5, 6, 7] (fun v q i => ∃ m : Nat, m ≤ s.size ∧ i = .int .i64 ((s.size : Int) - 1 - m) ∧ v = .int .u64 (IntKind.u64.wrap (tvr (byte s) s.size m)) ∧ q = .int .u64 (IntKind.u64.wrap (pwr (byte s) s.size m))) (fun _ _ i => (intOf i + 1).toNat)
  case atStart => exact ⟨0, Nat.zero_le _, by simp, by simp [tvr, IntKind.wrap_u64], by simp [pwr, IntKind.wrap_u64]⟩
  case round =>
    obtain ⟨m, hm, rfl, rfl, rfl⟩ := hrel
    by_cases hlt : m < s.size
    · obtain ⟨j, hj⟩ : ∃ j : Nat, s.size - 1 - m = j := ⟨_, rfl⟩
      have hjs : j < s.size := by omega
      have hjI : (s.size : Int) - 1 - (m : Int) = (j : Int) := by omega
      rw [hjI]
      have HJ : Hid ((s.size : Int) - 1 - (m : Int) = (j : Int)) := hjI
      have hb := byte_at s j hjs
      obtain ⟨b0, b1⟩ := byte_bound s j
      by_cases e : byte s j = 46
      · have he : (byte s j == 46) = true := by simp [e]
        have HV : Hid (tvr (byte s) s.size (m + 1) = tvr (byte s) s.size m ∧ pwr (byte s) s.size (m + 1) = pwr (byte s) s.size m) := by
          constructor
          · simp only [tvr]; rw [hj, if_pos e]
          · simp only [pwr]; rw [hj, if_pos e]
        obtain ⟨T, hT⟩ : ∃ T, T = tvr (byte s) s.size m := ⟨_, rfl⟩
        obtain ⟨P, hP⟩ : ∃ P, P = pwr (byte s) s.size m := ⟨_, rfl⟩
        rw [← hT, ← hP] at HV ⊢
        clear hT hP e hj hjI
        go_wp2
        go_round
        case rel => exact ⟨m + 1, by omega, by have := HJ.out; congr 1; omega, by rw [HV.out.1], by rw [HV.out.2]⟩
        case measure => simp [intOf]
      · have he : (byte s j == 46) = false := by simp [e]
        obtain ⟨d1, d2⟩ := (HP.out j hjs).resolve_left e
        have HV : Hid (tvr (byte s) s.size (m + 1) = tvr (byte s) s.size m + (byte s j - 48) * pwr (byte s) s.size m ∧ pwr (byte s) s.size (m + 1) = pwr (byte s) s.size m * 10) := by
          constructor
          · simp only [tvr]; rw [hj, if_neg e]
          · simp only [pwr]; rw [hj, if_neg e]
        obtain ⟨T, hT⟩ : ∃ T, T = tvr (byte s) s.size m := ⟨_, rfl⟩
        obtain ⟨P, hP⟩ : ∃ P, P = pwr (byte s) s.size m := ⟨_, rfl⟩
        rw [← hT, ← hP] at HV ⊢
        clear hT hP e hj hjI
        go_wp2
        go_round
        case rel => exact ⟨m + 1, by omega, by have := HJ.out; congr 1; omega, by rw [HV.out.1, stepV], by rw [HV.out.2, stepP]⟩
        case measure => simp [intOf]
    · obtain rfl : m = s.size := by omega
      have HF : Hid (wrap64 (IntKind.u64.wrap (tvr (byte s) s.size s.size)) = wrap64 (val (byte s) s.size)) := by
        show _ = _
        rw [lastWrap, val_places]
      obtain ⟨T, hT⟩ : ∃ T, T = IntKind.u64.wrap (tvr (byte s) s.size s.size) := ⟨_, rfl⟩
      rw [← hT] at HF ⊢
      clear hT
      go_wp2_with (go_at_call 13; refine (zzcoef_any s _ hs HP.out).mono ?_; rintro e w1 ⟨rfl, hb⟩)
      go_ret
      exact ⟨ret_bool (by rw [HF.out]; simp), by assumption⟩
theorem coef_law (s : ByteArray) (w : World) (hm : s.size ≤ 9223372036854775807) :
    Calls Trym.prog 4 #[.string s] w fun e w' => e = .returned (.bool true) ∧ Below w.heap.size w w' := by
  by_cases hs : s.size ≤ 1048576
  · obtain ⟨p, hp⟩ := fp_exists (byte s) s.size
    by_cases hg : Good (byte s) s.size p
    · exact coef_good s p w hs hp hg
    · have hb8 : decide ((s.size : Int) ≤ 1048576) = true := decide_eq_true (by omega)
      have hsI : (s.size : Int) ≤ 1048576 := by omega
      have HP : Hid (IsFp (byte s) s.size p) := hp
      have hgb := (res_bad hg).1
      clear hp hg
      go_enter Trym.func4, Trym.ntmps4
      go_wp2_with (first | (go_at_call 12; refine (bytes12 s _ (by omega)).mono ?_; rintro e w' ⟨rfl, rfl⟩) | (go_at_call 11; refine (gram_any s p _ hs HP.out).mono ?_; rintro e w' ⟨rfl, rfl⟩))
      go_ret
      exact ⟨rfl, Below.refl _ _⟩
  · have hb8 : decide ((s.size : Int) ≤ 1048576) = false := decide_eq_false (by omega)
    go_enter Trym.func4, Trym.ntmps4
    go_wp2_with (go_at_call 12; refine (bytes12 s _ hm).mono ?_; rintro e w' ⟨rfl, rfl⟩)
    go_ret
    exact ⟨rfl, Below.refl _ _⟩
end Go.Proofs.Qxb6602879aMods.Dec
