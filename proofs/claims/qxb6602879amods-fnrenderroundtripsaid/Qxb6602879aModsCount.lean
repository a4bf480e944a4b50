/-
  countDigits AND zzGrammar: what both answer, as one plain function; their walks.
-/
import Derived.Test.Qxb6602879aModsFrac
import Derived.Lib.ConvBytes
namespace Go.Proofs.Qxb6602879aMods.Dec
open Go.RowKit
set_option linter.unusedVariables false

/-! ### The plain answer -/
def digB (c : Int) : Bool := decide (48 ≤ c) && decide (c ≤ 57)
def goodB (f : Nat → Int) (n p : Nat) : Bool := decide (0 < n) && ((List.range n).all fun i => i == p || digB (f i)) && (!decide (p < n) || (decide (0 < p) && decide (p + 1 < n)))
structure Good (f : Nat → Int) (n p : Nat) : Prop where
  pos : 0 < n
  dig : ∀ i, i < n → i ≠ p → 48 ≤ f i ∧ f i ≤ 57
  pt : p < n → 0 < p ∧ p + 1 < n
theorem digB_iff (c : Int) : digB c = true ↔ 48 ≤ c ∧ c ≤ 57 := by simp [digB]
theorem goodB_iff (f : Nat → Int) (n p : Nat) : goodB f n p = true ↔ Good f n p := by
  unfold goodB
  simp only [Bool.and_eq_true, decide_eq_true_eq, List.all_eq_true, List.mem_range, Bool.or_eq_true, beq_iff_eq, digB_iff, Bool.not_eq_true', decide_eq_false_iff_not]
  constructor
  · rintro ⟨⟨h1, h2⟩, h3⟩
    exact ⟨h1, fun i hi hne => (h2 i hi).resolve_left hne, fun hp => h3.resolve_left (fun h => h hp)⟩
  · rintro ⟨h1, h2, h3⟩
    refine ⟨⟨h1, fun i hi => ?_⟩, ?_⟩
    · by_cases e : i = p
      · exact .inl e
      · exact .inr (h2 i hi e)
    · by_cases hp : p < n
      · exact .inr (h3 hp)
      · exact .inl hp
/-- How many digits stand among the first k. -/
def cn (p k : Nat) : Nat := if p < k then k - 1 else k
def resN (f : Nat → Int) (n p : Nat) : Int := if goodB f n p = true then (cn p n : Int) else 0
theorem res_good {f : Nat → Int} {n p : Nat} (h : Good f n p) : goodB f n p = true ∧ resN f n p = (cn p n : Int) := by
  have := (goodB_iff f n p).2 h
  exact ⟨this, by unfold resN; rw [if_pos this]⟩
theorem res_bad {f : Nat → Int} {n p : Nat} (h : ¬ Good f n p) : goodB f n p = false ∧ resN f n p = 0 := by
  have : goodB f n p = false := by
    cases e : goodB f n p with
    | false => rfl
    | true => exact absurd ((goodB_iff f n p).1 e) h
  exact ⟨this, by unfold resN; rw [this]; rfl⟩
theorem ret_two {a b : Int} {c d : Bool} (h1 : a = b) (h2 : c = d) : Ending.returned (.tuple #[.int .i64 a, .bool c]) = .returned (.tuple #[.int .i64 b, .bool d]) := by rw [h1, h2]

/-- What holds of the first k bytes. -/
structure Pre (f : Nat → Int) (n p k : Nat) : Prop where
  dig : ∀ i, i < k → i ≠ p → 48 ≤ f i ∧ f i ≤ 57
  pt : p < k → 0 < p ∧ p + 1 < n
theorem Pre_zero (f : Nat → Int) (n p : Nat) : Pre f n p 0 := ⟨fun i hi => by omega, fun h => by omega⟩
theorem Pre_digit {f : Nat → Int} {n p k : Nat} (h : Pre f n p k) (hd : 48 ≤ f k ∧ f k ≤ 57) (hne : k ≠ p) : Pre f n p (k + 1) := by
  refine ⟨fun i hi hp => ?_, fun hp => h.pt (by omega)⟩
  by_cases e : i = k
  · subst e; exact hd
  · exact h.dig i (by omega) hp
theorem Pre_point {f : Nat → Int} {n p : Nat} (h : Pre f n p p) (h0 : 0 < p) (h1 : p + 1 < n) : Pre f n p (p + 1) :=
  ⟨fun i hi hp => h.dig i (by omega) hp, fun _ => ⟨h0, h1⟩⟩
theorem Pre_good {f : Nat → Int} {n p : Nat} (h : Pre f n p n) (h0 : 0 < n) : Good f n p := ⟨h0, h.dig, h.pt⟩

/-! ### []byte(text), as a law for the walk -/
theorem byte_getD (s : ByteArray) (j : Nat) (hj : j < s.size) : ((s.data.toList.getD j 0).toNat : Int) = byte s j := by
  have hj' : j < s.data.toList.length := hj
  have e : s.data.toList.getD j 0 = s[j]'hj := by
    rw [List.getD_eq_getElem?_getD, List.getElem?_eq_getElem hj']; rfl
  rw [e, byte_at s j hj]
theorem wpList_bytes {ops : Array Oper} {rest : List Oper} {o : Oper} {a : Act} {w : World} {Q : Exit → Act → World → Prop} (hgd : o.guard = none) (x : Operand) (hop : o.op = .convert 9 30 x) (s : ByteArray) (hx : a.eval x = .string s)
    (hK : ∀ cap w', w'.heap.size = w.heap.size + 1 → (∀ j, j < s.size → w'.cell? ⟨w.heap.size, j, none⟩ = some (.int .u8 (byte s j))) → Below w.heap.size w w' → wpList Trym.prog ops Q rest (a.put o.dst (.slice (some ⟨w.heap.size, 0, none⟩) s.size cap)) w') :
    wpList Trym.prog ops Q (o :: rest) a w := by
  refine wpList_plain hgd fun K hK' => ?_
  have hr := Lib.run_convert_string_bytes (P := Trym.prog) w 9 30 5 s Trym.underlying9 Trym.underlying30 Trym.underlying5
  unfold Oper.wp execOp
  simp only [hop, hx, hr, Sem.run_bind, Result.andThen_ok, Sem.run_pure]
  refine hK' _ _ (hK _ _ (Lib.bytesWorld_size w 5 s) (fun j hj => ?_) ⟨rfl, rfl, rfl, by rw [Lib.bytesWorld_size]; omega, fun k hk => Lib.bytesWorld_at_old w 5 s k hk⟩)
  rw [Lib.bytesWorld_cell w 5 s j hj, byte_getD s j hj]

/-! ### countDigits -/
set_option maxHeartbeats 1600000 in
set_option maxRecDepth 100000 in
theorem count_any (s : ByteArray) (p : Nat) (w : World) (hs : s.size ≤ 1048576) (hp : IsFp (byte s) s.size p) :
    Calls Trym.prog 19 #[.string s] w fun e w' => e = .returned (.tuple #[.int .i64 (resN (byte s) s.size p), .bool (goodB (byte s) s.size p)]) ∧ Below w.heap.size w w' := by
  have HP : Hid (IsFp (byte s) s.size p) := hp
  have hple := hp.le
  clear hp
  obtain ⟨n, hn⟩ : ∃ n, n = s.size := ⟨_, rfl⟩
  have hnI : (n : Int) ≤ 1048576 := by omega
  go_enter Trym.func19, Trym.ntmps19
  go_wp2_with (refine wpList_bytes rfl _ rfl s rfl ?_)
  intro cap w1 hsz hcell hbel
  have HB : Hid (Below w.heap.size w w1) := hbel
  have HC : Hid (∀ j, j < s.size → w1.cell? ⟨w.heap.size, j, none⟩ = some (.int .u8 (byte s j))) := hcell
  clear hsz hcell hbel hn hnI
  go_wp2
  go_loop [4, 5, 11] (fun c pt i => ∃ k : Nat, k ≤ s.size ∧ i = .int .i64 k ∧ pt = .bool (decide (p < k)) ∧ c = .int .i64 (cn p k : Nat) ∧ Pre (byte s) s.size p k) (fun _ _ i => s.size - (intOf i).toNat)
  case atStart => exact ⟨0, Nat.zero_le _, rfl, by simp, by simp [cn], Pre_zero _ _ _⟩
  case round =>
    obtain ⟨k, hk, rfl, rfl, rfl, hpre⟩ := hrel
    by_cases hlt : k < s.size
    · have hc := HC.out k hlt
      obtain ⟨b0, b1⟩ := byte_bound s k
      have hcn : cn p k ≤ 1048576 := by unfold cn; split <;> omega
      by_cases hd : 48 ≤ byte s k ∧ byte s k ≤ 57
      · obtain ⟨hd1, hd2⟩ := hd
        have hne : k ≠ p := by
          intro e
          have := HP.out.hit (by omega)
          rw [← e] at this; omega
        have hcn2 : cn p (k + 1) = cn p k + 1 := by unfold cn; split <;> split <;> omega
        have HN : Hid (cn p (k + 1) = cn p k + 1) := hcn2
        have HE : Hid (decide (p < k + 1) = decide (p < k)) := by
          show _ = _
          rw [Bool.eq_iff_iff]; simp; omega
        have hpre' := Pre_digit hpre ⟨hd1, hd2⟩ hne
        obtain ⟨q, hq⟩ : ∃ q, q = cn p k := ⟨_, rfl⟩
        rw [← hq] at hcn HN ⊢
        clear hcn2 hne hq hpre
        go_wp2
        go_round
        case rel => exact ⟨k + 1, by omega, by go_num, by rw [HE.out], by rw [HN.out]; go_num, hpre'⟩
        case measure => simp [intOf]; omega
      · by_cases hgo : byte s k = 46 ∧ k = p ∧ 0 < k ∧ k + 1 < s.size
        · obtain ⟨e1, e2, e3, e4⟩ := hgo
          have he : (byte s k == 46) = true := by simp [e1]
          have hd0 : decide (48 ≤ byte s k) = false := decide_eq_false (by omega)
          have hpk : decide (p < k) = false := decide_eq_false (by omega)
          have hpre' : Pre (byte s) s.size p (k + 1) := by subst e2; exact Pre_point hpre e3 e4
          have HN : Hid (cn p (k + 1) = cn p k) := by show _ = _; unfold cn; split <;> split <;> omega
          have HE : Hid (decide (p < k + 1) = true) := by show _ = _; simp; omega
          have e3' : (0 : Int) < (k : Int) := by omega
          have e4' : (k : Int) < (s.size : Int) - 1 := by omega
          clear e1 e2 hpre hd
          go_wp2
          go_round
          case rel => exact ⟨k + 1, by omega, by go_num, by rw [HE.out], by rw [HN.out], hpre'⟩
          case measure => simp [intOf]; omega
        · have hbad : ¬ Good (byte s) s.size p := by
            intro h
            by_cases e : k = p
            · have h1 := HP.out.hit (by omega)
              have h2 := h.pt (by omega)
              rw [← e] at h1 h2
              exact hgo ⟨h1, e, h2.1, h2.2⟩
            · exact hd (h.dig k hlt e)
          obtain ⟨hg, hr⟩ := res_bad hbad
          have HG : Hid (goodB (byte s) s.size p = false ∧ resN (byte s) s.size p = 0) := ⟨hg, hr⟩
          clear hg hr hbad hpre
          by_cases h46 : byte s k = 46
          · have he : (byte s k == 46) = true := by simp [h46]
            have hd0 : decide (48 ≤ byte s k) = false := decide_eq_false (by omega)
            by_cases hpk : p < k
            · have hpk' : decide (p < k) = true := decide_eq_true hpk
              clear h46 hd hgo
              go_wp2
              go_ret2
              exact ⟨ret_two HG.out.2.symm HG.out.1.symm, HB.out⟩
            · have hpk' : decide (p < k) = false := decide_eq_false hpk
              have hkp : k = p := by
                by_cases e : k < p
                · exact absurd h46 (HP.out.before k e)
                · omega
              by_cases hk0 : (0 : Int) < (k : Int)
              · have hk1 : ¬ (k : Int) < (s.size : Int) - 1 := fun h => hgo ⟨h46, hkp, by omega, by omega⟩
                clear h46 hd hgo hkp
                go_wp2
                go_ret2
                exact ⟨ret_two HG.out.2.symm HG.out.1.symm, HB.out⟩
              · clear h46 hd hgo hkp
                go_wp2
                go_ret2
                exact ⟨ret_two HG.out.2.symm HG.out.1.symm, HB.out⟩
          · have he : (byte s k == 46) = false := by simp [h46]
            by_cases h48 : 48 ≤ byte s k
            · have hd0 : decide (48 ≤ byte s k) = true := decide_eq_true h48
              have hd1 : decide (byte s k ≤ 57) = false := decide_eq_false (by omega)
              clear h46 hd hgo
              go_wp2
              go_ret2
              exact ⟨ret_two HG.out.2.symm HG.out.1.symm, HB.out⟩
            · have hd0 : decide (48 ≤ byte s k) = false := decide_eq_false h48
              clear h46 hd hgo
              go_wp2
              go_ret2
              exact ⟨ret_two HG.out.2.symm HG.out.1.symm, HB.out⟩
    · obtain rfl : k = s.size := by omega
      by_cases h0 : 0 < s.size
      · obtain ⟨hg, hr⟩ := res_good (Pre_good hpre h0)
        have hcn : 0 < cn p s.size := by
          have := hpre.pt
          unfold cn
          split <;> omega
        have HG : Hid (goodB (byte s) s.size p = true ∧ resN (byte s) s.size p = (cn p s.size : Int)) := ⟨hg, hr⟩
        have hcI : (0 : Int) < ((cn p s.size : Nat) : Int) := by omega
        clear hg hr hpre
        go_wp2
        go_ret2
        exact ⟨ret_two HG.out.2.symm HG.out.1.symm, HB.out⟩
      · have hbad : ¬ Good (byte s) s.size p := fun h => h0 h.pos
        obtain ⟨hg, hr⟩ := res_bad hbad
        have hcn : cn p s.size = 0 := by unfold cn; split <;> omega
        have HG : Hid (goodB (byte s) s.size p = false ∧ resN (byte s) s.size p = 0 ∧ cn p s.size = 0) := ⟨hg, hr, hcn⟩
        clear hg hr hpre hbad hcn
        go_wp2
        go_ret2
        exact ⟨ret_two (by rw [HG.out.2.1, HG.out.2.2]; rfl) (by rw [HG.out.1, HG.out.2.2]; rfl), HB.out⟩
theorem zzcount_any (s : ByteArray) (p : Nat) (w : World) (hs : s.size ≤ 1048576) (hp : IsFp (byte s) s.size p) :
    Calls Trym.prog 10 #[.string s] w fun e w' => e = .returned (.tuple #[.int .i64 (resN (byte s) s.size p), .bool (goodB (byte s) s.size p)]) ∧ Below w.heap.size w w' := by
  go_enter Trym.func10, Trym.ntmps10
  go_wp2_with (go_at_call 19; refine (count_any s p _ hs hp).mono ?_; rintro e w' ⟨rfl, hb⟩)
  go_ret2
  exact ⟨rfl, by assumption⟩
end Go.Proofs.Qxb6602879aMods.Dec
