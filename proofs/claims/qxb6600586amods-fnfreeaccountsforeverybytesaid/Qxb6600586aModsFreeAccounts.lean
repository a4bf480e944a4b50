/-
  THE WALK OF THE LAW 'free accounts for every byte'.
-/
import Derived.Test.Qxb6600586aModsZZfree
namespace Go.Proofs.Qxb6600586aMods.Free
open Go.RowKit Go.Proofs.Qxb6600586aMods.FreePlain
set_option linter.unusedVariables false

/-! ### The plain law -/
theorem run_facts {off en : Int} {p : Int × Int} (h0 : 0 ≤ off) (h : p ∈ runs off en) : 0 < p.2 ∧ p.2 % 4096 = 0 ∧ p.1 % 4096 = 0 ∧ off ≤ p.1 ∧ p.1 ≤ en ∧ p.2 ≤ en - p.1 := by
  unfold runs at h
  split at h
  · rename_i hc
    simp at h
    subst h
    unfold up dn at *
    simp only
    omega
  · simp at h
theorem gap_facts {off en g : Int} {p : Int × Int} (h0 : 0 ≤ off) (h : p ∈ gaps off en g) : 0 < p.2 ∧ p.2 < 4096 := by
  unfold gaps gap1 gap2 gap3 at h
  simp only [List.mem_append] at h
  rcases h with h | h | h
  all_goals
    split at h
    · rename_i hc
      simp at h
      subst h
      unfold up dn at *
      simp only
      omega
    · simp at h
theorem accounts {off en g : Int} (h0 : 0 ≤ off) (hlt : off < en) : ((runs off en).map Prod.snd).sum + ((gaps off en g).map Prod.snd).sum = en - off := by
  have hu : off ≤ up off := by unfold up; omega
  have hd : dn en ≤ en := by unfold dn; omega
  unfold runs gaps gap1 gap2 gap3
  by_cases h1 : dn en < up off
  · rw [if_neg (by omega), if_pos (by omega), if_neg (by omega), if_neg (by omega)]; simp
  · by_cases h2 : up off < dn en <;> by_cases h3 : off < up off <;> by_cases h4 : dn en < en
    all_goals simp [hlt, h1, h2, h3, h4, show up off ≤ dn en by omega]
    all_goals omega

def sumTo (l : List Int) (k : Nat) : Int := (l.take k).sum
theorem sumTo_zero (l : List Int) : sumTo l 0 = 0 := rfl
theorem sumTo_succ {l : List Int} {k : Nat} {x : Int} (h : l[k]? = some x) : sumTo l (k + 1) = sumTo l k + x := by
  obtain ⟨hk, e⟩ := List.getElem?_eq_some_iff.1 h
  unfold sumTo
  rw [List.take_succ_eq_append_getElem hk, e]; simp
theorem sumTo_all (l : List Int) {n : Nat} (h : n = l.length) : sumTo l n = l.sum := by unfold sumTo; rw [h, List.take_length]
theorem sum_nonneg {l : List Int} (h : ∀ x ∈ l, 0 < x) : 0 ≤ l.sum := by
  induction l with
  | nil => simp
  | cons a r ih =>
    have h1 := h a (by simp)
    have h2 := ih (fun x hx => h x (by simp [hx]))
    simp only [List.sum_cons]; omega
theorem sumTo_le {l : List Int} (h : ∀ x ∈ l, 0 < x) (k : Nat) : 0 ≤ sumTo l k ∧ sumTo l k ≤ l.sum := by
  refine ⟨sum_nonneg (fun x hx => h x (List.mem_of_mem_take hx)), ?_⟩
  have e : l.sum = (l.take k).sum + (l.drop k).sum := by rw [← List.sum_append, List.take_append_drop]
  have := sum_nonneg (l := l.drop k) (fun x hx => h x (List.mem_of_mem_drop hx))
  unfold sumTo; omega

/-- What the loops of the law know: R, A: lengths and places of the runs; Q: lengths of the gaps. -/
structure Plain (off en : Int) (A R Q : List Int) : Prop where
  same : A.length = R.length
  one : R.length ≤ 1
  gone : Q.length ≤ 2
  run : ∀ (k : Nat) (a r : Int), A[k]? = some a → R[k]? = some r → 0 < r ∧ r % 4096 = 0 ∧ a % 4096 = 0 ∧ off ≤ a ∧ a ≤ en ∧ r ≤ en - a
  gap : ∀ x ∈ Q, 0 < x ∧ x < 4096
  sum : R.sum + Q.sum = en - off
theorem plain_of {off en : Int} (g : Int) (h0 : 0 ≤ off) (hlt : off < en) : Plain off en ((runs off en).map Prod.fst) ((runs off en).map Prod.snd) ((gaps off en g).map Prod.snd) := by
  refine ⟨by simp, by simpa using length_runs off en, by simpa using length_gaps off en g, ?_, ?_, accounts h0 hlt⟩
  · intro k a r ha hr
    simp only [List.getElem?_map] at ha hr
    cases hp : (runs off en)[k]? with
    | none => simp [hp] at ha
    | some p =>
      simp [hp] at ha hr
      subst ha; subst hr
      exact run_facts h0 (List.mem_of_getElem? hp)
  · intro x hx
    obtain ⟨p, hp, rfl⟩ := List.mem_map.1 hx
    exact gap_facts h0 hp
theorem Plain.pos {off en : Int} {A R Q : List Int} (h : Plain off en A R Q) : ∀ x ∈ R, 0 < x := by
  intro x hx
  obtain ⟨k, hk⟩ := List.getElem?_of_mem hx
  have hk' : k < A.length := by rw [h.same]; exact (List.getElem?_eq_some_iff.1 hk).1
  exact (h.run k _ x (List.getElem?_eq_getElem hk') hk).1
/-- The round over the runs. -/
theorem Plain.at_run {off en : Int} {A R Q : List Int} (h : Plain off en A R Q) {k : Nat} (hk : k < R.length) :
    ∃ a r, A[k]? = some a ∧ R[k]? = some r ∧ 0 < r ∧ r % 4096 = 0 ∧ a % 4096 = 0 ∧ off ≤ a ∧ a ≤ en ∧ r ≤ en - a ∧ 0 ≤ sumTo R k ∧ r ≤ en - off - sumTo R k ∧ Hid (sumTo R (k + 1) = sumTo R k + r) := by
  have hA : A[k]? = some (A[k]'(by have := h.same; omega)) := List.getElem?_eq_getElem _
  have hR : R[k]? = some R[k] := List.getElem?_eq_getElem hk
  have e := sumTo_succ hR
  have hle := sumTo_le h.pos (k + 1)
  have hle0 := sumTo_le h.pos k
  have hq := sum_nonneg (l := Q) (fun x hx => (h.gap x hx).1)
  have hs := h.sum
  obtain ⟨f1, f2, f3, f4, f5, f6⟩ := h.run k _ _ hA hR
  exact ⟨_, _, hA, hR, f1, f2, f3, f4, f5, f6, hle0.1, by omega, e⟩
/-- The round over the gaps. -/
theorem Plain.at_gap {off en : Int} {A R Q : List Int} (h : Plain off en A R Q) {k : Nat} (hk : k < Q.length) :
    ∃ x, Q[k]? = some x ∧ 0 < x ∧ x < 4096 ∧ 0 ≤ R.sum + sumTo Q k ∧ x ≤ en - off - (R.sum + sumTo Q k) ∧ Hid (sumTo Q (k + 1) = sumTo Q k + x) := by
  have hQ : Q[k]? = some Q[k] := List.getElem?_eq_getElem hk
  have e := sumTo_succ hQ
  have hp : ∀ x ∈ Q, 0 < x := fun x hx => (h.gap x hx).1
  have hle := sumTo_le hp (k + 1)
  have hle0 := sumTo_le hp k
  have hq := sum_nonneg h.pos
  have hs := h.sum
  have f := h.gap _ (List.mem_of_getElem? hQ)
  exact ⟨_, hQ, f.1, f.2, by omega, by omega, e⟩

/-! ### The walk -/
set_option maxHeartbeats 1600000 in
set_option maxRecDepth 100000 in
theorem law7_main (off en g : Int) (w : World) (ho : 0 ≤ off) (ho2 : off ≤ 18446744073709551615) (he0 : 0 ≤ en) (he : en ≤ 18446744073709547519) (g0 : 0 ≤ g) (g1 : g ≤ 18446744073709551615) (hlt : off < en) :
    Calls Trym.prog 7 #[.int .u64 off, .int .u64 en, .int .u64 g] w fun e w' => e = .returned (.bool true) ∧ Below w.heap.size w w' := by
  have hP := plain_of g ho hlt
  have hI : ((gaps off en g).map Prod.fst).length = ((gaps off en g).map Prod.snd).length := by simp
  have HZ := zzfree_any off en g w ho ho2 he g0 g1
  generalize (runs off en).map Prod.fst = A at hP HZ
  generalize (runs off en).map Prod.snd = R at hP HZ
  generalize (gaps off en g).map Prod.fst = I at hI HZ
  generalize (gaps off en g).map Prod.snd = Q at hP hI HZ
  have e1 := hP.same
  have e2 := hP.one
  have e3 := hP.gone
  obtain ⟨n, hn⟩ : ∃ n, n = R.length := ⟨_, rfl⟩
  obtain ⟨m, hm⟩ : ∃ m, m = Q.length := ⟨_, rfl⟩
  have HN : Hid (A.length = n ∧ R.length = n ∧ I.length = m ∧ Q.length = m) := ⟨by omega, by omega, by omega, by omega⟩
  have hn1 : n ≤ 1 := by omega
  have hm1 : m ≤ 2 := by omega
  have HT : Hid (R.sum + Q.sum = en - off) := hP.sum
  have HP : Hid (Plain off en A R Q) := hP
  obtain ⟨S, hS⟩ : ∃ S, S = R.sum := ⟨_, rfl⟩
  have HS : Hid (S = R.sum) := hS
  clear hI e1 e2 e3 hn hm hP hS
  go_enter Trym.func7, Trym.ntmps7
  go_wp2_with fail
  refine HZ.mono ?_
  clear HZ
  rintro e w1 ⟨v6, v7, v8, v9, rfl, ⟨a6, c6, h6, s6⟩, ⟨a7, c7, h7, s7⟩, ⟨a8, c8, h8, s8⟩, ⟨a9, c9, h9, s9⟩, hb⟩
  rw [HN.out.1] at h6
  rw [HN.out.2.1] at h7
  rw [HN.out.2.2.1] at h8
  rw [HN.out.2.2.2] at h9
  subst h6; subst h7; subst h8; subst h9
  have H6 := @id (Hid _) s6
  have H7 := @id (Hid _) s7
  have H9 := @id (Hid _) s9
  clear s6 s7 s8 s9
  go_wp2
  go_loop [12, 13] (fun t i => ∃ k : Nat, k ≤ n ∧ i = .int .i64 k ∧ t = .int .u64 (sumTo R k)) (fun _ i => n - (intOf i).toNat)
  case atStart => exact ⟨0, Nat.zero_le _, rfl, rfl⟩
  case round =>
    obtain ⟨k, hk, rfl, rfl⟩ := hrel
    by_cases hlk : k < n
    · obtain ⟨a, r, hA, hR, f1, f2, f3, f4, f5, f6, f7, f8, f9⟩ := HP.out.at_run (k := k) (by have := HN.out.2.1; omega)
      obtain ⟨ga, ha, _, _, ca⟩ := H6.out k a hA
      obtain ⟨gr, hr, _, _, cr⟩ := H7.out k r hR
      clear hA hR
      have f1b : (r == 0) = false := by simp; omega
      have f2b : (r % 4096 != 0) = false := by simp; omega
      have f3b : (a % 4096 != 0) = false := by simp; omega
      have f4b : decide (a < off) = false := decide_eq_false (by omega)
      have f5b : decide (en < a) = false := decide_eq_false (by omega)
      have f6b : decide (en - a < r) = false := decide_eq_false (by omega)
      obtain ⟨T, hT⟩ : ∃ T, T = sumTo R k := ⟨_, rfl⟩
      rw [← hT] at f7 f8 f9 ⊢
      clear hT f2 f3
      subst ha
      subst hr
      go_wp2
      go_round
      case rel => exact ⟨k + 1, by omega, by go_num, by rw [f9.out]⟩
      case measure => simp [intOf]; omega
    · obtain rfl : k = n := by omega
      have hTS : sumTo R k = S := by rw [sumTo_all R HN.out.2.1.symm, HS.out]
      rw [hTS]
      clear hTS
      go_wp2
      go_loop [12, 16] (fun t i => ∃ j : Nat, j ≤ m ∧ i = .int .i64 j ∧ t = .int .u64 (S + sumTo Q j)) (fun _ i => m - (intOf i).toNat)
      case atStart => exact ⟨0, Nat.zero_le _, rfl, by rw [sumTo_zero, Int.add_zero]⟩
      case round =>
        obtain ⟨j, hj, rfl, rfl⟩ := hrel
        by_cases hlj : j < m
        · obtain ⟨x, hX, f1, f2, f3, f4, f5⟩ := HP.out.at_gap (k := j) (by have := HN.out.2.2.2; omega)
          obtain ⟨gx, ha, _, _, ca⟩ := H9.out j x hX
          clear hX
          rw [← HS.out] at f3 f4
          have f1b : (x == 0) = false := by simp; omega
          have f2b : decide (4096 ≤ x) = false := decide_eq_false (by omega)
          have F5 : Hid (S + sumTo Q (j + 1) = S + sumTo Q j + x) := by have := f5.out; show _ = _; omega
          clear f5
          obtain ⟨T, hT⟩ : ∃ T, T = S + sumTo Q j := ⟨_, rfl⟩
          rw [← hT] at f3 f4 F5 ⊢
          clear hT
          subst ha
          go_wp2
          go_round
          case rel => exact ⟨j + 1, by omega, by go_num, by rw [F5.out]⟩
          case measure => simp [intOf]; omega
        · obtain rfl : j = m := by omega
          have hfin : S + sumTo Q j = en - off := by rw [sumTo_all Q HN.out.2.2.2.symm, HS.out]; exact HT.out
          rw [hfin]
          clear hfin
          go_wp2
          go_ret
          exact ⟨by simp, hb⟩

/-- Nothing lies between off and en. -/
theorem law7_none (off en g : Int) (w : World) (ho : 0 ≤ off) (ho2 : off ≤ 18446744073709551615) (he : en ≤ 18446744073709547519) (g0 : 0 ≤ g) (g1 : g ≤ 18446744073709551615) (hlt : ¬ off < en) :
    Calls Trym.prog 7 #[.int .u64 off, .int .u64 en, .int .u64 g] w fun e w' => e = .returned (.bool true) ∧ Below w.heap.size w w' := by
  have HZ := zzfree_any off en g w ho ho2 he g0 g1
  rw [runs_end hlt, gaps_end hlt] at HZ
  go_enter Trym.func7, Trym.ntmps7
  go_wp2_with fail
  refine HZ.mono ?_
  clear HZ
  rintro e w1 ⟨v6, v7, v8, v9, rfl, ⟨a6, c6, h6, s6⟩, ⟨a7, c7, h7, s7⟩, ⟨a8, c8, h8, s8⟩, ⟨a9, c9, h9, s9⟩, hb⟩
  subst h6; subst h7; subst h8; subst h9
  clear s6 s7 s8 s9
  go_wp2
  go_ret
  exact ⟨rfl, hb⟩
theorem law7_any (off en g : Int) (w : World) (ho : 0 ≤ off) (ho2 : off ≤ 18446744073709551615) (he0 : 0 ≤ en) (g0 : 0 ≤ g) (g1 : g ≤ 18446744073709551615) :
    Calls Trym.prog 7 #[.int .u64 off, .int .u64 en, .int .u64 g] w fun e w' => e = .returned (.bool true) ∧ Below w.heap.size w w' := by
  by_cases he : en ≤ 18446744073709547519
  · by_cases hlt : off < en
    · exact law7_main off en g w ho ho2 he0 he g0 g1 hlt
    · exact law7_none off en g w ho ho2 he g0 g1 hlt
  · go_enter Trym.func7, Trym.ntmps7
    go_wp2
    go_ret
    exact ⟨rfl, Below.refl _ _⟩
end Go.Proofs.Qxb6600586aMods.Free
