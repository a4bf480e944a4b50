/-
  THE WALK OF FnRenderRoundTrip.
-/
import Derived.Test.Qxb6602879aModsRenderMem
import Derived.Deep.Cut
import Derived.Deep.CutRange
namespace Go.Proofs.Qxb6602879aMods.Dec
open Go.RowKit
set_option linter.unusedVariables false

theorem digit_cell (V m U : Nat) (h : U = V / 10 ^ m) : ((48 + dg V m : Nat) : Int) = 48 + (U : Int) % 10 := by
  unfold dg; rw [← h]; omega

/-! ### The three functions at the rendered text -/
theorem count_txt (s : ByteArray) (V W K q : Nat) (w : World) (hx : Txt (byte s) V W K q s.size) (hs : s.size ≤ 1048576) :
    Calls Trym.prog 10 #[.string s] w fun e w' => e = .returned (.tuple #[.int .i64 (W : Int), .bool true]) ∧ Below w.heap.size w w' := by
  have h := zzcount_any s q w hs hx.isFp
  rw [(res_good hx.good).1, (res_good hx.good).2, hx.cn] at h
  exact h
theorem coef_txt (s : ByteArray) (V W K q : Nat) (w : World) (hx : Txt (byte s) V W K q s.size) (hs : s.size ≤ 1048576) (hV : V ≤ 9223372036854775807) :
    Calls Trym.prog 13 #[.string s] w fun e w' => e = .returned (.int .i64 (V : Int)) ∧ Below w.heap.size w w' := by
  have h := zzcoef_any s w hs (hx.good.plainly hx.isFp)
  have e : wrap64 (V : Int) = (V : Int) := by unfold wrap64; omega
  rw [hx.value, e] at h
  exact h
theorem frac_txt (s : ByteArray) (V W K q : Nat) (w : World) (hx : Txt (byte s) V W K q s.size) (hs : s.size ≤ 1048576) :
    Calls Trym.prog 16 #[.string s] w fun e w' => e = .returned (.int .i64 (K : Int)) ∧ w = w' := by
  have h := zzfrac_any s q w hs hx.isFp
  rw [hx.frac] at h
  exact h

set_option maxHeartbeats 1600000 in
set_option maxRecDepth 100000 in
theorem render_main (V K : Nat) (w : World) (hV : V ≤ 9223372036854775807) (hK : K ≤ 18) :
    Calls Trym.prog 8 #[.int .i64 (V : Int), .int .i64 (K : Int)] w fun e w' => e = .returned (.bool true) ∧ Below w.heap.size w w' := by
  have h1 := R1_born w V
  have v0 : decide ((V : Int) < 0) = false := decide_eq_false (by omega)
  have k0 : decide ((K : Int) < 0) = false := decide_eq_false (by omega)
  have k1 : decide ((18 : Int) < (K : Int)) = false := decide_eq_false (by omega)
  go_enter Trym.func8, Trym.ntmps8
  go_wp2_with (refine wpList_alloc29 rfl rfl ?_)
  go_loopw [6, 7] (fun sm su wr => ∃ m : Nat, m ≤ 19 ∧ sm = .int .i64 m ∧ su = .int .i64 ((V / 10 ^ m : Nat) : Int) ∧ R1 w wr w.heap.size V m) (fun sm _ _ => 20 - (intOf sm).toNat)
  case atStart => exact ⟨0, by omega, rfl, by simp, h1⟩
  case round =>
    clear h1
    obtain ⟨m, hm, rfl, rfl, hR⟩ := hrel
    obtain ⟨U, hU⟩ : ∃ U, U = V / 10 ^ m := ⟨_, rfl⟩
    have hU2 : U ≤ V := by rw [hU]; exact Nat.div_le_self _ _
    have HU : Hid (U = V / 10 ^ m) := hU
    rw [← hU]
    by_cases hgo : m = 0 ∨ 0 < U
    · have hm19 : m < 19 := by
        rcases hgo with e | e
        · omega
        · rw [hU] at e; exact m_lt hV e
      obtain ⟨u, hu⟩ := hR.some_ m (by omega)
      have hf := hR.soft m (by omega)
      have hR' := R1_set hR (by omega : m < 20)
      rw [digit_cell V m U hU] at hR'
      have HD : Hid (V / 10 ^ (m + 1) = U / 10) := by show _ = _; rw [div_step, ← hU]
      clear hU hR
      by_cases e : m = 0
      · have e1 : ((m : Int) == 0) = true := by simp [e]
        clear e hgo
        go_wp2
        go_roundw
        case rel => exact ⟨m + 1, by omega, by go_num, by rw [HD.out]; go_num, hR'⟩
        case measure => simp [intOf]; omega
      · have e1 : ((m : Int) == 0) = false := by simp [e]
        have e2 : (0 : Int) < (U : Int) := by omega
        clear e hgo
        go_wp2
        go_roundw
        case rel => exact ⟨m + 1, by omega, by go_num, by rw [HD.out]; go_num, hR'⟩
        case measure => simp [intOf]; omega
    · have e1 : ((m : Int) == 0) = false := by simp; omega
      have HM : Hid (0 < m ∧ V / 10 ^ m = 0) := ⟨by omega, by rw [← hU]; omega⟩
      obtain rfl : U = 0 := by omega
      clear hgo hU HU
      go_upto_if 45 with fail
      go_cut [8] from 14 (fun s8 wx => ∃ W : Nat, s8 = .int .i64 W ∧ m ≤ W ∧ K + 1 ≤ W ∧ W ≤ 19 ∧ R1 w wx w.heap.size V m)
      case first =>
        by_cases hw : m < K + 1
        · have hwI : (m : Int) < (K : Int) + 1 := by omega
          go_wp2
          go_meet
          case rel => exact ⟨K + 1, by go_num, by omega, by omega, by omega, hR⟩
        · have hwI : ¬ (m : Int) < (K : Int) + 1 := by omega
          go_wp2
          go_meet
          case rel => exact ⟨m, rfl, by omega, by omega, by omega, hR⟩
      case rest =>
        clear hR
        obtain ⟨W, rfl, hmW, hKW, hW19, hR⟩ := hcut
        have hbase : w.heap.size ≤ wc.heap.size := hR.bel.size
        obtain ⟨q, hq⟩ : ∃ q, q + K = W := ⟨W - K, by omega⟩
        have HQ : Hid (q + K = W) := hq
        have hq0 : 0 < q := by omega
        clear hq
        go_wp2_with (refine wpList_make48 rfl _ _ rfl w.heap.size rfl rfl hbase ?_)
        intro w1 hown hgrow
        have h2 := R2_start hR hown hgrow
        clear hR hown hgrow hbase
        generalize wc.heap.size = bb at *
        go_wp2
        go_loopw [9, 10] (fun sb si wr => ∃ (i l : Nat) (t : List Nat), i ≤ W ∧ si = .int .i64 i ∧ sb = .slice (some ⟨bb, 0, none⟩) l 48 ∧ R2 w wr w.heap.size bb V m t l ∧ Hid (t = T V W K q i)) (fun _ si _ => W - (intOf si).toNat)
        case atStart => exact ⟨0, 0, [], Nat.zero_le _, rfl, rfl, h2, (T_zero _ _ _ _).symm⟩
        case round =>
          clear h2
          obtain ⟨i, l, t, hi, rfl, rfl, hR, hT⟩ := hrel
          have hl : l ≤ 20 := by
            have e1 := hR.len
            have e2 := length_T V W K q i
            rw [← hT.out, e1] at e2
            rw [e2]; split <;> omega
          have hbase : w.heap.size ≤ wr.heap.size := hR.bel.size
          by_cases hlt : i < W
          · by_cases hpt : 0 < K ∧ i = q
            · obtain ⟨hK0, hiq⟩ := hpt
              have p1 : (0 : Int) < (K : Int) := by omega
              have p2 : ((i : Int) == (W : Int) - (K : Int)) = true := by have := HQ.out; simp; omega
              have HT : Hid (T V W K q (i + 1) = t ++ [46] ++ [ch V W i]) := by show _ = _; rw [hT.out, hiq]; exact T_point hK0
              clear hiq hT
              have hr1 := hR.own.alloc (.cells #[.int .u8 46] 5)
              by_cases hz : i + m < W
              · have z1 : (i : Int) < (W : Int) - (m : Int) := by omega
                have HC : Hid (ch V W i = 48) := by show _ = _; unfold ch; rw [dg_zero (lt_pow HM.out.2 hmW).1 (by omega)]
                go_wp2_with (at_builtin; refine wpList_appB rfl (.tmp 63) (.tmp 64) rfl w.heap.size bb l t rfl hr1 wr.heap.size 46 rfl (heap_alloc_new _ _) (by omega) ?_)
                intro w2 hown hgrow
                have hR2 := (hR.alloc _).app hown hgrow
                obtain ⟨t1, ht1⟩ : ∃ t1, t1 = t ++ [46] := ⟨_, rfl⟩
                rw [← ht1] at hR2
                have HT1 : Hid (T V W K q (i + 1) = t1 ++ [ch V W i]) := by have := HT.out; rw [← ht1] at this; exact this
                clear hown hgrow hr1 hR ht1 HT
                have hr2 := hR2.own.alloc (.cells #[.int .u8 48] 5)
                go_wp2_with (at_builtin; refine wpList_appB rfl (.tmp 71) (.tmp 72) rfl w.heap.size bb (l + 1) t1 rfl hr2 w2.heap.size 48 rfl (heap_alloc_new _ _) (by omega) ?_)
                intro w3 hown hgrow
                have hR3 := (hR2.alloc _).app hown hgrow
                clear hown hgrow hr2 hR2
                go_wp2
                go_roundw
                case rel => exact ⟨i + 1, l + 1 + 1, t1 ++ [48], by omega, by go_num, rfl, hR3, by rw [HT1.out, HC.out]; rfl⟩
                case measure => simp [intOf]; omega
              · have z1 : ¬ (i : Int) < (W : Int) - (m : Int) := by omega
                go_wp2_with (at_builtin; refine wpList_appB rfl (.tmp 63) (.tmp 64) rfl w.heap.size bb l t rfl hr1 wr.heap.size 46 rfl (heap_alloc_new _ _) (by omega) ?_)
                intro w2 hown hgrow
                have hR2 := (hR.alloc _).app hown hgrow
                obtain ⟨t1, ht1⟩ : ∃ t1, t1 = t ++ [46] := ⟨_, rfl⟩
                rw [← ht1] at hR2
                have HT1 : Hid (T V W K q (i + 1) = t1 ++ [ch V W i]) := by have := HT.out; rw [← ht1] at this; exact this
                clear hown hgrow hr1 hR ht1 HT
                have hc : w2.cell? ⟨w.heap.size, W - 1 - i, none⟩ = some (.int .u8 ((ch V W i : Nat) : Int)) := hR2.dig (W - 1 - i) (by omega)
                have hr2 := hR2.own.alloc (.cells #[.int .u8 ((ch V W i : Nat) : Int)] 5)
                go_wp2_with (at_builtin; refine wpList_appB rfl (.tmp 74) (.tmp 81) rfl w.heap.size bb (l + 1) t1 rfl hr2 w2.heap.size (ch V W i) rfl (heap_alloc_new _ _) (by omega) ?_)
                intro w3 hown hgrow
                have hR3 := (hR2.alloc _).app hown hgrow
                clear hown hgrow hr2 hR2 hc
                go_wp2
                go_roundw
                case rel => exact ⟨i + 1, l + 1 + 1, t1 ++ [ch V W i], by omega, by go_num, rfl, hR3, HT1.out.symm⟩
                case measure => simp [intOf]; omega
            · have HT : Hid (T V W K q (i + 1) = t ++ [ch V W i]) := by show _ = _; rw [hT.out]; exact T_plain hpt
              have hpt' : K = 0 ∨ (0 < K ∧ i ≠ q) := by omega
              clear hT hpt
              rcases hpt' with hK0 | ⟨hK0, hiq⟩
              · have p1 : decide ((0 : Int) < (K : Int)) = false := decide_eq_false (by omega)
                have p1' : decide (0 < K) = false := decide_eq_false (by omega)
                clear hK0
                by_cases hz : i + m < W
                · have z1 : (i : Int) < (W : Int) - (m : Int) := by omega
                  have HC : Hid (ch V W i = 48) := by show _ = _; unfold ch; rw [dg_zero (lt_pow HM.out.2 hmW).1 (by omega)]
                  have hr1 := hR.own.alloc (.cells #[.int .u8 48] 5)
                  go_wp2_with (at_builtin; refine wpList_appB rfl (.tmp 71) (.tmp 72) rfl w.heap.size bb l t rfl hr1 wr.heap.size 48 rfl (heap_alloc_new _ _) (by omega) ?_)
                  intro w3 hown hgrow
                  have hR3 := (hR.alloc _).app hown hgrow
                  clear hown hgrow hr1 hR
                  go_wp2
                  go_roundw
                  case rel => exact ⟨i + 1, l + 1, t ++ [48], by omega, by go_num, rfl, hR3, by rw [HT.out, HC.out]; rfl⟩
                  case measure => simp [intOf]; omega
                · have z1 : ¬ (i : Int) < (W : Int) - (m : Int) := by omega
                  have hc : wr.cell? ⟨w.heap.size, W - 1 - i, none⟩ = some (.int .u8 ((ch V W i : Nat) : Int)) := hR.dig (W - 1 - i) (by omega)
                  have hr1 := hR.own.alloc (.cells #[.int .u8 ((ch V W i : Nat) : Int)] 5)
                  go_wp2_with (at_builtin; refine wpList_appB rfl (.tmp 74) (.tmp 81) rfl w.heap.size bb l t rfl hr1 wr.heap.size (ch V W i) rfl (heap_alloc_new _ _) (by omega) ?_)
                  intro w3 hown hgrow
                  have hR3 := (hR.alloc _).app hown hgrow
                  clear hown hgrow hr1 hR hc
                  go_wp2
                  go_roundw
                  case rel => exact ⟨i + 1, l + 1, t ++ [ch V W i], by omega, by go_num, rfl, hR3, HT.out.symm⟩
                  case measure => simp [intOf]; omega
              · have p1 : (0 : Int) < (K : Int) := by omega
                have p2 : ((i : Int) == (W : Int) - (K : Int)) = false := by have := HQ.out; simp; omega
                clear hiq
                by_cases hz : i + m < W
                · have z1 : (i : Int) < (W : Int) - (m : Int) := by omega
                  have HC : Hid (ch V W i = 48) := by show _ = _; unfold ch; rw [dg_zero (lt_pow HM.out.2 hmW).1 (by omega)]
                  have hr1 := hR.own.alloc (.cells #[.int .u8 48] 5)
                  go_wp2_with (at_builtin; refine wpList_appB rfl (.tmp 71) (.tmp 72) rfl w.heap.size bb l t rfl hr1 wr.heap.size 48 rfl (heap_alloc_new _ _) (by omega) ?_)
                  intro w3 hown hgrow
                  have hR3 := (hR.alloc _).app hown hgrow
                  clear hown hgrow hr1 hR
                  go_wp2
                  go_roundw
                  case rel => exact ⟨i + 1, l + 1, t ++ [48], by omega, by go_num, rfl, hR3, by rw [HT.out, HC.out]; rfl⟩
                  case measure => simp [intOf]; omega
                · have z1 : ¬ (i : Int) < (W : Int) - (m : Int) := by omega
                  have hc : wr.cell? ⟨w.heap.size, W - 1 - i, none⟩ = some (.int .u8 ((ch V W i : Nat) : Int)) := hR.dig (W - 1 - i) (by omega)
                  have hr1 := hR.own.alloc (.cells #[.int .u8 ((ch V W i : Nat) : Int)] 5)
                  go_wp2_with (at_builtin; refine wpList_appB rfl (.tmp 74) (.tmp 81) rfl w.heap.size bb l t rfl hr1 wr.heap.size (ch V W i) rfl (heap_alloc_new _ _) (by omega) ?_)
                  intro w3 hown hgrow
                  have hR3 := (hR.alloc _).app hown hgrow
                  clear hown hgrow hr1 hR hc
                  go_wp2
                  go_roundw
                  case rel => exact ⟨i + 1, l + 1, t ++ [ch V W i], by omega, by go_num, rfl, hR3, HT.out.symm⟩
                  case measure => simp [intOf]; omega
          · obtain rfl : i = W := by omega
            have HL : Hid (t.length = l) := hR.len
            have hsm : ∀ x ∈ t, x < 256 := by rw [hT.out]; exact T_small _ _ _ _ _
            have hcell := hR.cell
            have hbel := hR.bel
            have hlt2 : l ≤ 20 := hl
            clear hR
            go_wp2_with (refine wpList_str rfl _ rfl bb l 48 t rfl HL.out hsm hcell ?_)
            intro s hsz hbyte
            have hx : Txt (byte s) V i K q s.size := by
              rw [hsz]
              have := Txt_of (f := byte s) HQ.out hq0 (lt_pow HM.out.2 hmW).2 (by rw [← hT.out]; exact hbyte)
              rw [← hT.out] at this
              exact this
            have hs : s.size ≤ 1048576 := by have := HL.out; omega
            have cD := fun wz => count_txt s V i K q wz hx hs
            have cC := fun wz => coef_txt s V i K q wz hx hs hV
            have cF := fun wz => frac_txt s V i K q wz hx hs
            have HB : Hid (Below w.heap.size w wr) := hbel
            have HD := @id (Hid _) cD
            have HE := @id (Hid _) cC
            have HF := @id (Hid _) cF
            clear cD cC cF hx hsz hbyte hsm hcell hbel hT
            go_wp2_with fail
            refine (HD.out _).mono ?_
            rintro e w2 ⟨rfl, b2⟩
            go_wp2_with fail
            refine (HE.out _).mono ?_
            rintro e w3 ⟨rfl, b3⟩
            go_wp2_with fail
            refine (HF.out _).mono ?_
            rintro e w4 ⟨rfl, rfl⟩
            go_wp2
            go_ret
            have f1 := HB.out.size
            have f2 := b2.size
            exact ⟨by simp, HB.out.trans ((b2.mono f1).trans (b3.mono (by omega)))⟩

theorem render_law (v k : Int) (w : World) (hv : v ≤ 9223372036854775807) :
    Calls Trym.prog 8 #[.int .i64 v, .int .i64 k] w fun e w' => e = .returned (.bool true) ∧ Below w.heap.size w w' := by
  by_cases hv0 : v < 0
  · have d1 : decide (v < 0) = true := decide_eq_true hv0
    go_enter Trym.func8, Trym.ntmps8
    go_wp2
    go_ret
    exact ⟨rfl, Below.refl _ _⟩
  · have d1 : decide (v < 0) = false := decide_eq_false hv0
    by_cases hk0 : k < 0
    · have d2 : decide (k < 0) = true := decide_eq_true hk0
      go_enter Trym.func8, Trym.ntmps8
      go_wp2
      go_ret
      exact ⟨rfl, Below.refl _ _⟩
    · have d2 : decide (k < 0) = false := decide_eq_false hk0
      by_cases hk1 : 18 < k
      · have d3 : decide (18 < k) = true := decide_eq_true hk1
        go_enter Trym.func8, Trym.ntmps8
        go_wp2
        go_ret
        exact ⟨rfl, Below.refl _ _⟩
      · obtain ⟨V, rfl⟩ := Int.eq_ofNat_of_zero_le (show 0 ≤ v by omega)
        obtain ⟨K, rfl⟩ := Int.eq_ofNat_of_zero_le (show 0 ≤ k by omega)
        exact render_main V K w (by omega) (by omega)
end Go.Proofs.Qxb6602879aMods.Dec
