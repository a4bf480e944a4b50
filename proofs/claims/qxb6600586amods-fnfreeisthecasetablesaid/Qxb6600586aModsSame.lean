/-
  zzSame, BY ITS CONTRACT: two slices that hold the same numbers. And four slices that a call owns, appended to one by one.
-/
import Derived.Test.Qxb6600586aModsZZfree
import Derived.Deep.QuietTactic
import Derived.BigQuiet
namespace Go.Proofs.Qxb6600586aMods.Free
open Go.RowKit Go.Proofs.Qxb6600586aMods.FreePlain
set_option linter.unusedVariables false

theorem same_any (zs : List Int) (vx vy : Value) (wa wb w : World) (hl : zs.length ≤ 1000) (hx : Sl wa w vx zs) (hy : Sl wb w vy zs) :
    Calls Trym.prog 14 #[vx, vy] w fun e w' => e = .returned (.bool true) ∧ ∃ q, w.drewN q = w' := by
  obtain ⟨ax, cx, rfl, sx⟩ := hx
  obtain ⟨ay, cy, rfl, sy⟩ := hy
  have HX : Hid (∀ (i : Nat) (z : Int), zs[i]? = some z → ∃ g, ax = some ⟨g, 0, none⟩ ∧ wa.heap.size ≤ g ∧ g < w.heap.size ∧ w.cell? ⟨g, i, none⟩ = some (.int .u64 z)) := sx
  have HY : Hid (∀ (i : Nat) (z : Int), zs[i]? = some z → ∃ g, ay = some ⟨g, 0, none⟩ ∧ wb.heap.size ≤ g ∧ g < w.heap.size ∧ w.cell? ⟨g, i, none⟩ = some (.int .u64 z)) := sy
  obtain ⟨n, hn⟩ : ∃ n, n = zs.length := ⟨_, rfl⟩
  rw [← hn] at hl ⊢
  have HN : Hid (n = zs.length) := hn
  clear sx sy hn
  go_enter Trym.func14, Trym.ntmps14
  go_wp2
  go_loopw [5] (fun i wr => ∃ k : Nat, k ≤ n ∧ i = .int .i64 k ∧ ∃ q, Hid (wr = w.drewN q)) (fun i _ => n - (intOf i).toNat)
  case atStart => exact ⟨0, Nat.zero_le _, rfl, 0, rfl⟩
  case round =>
    obtain ⟨k, hk, rfl, q, hq⟩ := hrel
    obtain rfl := hq.out
    by_cases hlt : k < n
    · have hz : zs[k]? = some (zs[k]'(by have := HN.out; omega)) := List.getElem?_eq_getElem _
      obtain ⟨z, hz'⟩ : ∃ z, zs[k]? = some z := ⟨_, hz⟩
      obtain ⟨gx, hax, _, _, c1⟩ := HX.out k z hz'
      obtain ⟨gy, hay, _, _, c2⟩ := HY.out k z hz'
      clear hz hz' hq
      subst hax
      subst hay
      go_wp2
      go_quiet (fail)
      go_wp2
      go_roundw
      case rel => exact ⟨k + 1, by omega, by go_num, q + nq, rfl⟩
      case measure => simp [intOf]; omega
    · clear hq
      go_wp2
      go_ret
      exact ⟨rfl, q, rfl⟩

/-! ### Four slices, appended to one by one -/
structure Ws (w wr : World) (l : List (Value × List Int)) : Prop where
  own : ∀ (i : Nat) (p : Value × List Int), l[i]? = some p → wr.ownsRow w.heap.size 25 1 p.1 p.2.length (nums p.2)
  ap : ∀ (i j : Nat) (p q : Value × List Int), i ≠ j → l[i]? = some p → l[j]? = some q → ∀ g, p.1.ownBlock = some g → q.1.ownBlock ≠ some g
  bel : Below w.heap.size w wr
theorem Ws_start (w : World) : Ws w w [(.slice none 0 0, []), (.slice none 0 0, []), (.slice none 0 0, []), (.slice none 0 0, [])] := by
  have h : ∀ (i : Nat) (p : Value × List Int), ([(.slice none 0 0, []), (.slice none 0 0, []), (.slice none 0 0, []), (.slice none 0 0, [])] : List (Value × List Int))[i]? = some p → p = (.slice none 0 0, []) := by
    intro i p hp
    match i, hp with
    | 0, hp => exact (Option.some.inj hp).symm
    | 1, hp => exact (Option.some.inj hp).symm
    | 2, hp => exact (Option.some.inj hp).symm
    | 3, hp => exact (Option.some.inj hp).symm
  refine ⟨fun i p hp => ?_, fun i j p q _ hp hq g hg => ?_, Below.refl _ _⟩
  · rw [h i p hp]; exact World.ownsRow_nil _ _ _ _
  · rw [h i p hp] at hg; simp [Value.ownBlock] at hg
theorem Ws.alloc {w wr : World} {l : List (Value × List Int)} (h : Ws w wr l) (o : Obj) : Ws w (wr.alloc o) l := ⟨fun i p hp => (h.own i p hp).alloc o, h.ap, h.bel.alloc h.bel.size o⟩
theorem Ws.app {w wr w1 : World} {l : List (Value × List Int)} (h : Ws w wr l) (i : Nat) {v : Value} {zs : List Int} (hi : l[i]? = some (v, zs)) {g cap : Nat} {z : Int}
    (hown : w1.ownsRow w.heap.size 25 1 (.slice (some ⟨g, 0, none⟩) (zs.length + 1) cap) (zs.length + 1) (nums (zs ++ [z]))) (hgrow : wr.grownBy w1 v.ownBlock) {H : Nat} (hH : wr.heap.size ≤ H) (hat : v.ownBlock = some g ∨ g = H) :
    Ws w w1 (l.set i (.slice (some ⟨g, 0, none⟩) (zs.length + 1) cap, zs ++ [z])) := by
  have hil : i < l.length := (List.getElem?_eq_some_iff.1 hi).1
  have other : ∀ (j : Nat) (q : Value × List Int), j ≠ i → l[j]? = some q → ∀ k, q.1.ownBlock = some k → k ≠ g := by
    intro j q hj hq k hk e
    subst e
    rcases hat with e | e
    · exact h.ap j i q _ hj hq hi k hk e
    · have := ((h.own j q hq).lt _ hk).2; omega
  refine ⟨fun j q hq => ?_, fun j k p q hjk hp hq b hb => ?_, h.bel.grown hgrow h.bel.size (fun k hk => ((h.own i _ hi).lt k hk).1)⟩
  · by_cases e : j = i
    · subst e
      rw [List.getElem?_set_self hil] at hq
      obtain rfl := Option.some.inj hq
      simpa using hown
    · rw [List.getElem?_set_ne (by omega)] at hq
      refine (h.own j q hq).kept hgrow ?_
      cases hv : q.1.ownBlock with
      | none => exact .inl rfl
      | some k => exact .inr (fun e2 => h.ap j i q _ e hq hi k hv e2.symm)
  · by_cases ej : j = i
    · subst ej
      rw [List.getElem?_set_self hil] at hp
      obtain rfl := Option.some.inj hp
      rw [List.getElem?_set_ne (by omega)] at hq
      intro hk
      have e : b = g := by simpa [Value.ownBlock] using hb.symm
      exact other k q (by omega) hq b hk e
    · rw [List.getElem?_set_ne (by omega)] at hp
      by_cases ek : k = i
      · subst ek
        rw [List.getElem?_set_self hil] at hq
        obtain rfl := Option.some.inj hq
        intro hk
        have e : b = g := by simpa [Value.ownBlock] using hk.symm
        exact other j p (by omega) hp b hb e
      · rw [List.getElem?_set_ne (by omega)] at hq
        exact h.ap j k p q hjk hp hq b hb
theorem Ws.sl {w wr : World} {l : List (Value × List Int)} (h : Ws w wr l) (i : Nat) {v : Value} {zs : List Int} (hi : l[i]? = some (v, zs)) : Sl w wr v zs := Sl_of (h.own i _ hi)
theorem Sl.drewN {w wr : World} {v : Value} {zs : List Int} (h : Sl w wr v zs) (q : Nat) : Sl w (wr.drewN q) v zs := h
end Go.Proofs.Qxb6600586aMods.Free
