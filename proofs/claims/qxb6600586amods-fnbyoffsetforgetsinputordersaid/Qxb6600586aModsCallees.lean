/-
  THE CONTRACTS OF THE FUNCTIONS THAT THE TWO byOffset LAWS CALL.
-/
import Derived.Test.Qxb6600586aModsByOffset
namespace Go.Proofs.Qxb6600586aMods.ByOff
open Go.RowKit Go.Proofs.Qxb6600586aMods.SortPlain Go.Proofs.Qxb6600586aMods.Mem
set_option linter.unusedVariables false

theorem sorted_short {rs : List Blk} {n : Nat} {w : World} {ba : Nat} (hl : rs.length = n) (hn : n < 2) (hr : Recs w ba rs) : Sorted rs w w ba := by
  refine ⟨⟨rs, hr, List.Perm.refl _, fun _ => ?_⟩, Kept.refl _ _⟩
  match rs, hl with
  | [], _ => exact List.Pairwise.nil
  | [x], _ => exact List.pairwise_singleton _ _
  | _ :: _ :: _, hl => simp at hl; omega

theorem byOffset_any (rs : List Blk) (ba n : Nat) (w : World) (hn2 : n ≤ 131072) (hl : Hid (rs.length = n)) (hr : Recs w ba rs) (hf : Fits rs) :
    Calls Trym.prog 15 #[.slice (some ⟨ba, 0, none⟩) n n] w fun e w' => e = .returned (.tuple #[]) ∧ Sorted rs w w' ba := by
  by_cases hn : 2 ≤ n
  · exact byOffset_main rs ba n w hn hn2 hl hr hf
  · have hs := sorted_short hl.out (by omega) hr
    have hnI : (n : Int) < 2 := by omega
    go_enter Trym.func15, Trym.ntmps15
    go_wp2
    exact bodyPost_ret (v := .tuple #[]) (results_none rfl _ _ _) rfl ⟨rfl, hs⟩

theorem zzByOffset_any (rs : List Blk) (ba n : Nat) (w : World) (hn2 : n ≤ 131072) (hl : Hid (rs.length = n)) (hr : Recs w ba rs) (hf : Fits rs) :
    Calls Trym.prog 10 #[.slice (some ⟨ba, 0, none⟩) n n] w fun e w' => e = .returned (.tuple #[]) ∧ Sorted rs w w' ba := by
  go_enter Trym.func10, Trym.ntmps10
  go_wp2_with (go_at_call 15; refine (byOffset_any rs ba n _ hn2 hl hr hf).mono ?_; rintro e w' ⟨rfl, hs⟩)
  go_end0
  exact ⟨rfl, by assumption⟩

/-! ### zzBytes: does the length fit? -/
theorem bytes8 (a : Option Addr) (len cap : Nat) (w : World) (h : len ≤ 9223372036854775807) :
    Calls Trym.prog 8 #[.slice a len cap] w fun e w' => e = .returned (.bool (decide ((len : Int) ≤ 1048576))) ∧ w = w' := by
  by_cases hl : (len : Int) ≤ 1048576
  · go_enter Trym.func8, Trym.ntmps8
    go_wp2
    go_ret
    exact ⟨by simp [hl], rfl⟩
  · go_enter Trym.func8, Trym.ntmps8
    go_wp2
    go_ret
    exact ⟨by simp [hl], rfl⟩
theorem bytes12 (a : Option Addr) (len cap : Nat) (w : World) (h : len ≤ 9223372036854775807) :
    Calls Trym.prog 12 #[.slice a len cap] w fun e w' => e = .returned (.bool (decide ((len : Int) ≤ 1048576))) ∧ w = w' := by
  by_cases hl : (len : Int) ≤ 1048576
  · go_enter Trym.func12, Trym.ntmps12
    go_wp2
    go_ret
    exact ⟨by simp [hl], rfl⟩
  · go_enter Trym.func12, Trym.ntmps12
    go_wp2
    go_ret
    exact ⟨by simp [hl], rfl⟩

/-! ### zzBlock -/
/-- The record that the laws lay at place i with offset o. -/
def zb (o : Int) (i : Nat) : Blk := ⟨o, bits BinOp.xor IntKind.u64 IntKind.u64.max i, i, (i : Int) % 2 == 1, 3 * i + 1, bits BinOp.xor IntKind.u64 o (i * 128)⟩
def boxed (x : Blk) : Obj := .cells #[.int .u64 x.off, .int .u64 x.n, .int .u64 x.r, .bool x.g, .int .u64 x.m, .int .u64 x.t] 27
theorem zzBlock_any (o : Int) (i : Nat) (w : World) (ho : 0 ≤ o) (ho2 : o ≤ 18446744073709551615) (hi2 : i ≤ 131072) :
    Calls Trym.prog 9 #[.int .u64 o, .int .i64 i] w fun e w' =>
      e = .returned (.agg #[.int .u64 o, .int .u64 (zb o i).n, .int .u64 (i : Int), .bool (zb o i).g, .int .u64 (zb o i).m, .int .u64 (zb o i).t]) ∧ w' = w.alloc (boxed (zb o i)) := by
  go_enter Trym.func9, Trym.ntmps9
  go_wp2
  exact bodyPost_ret (v := .agg #[.int .u64 o, .int .u64 (zb o i).n, .int .u64 (i : Int), .bool (zb o i).g, .int .u64 (zb o i).m, .int .u64 (zb o i).t]) (by simp [results, Trym.results9, go_sem, zb]) rfl ⟨rfl, rfl⟩
end Go.Proofs.Qxb6600586aMods.ByOff
