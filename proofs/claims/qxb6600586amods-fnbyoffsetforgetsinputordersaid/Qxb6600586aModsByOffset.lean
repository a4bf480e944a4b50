/-
  THE WALK OF byOffset: the Go text sorts the records by their offsets, stably.
-/
import Derived.Test.Qxb6600586aModsByOffsetParts
import Derived.WalkSpells
import Derived.Deep.QuietTactic
import Derived.BigQuiet
namespace Go.Proofs.Qxb6600586aMods.ByOff
open Go.RowKit Go.Proofs.Qxb6600586aMods.SortPlain Go.Proofs.Qxb6600586aMods.Mem
set_option linter.unusedVariables false

set_option maxHeartbeats 1600000 in
set_option maxRecDepth 100000 in
theorem byOffset_main (rs : List Blk) (ba n : Nat) (w : World) (hn : 2 ≤ n) (hn2 : n ≤ 131072) (hl : Hid (rs.length = n)) (hr : Recs w ba rs) (hf : Fits rs) :
    Calls Trym.prog 15 #[.slice (some ⟨ba, 0, none⟩) n n] w fun e w' => e = .returned (.tuple #[]) ∧ Sorted rs w w' ba := by
  have hnI : (2 : Int) ≤ (n : Int) := by omega
  have hlt := hr.lt
  have h1 := S1_start hl.out hr
  go_enter Trym.func15, Trym.ntmps15
  go_wp2_with (refine wpList_alloc46 rfl rfl ?_)
  go_loopw [22] (fun i wr => ∃ k : Nat, k ≤ n ∧ i = .int .i64 k ∧ S1 rs n w wr ba k 0) (fun i _ => n - (intOf i).toNat)
  case atStart => exact ⟨0, Nat.zero_le _, rfl, h1⟩
  case round =>
    clear h1
    obtain ⟨k, hk, rfl, hS⟩ := hrel
    by_cases hlt : k < n
    · obtain ⟨x, hx⟩ := get_of_lt hS.len hlt
      have HX : Hid (rs[k]? = some x) := hx
      obtain ⟨c0, c1, c2, c3, c4, c5⟩ := hS.recs.six hx
      obtain ⟨ho, ho2⟩ := hf.get hx
      have hba := hS.recs.lt
      clear hx
      go_wp2
      have hS' := hS.alloc (Obj.cells #[Value.int IntKind.u64 x.off, Value.int IntKind.u64 x.n, Value.int IntKind.u64 x.r, Value.bool x.g, Value.int IntKind.u64 x.m, Value.int IntKind.u64 x.t] 27)
      have hp : (wr.alloc (Obj.cells #[Value.int IntKind.u64 x.off, Value.int IntKind.u64 x.n, Value.int IntKind.u64 x.r, Value.bool x.g, Value.int IntKind.u64 x.m, Value.int IntKind.u64 x.t] 27)).cell? ⟨wr.heap.size, 0, none⟩ = some (.int .u64 x.off) := by simp
      have hpw : w.heap.size < wr.heap.size := by obtain ⟨c, hc, _⟩ := hS.cnt; exact hc.lt
      clear c0 c1 c2 c3 c4 c5 hS
      obtain ⟨wo, rfl⟩ : ∃ wo : World, wo = wr := ⟨_, rfl⟩
      go_loopw [26] (fun i wr => ∃ d : Nat, d ≤ 8 ∧ i = .int .i64 d ∧ S1 rs n w wr ba k d ∧ wr.cell? ⟨wo.heap.size, 0, none⟩ = some (.int .u64 x.off)) (fun i _ => 8 - (intOf i).toNat)
      case atStart => exact ⟨0, Nat.zero_le _, rfl, hS', hp⟩
      case round =>
        clear hS' hp
        obtain ⟨d, hd, rfl, hS, hp⟩ := hrel
        by_cases hld : d < 8
        · obtain ⟨q, hq0, hqn, hqc, hqf, hqS⟩ := S1_reads hS x hld
          clear hS
          go_wp2
          go_region
          go_wp2
          go_roundw
          case rel => exact ⟨d + 1, by omega, by go_num, (hqS.out HX.out).drew, by rw [World.cell?_drew, World.cell?_setCell_other _ _ _ _ (fun e => by have := congrArg Addr.block e; simp at this; omega)]; exact hp⟩
          case measure => simp [intOf]; omega
        · obtain rfl : d = 8 := by omega
          go_wp2
          go_roundw
          case rel => exact ⟨k + 1, by omega, by go_num, hS.next⟩
          case measure => simp [intOf]; omega
    · obtain rfl : k = n := by omega
      go_wp2_with (refine wpList_make27 rfl _ _ rfl _ k rfl rfl rfl hn2 ?_)
      intro w1 hr1 hs1 hk1 hb1
      have h3 := S3_start hS hr1 hs1 hk1 hb1
      clear hS hr1 hs1 hk1 hb1
      go_wp2
      go_loopw [0, 7, 47] (fun sa sb i wr => ∃ (d x y : Nat) (cur oth : List Blk), d ≤ 8 ∧ i = .int .i64 d ∧ sa = .slice (some ⟨x, 0, none⟩) k k ∧ sb = .slice (some ⟨y, 0, none⟩) k k ∧ S3 rs k w wr ba x y cur oth d) (fun _ _ i _ => 8 - (intOf i).toNat)
      case atStart => exact ⟨0, _, _, _, _, Nat.zero_le _, rfl, rfl, rfl, h3⟩
      case round =>
        clear h3
        obtain ⟨d, x, y, cur, oth, hd, rfl, rfl, rfl, hS⟩ := hrel
        by_cases hld : d < 8
        · obtain ⟨o, q, ho, ho2, ho3, hq, hq0, hqn, hskip⟩ := S3_reads hS hf hld (by omega)
          by_cases e : q = (k : Int)
          · have hs := hskip.out e
            subst e
            clear hS hskip hq0 hqn
            go_wp2
            go_quiet (fail)
            go_wp2
            go_roundw
            case rel => exact ⟨d + 1, x, y, cur, oth, by omega, by go_num, rfl, rfl, hs.same ⟨rfl, rfl, rfl, rfl⟩⟩
            case measure => simp [intOf]; omega
          · have he : (q == (k : Int)) = false := by simpa using e
            have h4 := S4_start hS hld
            clear e hS hskip
            go_wp2
            go_quiet (fail)
            go_wp2
            have h4' : S4 rs k w (wr.drewN nq) ba x y cur oth d 0 := h4.same ⟨rfl, rfl, rfl, rfl⟩
            clear h4 hq he ho3
            obtain ⟨wo, rfl⟩ : ∃ wo : World, wo = wr := ⟨_, rfl⟩
            go_loopw [10, 68] (fun sm i wr => ∃ (v : Nat), v ≤ 256 ∧ i = .int .i64 v ∧ sm = .int .i64 (beg d cur v : Nat) ∧ S4 rs k w wr ba x y cur oth d v) (fun _ i _ => 256 - (intOf i).toNat)
            case atStart => exact ⟨0, Nat.zero_le _, rfl, rfl, h4'⟩
            case round =>
              clear h4'
              obtain ⟨v, hv, rfl, rfl, hS⟩ := hrel
              by_cases hlv : v < 256
              · obtain ⟨q2, hb, hc, hfr, hbeg, hnext⟩ := S4_reads hS hld hlv
                clear hS
                obtain ⟨sm, hsm⟩ : ∃ sm : Nat, sm = beg d cur v := ⟨_, rfl⟩
                rw [← hsm] at hb ⊢
                rw [← hsm] at hnext hbeg
                have HSM : Hid (sm = beg d cur v) := hsm
                clear hsm
                go_wp2
                go_quiet (fail)
                go_wp2
                go_roundw
                case rel => exact ⟨v + 1, by omega, by go_num, by rw [hbeg.out]; go_num, hnext.out.same ⟨rfl, rfl, rfl, rfl⟩⟩
                case measure => simp [intOf]; omega
              · obtain rfl : v = 256 := by omega
                have h5 := S5_start hS
                clear hS
                go_wp2
                obtain ⟨wo5, rfl⟩ : ∃ wo : World, wo = wr := ⟨_, rfl⟩
                go_loopw [85] (fun i wr => ∃ (j : Nat) (bs : List Blk), j ≤ k ∧ i = .int .i64 j ∧ S5 rs k w wr ba x y cur bs d j) (fun i _ => k - (intOf i).toNat)
                case atStart => exact ⟨0, _, Nat.zero_le _, rfl, h5⟩
                case round =>
                  clear h5
                  obtain ⟨j, bs, hj, rfl, hS⟩ := hrel
                  by_cases hlj : j < k
                  · obtain ⟨p, q3, hp0, hp1, hq3, ⟨c0, c1, c2, c3, c4, c5⟩, hc, hfr, hth, hsz, hszx, hszy, hnext⟩ := S5_reads hS hf hld hlj
                    have hny := hS.ney
                    have hny' : w.heap.size ≠ y := Ne.symm hS.ney
                    obtain ⟨u0, g0⟩ := Option.isSome_iff_exists.1 (hth 0 (by omega)).1
                    obtain ⟨u1, g1⟩ := Option.isSome_iff_exists.1 (hth 1 (by omega)).1
                    obtain ⟨u2, g2⟩ := Option.isSome_iff_exists.1 (hth 2 (by omega)).1
                    obtain ⟨u3, g3⟩ := Option.isSome_iff_exists.1 (hth 3 (by omega)).1
                    obtain ⟨u4, g4⟩ := Option.isSome_iff_exists.1 (hth 4 (by omega)).1
                    obtain ⟨u5, g5⟩ := Option.isSome_iff_exists.1 (hth 5 (by omega)).1
                    have f0 : wr.frozen? ⟨y, q3 * 6, none⟩ = false := (hth 0 (by omega)).2
                    have f1 : wr.frozen? ⟨y, q3 * 6 + 1, none⟩ = false := (hth 1 (by omega)).2
                    have f2 : wr.frozen? ⟨y, q3 * 6 + 1 + 1, none⟩ = false := (hth 2 (by omega)).2
                    have f3 : wr.frozen? ⟨y, q3 * 6 + 1 + 1 + 1, none⟩ = false := (hth 3 (by omega)).2
                    have f4 : wr.frozen? ⟨y, q3 * 6 + 1 + 1 + 1 + 1, none⟩ = false := (hth 4 (by omega)).2
                    have f5 : wr.frozen? ⟨y, q3 * 6 + 1 + 1 + 1 + 1 + 1, none⟩ = false := (hth 5 (by omega)).2
                    have g0' : wr.cell? ⟨y, q3 * 6, none⟩ = some u0 := g0
                    have g1' : wr.cell? ⟨y, q3 * 6 + 1, none⟩ = some u1 := g1
                    have g2' : wr.cell? ⟨y, q3 * 6 + 1 + 1, none⟩ = some u2 := g2
                    have g3' : wr.cell? ⟨y, q3 * 6 + 1 + 1 + 1, none⟩ = some u3 := g3
                    have g4' : wr.cell? ⟨y, q3 * 6 + 1 + 1 + 1 + 1, none⟩ = some u4 := g4
                    have g5' : wr.cell? ⟨y, q3 * 6 + 1 + 1 + 1 + 1 + 1, none⟩ = some u5 := g5
                    clear hS hth g0 g1 g2 g3 g4 g5
                    go_wp2
                    go_region
                    go_wp2
                    go_region
                    go_wp2
                    go_roundw
                    case rel => exact ⟨j + 1, _, by omega, by go_num, S5_fin hnext _⟩
                    case measure => simp [intOf]; omega
                  · obtain rfl : j = k := by omega
                    have h6 := S5_done hS
                    clear hS
                    go_wp2
                    go_roundw
                    case rel => exact ⟨d + 1, y, x, bs, cur, by omega, by go_num, rfl, rfl, h6⟩
                    case measure => simp [intOf]; omega
        · obtain rfl : d = 8 := by omega
          obtain ⟨old, ho1, ho2, ho3, ho4, ho5⟩ := S3_end hS
          have HO : Hid (old.length = k ∧ cur.length = k) := ⟨ho1, ho4⟩
          clear hS ho1 ho4
          go_wp2_with (refine wpList_copy27 rfl _ _ rfl _ _ _ rfl rfl old cur ho2 ho3 HO.out.2 HO.out.1 ?_)
          intro w2 r2 k2
          have h7 := ho5 w2 r2 k2
          clear ho5 ho2 ho3 r2 k2
          go_wp2
          go_end0
          exact ⟨rfl, h7⟩
end Go.Proofs.Qxb6600586aMods.ByOff
