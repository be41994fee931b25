/-
  The leaves: zzs2322around, zzs2322astake, round, stuckAt.
-/
import Derived.Test.YbulkavbiEnv
import Derived.Deep.QuietTactic
import Derived.BigQuiet
import Derived.Deep.Light
import Derived.WalkSmall
import Derived.Laws.IdiomRangeMap
namespace Go.Proofs.Ybulkavbi
open Go Go.RowKit

theorem around_any (s : Int) (c : Bool) (r h : Int) (w : World) (hr : 0 ≤ r ∧ r ≤ 255) :
    Calls Yba.prog 5 #[.agg #[.int .u32 s, .bool c, .int .u8 r, .int .i32 h]] w fun e w' => e = .returned (.int .i64 (r % 4 + 1)) ∧ w' = w.alloc (.cells #[.int .u32 s, .bool c, .int .u8 r, .int .i32 h] 32) := by
  go_enter Yba.func5, Yba.ntmps5
  go_wp2
  go_ret
  exact ⟨by congr 2 <;> omega, rfl⟩

theorem astake_any (s : Int) (c : Bool) (r h : Int) (w : World) (hs : 0 ≤ s ∧ s ≤ 4294967295) :
    Calls Yba.prog 6 #[.agg #[.int .u32 s, .bool c, .int .u8 r, .int .i32 h]] w fun e w' => e = .returned (.int .i64 (s % 1048576)) ∧ w' = w.alloc (.cells #[.int .u32 s, .bool c, .int .u8 r, .int .i32 h] 32) := by
  go_enter Yba.func6, Yba.ntmps6
  go_wp2
  go_ret
  exact ⟨by congr 2 <;> omega, rfl⟩

theorem round_any {w : World} {p : At} {v : Vals} {x : Nums} {K : Nat → Bool} (hE : Env w p v x K) (r : Nat) (hr : r < 4) :
    Calls Yba.prog 17 #[.pointer (some ⟨p.d, 0, none⟩), .int .i64 ((r : Int) + 1)] w fun e w' => e = .returned (.pointer (some ⟨p.Q r, 0, none⟩)) ∧ Below w.heap.size w w' := by
  have d5 := hE.d5
  have d6 := hE.d6
  have hQ := hE.r r hr
  have hd1 : decide ((r : Int) + 1 < 1) = false := by simp; omega
  have hd2 : decide ((5 : Int) ≤ (r : Int) + 1) = false := by simp; omega
  go_enter Yba.func17, Yba.ntmps17
  go_wp2_with fail
  go_loopw [] (fun wr => Below w.heap.size w wr) (fun _ => 0)
  case atStart => exact Below.refl _ _
  case round =>
    rename World => w1
    have hE1 := hE.below hrel
    have d5 := hE1.d5
    have d6 := hE1.d6
    have hQ := hE1.r r hr
    go_wp2_with fail
    go_quiet (fail)
    go_wp2_with fail
    go_quiet (fail)
    go_wp2_with fail
    go_ret
    exact ⟨rfl, below_drewN (below_drewN hrel _) _⟩

set_option maxRecDepth 100000 in
theorem stuckAt_any {w : World} {p : At} {v : Vals} {x : Nums} {K : Nat → Bool} (hv : v.Ok) (hE : Env w p v x K) (r : Nat) :
    Calls Yba.prog 16 #[.pointer (some ⟨p.d, 0, none⟩), .int .i64 ((r : Int) + 1)] w fun e w' => e = .returned (.bool (decide (sr v r v.n < x.q))) ∧ Below w.heap.size w w' := by
  have d4 := hE.d4
  have hn := hv.n
  go_enter Yba.func16, Yba.ntmps16
  go_wp2_with fail
  go_loopw [5, 17] (fun sv iv wr => ∃ i : Nat, i ≤ v.n ∧ iv = .int .i64 i ∧ sv = .int .i64 (sr v r i) ∧ Below w.heap.size w wr) (fun _ iv _ => v.n - (intOf iv).toNat)
  case atStart => exact ⟨0, by omega, rfl, rfl, Below.refl _ _⟩
  case round =>
    obtain ⟨i, hi, rfl, rfl, hB⟩ := hrel
    rename World => w1
    have hE1 := hE.below hB
    by_cases hlt : i < v.n
    · have d0 := hE1.d0
      have e3 := hE1.e3
      have a0 := hE1.a0 i hlt
      have a1 := hE1.a1 i hlt
      have a2 := hE1.a2 i hlt
      have a3 := hE1.a3 i hlt
      have a4 := hE1.a4 i hlt
      have a5 := hE1.a5 i hlt
      have v1 := hE1.v1 i hlt
      have v3 := hE1.v3 i hlt
      have l1 : p.d < w1.heap.size := cell_lt d0
      have l2 : p.e < w1.heap.size := cell_lt e3
      have l3 : p.V < w1.heap.size := cell_lt v1
      have hs := sr_range hv r i
      have hS := hv.S i
      go_light
      by_cases hg : (!v.C i && decide (v.R i = r)) = true
      · have hC : v.C i = false := by revert hg; cases v.C i <;> simp
        have hR : v.R i = r := by revert hg; cases v.C i <;> simp
        have hnx : sr v r (i + 1) = sr v r i + v.S i := by rw [sr, if_pos hg]
        rw [hC] at v3
        rw [hR] at a0
        go_wp2_with fail
        go_roundw
        case rel => exact ⟨i + 1, by omega, by go_num, by rw [hnx], hB.alloc hB.size _⟩
        case measure => simp [intOf]; omega
      · have hnx : sr v r (i + 1) = sr v r i := by rw [sr, if_neg hg]
        cases hC : v.C i
        · have hR : ((v.R i : Int) + 1 == (r : Int) + 1) = false := by rw [hC] at hg; simp at hg ⊢; omega
          rw [hC] at v3
          go_wp2_with fail
          go_roundw
          case rel => exact ⟨i + 1, by omega, by go_num, by rw [hnx], hB.alloc hB.size _⟩
          case measure => simp [intOf]; omega
        · rw [hC] at v3
          go_wp2_with fail
          go_roundw
          case rel => exact ⟨i + 1, by omega, by go_num, by rw [hnx], hB.alloc hB.size _⟩
          case measure => simp [intOf]; omega
    · have hdn : decide ((i : Int) < (v.n : Int)) = false := by simp; omega
      have hin : i = v.n := by omega
      have d2 := hE1.d2
      have d3 := hE1.d3
      by_cases hq : sr v r v.n < x.q
      rotate_left
      · have hq' : decide (x.q ≤ sr v r i) = true := by rw [hin]; simp; omega
        have Hq : Hid (decide (sr v r v.n < x.q) = false) := by show _ = _; simp; omega
        clear hin hq
        go_wp2_with fail
        go_ret
        exact ⟨by rw [Hq.out]; rfl, hB⟩
      · have hq' : decide (x.q ≤ sr v r i) = false := by rw [hin]; simp; omega
        have Hq : Hid (decide (sr v r v.n < x.q) = true) := by show _ = _; simp; omega
        clear hin hq
        have hrg := run_range_nilMap (P := Yba.prog) w1 102 34 117 Yba.underlying102
        have hnx := run_next_nilMap (P := Yba.prog) w1
        go_wp2_with fail
        refine wp_loop_rounds 1 ?_
        rw [rounds_succ]
        go_wp2_with fail
        go_ret
        exact ⟨by rw [Hq.out]; rfl, hB.alloc hB.size _⟩

end Go.Proofs.Ybulkavbi
