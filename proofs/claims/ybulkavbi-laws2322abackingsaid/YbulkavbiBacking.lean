/-
  backing: the plain function and the walk.
-/
import Derived.Test.YbulkavbiStrandWalk
namespace Go.Proofs.Ybulkavbi
open Go Go.RowKit

def cut (v : Vals) (x : Nums) (K : Nat → Bool) (i : Nat) : Bool := !v.C i && K (v.R i) && decide (v.H i - x.mc ≤ x.fh)

/-- The stake that backs, behind the first i. -/
def bk (v : Vals) (x : Nums) (K : Nat → Bool) : Nat → Int
  | 0 => x.run
  | i + 1 => if cut v x K i = true then wrap64 (bk v x K i - v.S i) else bk v x K i

theorem bk_congr {v : Vals} {x : Nums} {K K' : Nat → Bool} (h : ∀ r, K r = K' r) : ∀ i, bk v x K i = bk v x K' i
  | 0 => rfl
  | i + 1 => by
    unfold bk
    rw [bk_congr h i]
    unfold cut
    rw [h]

set_option maxRecDepth 100000 in
set_option maxHeartbeats 2000000 in
theorem backing_any {w : World} {p : At} {v : Vals} {x : Nums} {K : Nat → Bool} (hv : v.Ok) (hx : (-9223372036854775808 ≤ x.run ∧ x.run ≤ 9223372036854775807) ∧ (-2147483648 ≤ x.mc ∧ x.mc ≤ 2147483647))
    (hE : Env w p v x K) (hK : ∀ r, K r = true → fin v x.q r = true) (B : Nat) (hB0 : B ≤ w.heap.size) (hBQ : ∀ j, j < 4 → B ≤ p.Q j) :
    Calls Yba.prog 7 #[.pointer (some ⟨p.d, 0, none⟩)] w fun e w' => e = .returned (.int .i64 (bk v x (fin v x.q) v.n)) ∧ (∃ K', Env w' p v x K' ∧ ∀ r, K' r = fin v x.q r) ∧ Below B w w' := by
  have hn := hv.n
  have hmc := hx.2
  go_enter Yba.func7, Yba.ntmps7
  go_wp2_with fail
  refine (strand_any hv hE hK B hB0 hBQ).mono ?_
  rintro e w1 ⟨rfl, ⟨K', hE1, hK1⟩, hB1⟩
  have d0 := hE1.d0
  have d4 := hE1.d4
  have e5 := hE1.e5
  go_wp2_with fail
  go_loopw [4, 23] (fun bv iv wr => ∃ i : Nat, i ≤ v.n ∧ iv = .int .i64 i ∧ bv = .int .i64 (bk v x K' i) ∧ Below w1.heap.size w1 wr) (fun _ iv _ => v.n - (intOf iv).toNat)
  case atStart => exact ⟨0, by omega, rfl, rfl, Below.refl _ _⟩
  case round =>
    obtain ⟨i, hi, rfl, rfl, hB2⟩ := hrel
    rename World => w2
    have hE2 := hE1.below hB2
    by_cases hlt : i < v.n
    · have e3 := hE2.e3
      have e0 := hE2.e0
      have e53 := hE2.e53
      have s6 := hE2.s6
      have f0 := hE2.f0
      have h0 := hE2.h0 i hlt
      have a0 := hE2.a0 i hlt
      have a1 := hE2.a1 i hlt
      have a2 := hE2.a2 i hlt
      have a3 := hE2.a3 i hlt
      have a4 := hE2.a4 i hlt
      have a5 := hE2.a5 i hlt
      have v0 := hE2.v0 i hlt
      have v1 := hE2.v1 i hlt
      have v2 := hE2.v2 i hlt
      have v3 := hE2.v3 i hlt
      have v4 := hE2.v4 i hlt
      have v5 := hE2.v5 i hlt
      have v6 := hE2.v6 i hlt
      have k := hE2.k (v.R i) (hv.R i)
      have hR4 := hv.R i
      have hH := hv.H i
      have hS := hv.S i
      have l1 : p.f < w2.heap.size := cell_lt f0
      have l2 : p.e < w2.heap.size := cell_lt e3
      have l3 : p.V < w2.heap.size := cell_lt v3
      have l4 : p.Q (v.R i) < w2.heap.size := cell_lt k
      have l5 : p.sc < w2.heap.size := cell_lt s6
      have l6 : p.hd i < w2.heap.size := cell_lt h0
      have Hs : Hid (bk v x K' (i + 1) = if cut v x K' i = true then wrap64 (bk v x K' i - v.S i) else bk v x K' i) := show _ = _ from rfl
      generalize hmm : bk v x K' i = m at Hs
      clear hmm
      go_light
      cases hC : v.C i
      · rw [hC] at v3
        cases hk : K' (v.R i)
        · rw [hk] at k
          have Hx : Hid (bk v x K' (i + 1) = m) := by show _ = _; rw [Hs.out, cut, hC, hk]; rfl
          go_wp2_with fail
          go_quiet (fail)
          go_wp2_with fail
          go_roundw
          case rel => exact ⟨i + 1, by omega, by go_num, by rw [Hx.out], below_drewN ((hB2.alloc hB2.size _).alloc (by simp; exact Nat.le_succ_of_le hB2.size) _) _⟩
          case measure => simp [intOf]; omega
        · rw [hk] at k
          by_cases hm1 : v.H i - x.mc ≤ x.fh
          · have hd2 : decide (v.H i - x.mc ≤ x.fh) = true := by simpa using hm1
            have Hx : Hid (bk v x K' (i + 1) = wrap64 (m - v.S i)) := by show _ = _; rw [Hs.out, cut, hC, hk, hd2]; rfl
            clear hm1
            go_wp2_with fail
            go_quiet (fail)
            go_wp2_with fail
            go_roundw
            case rel => exact ⟨i + 1, by omega, by go_num, by rw [Hx.out], below_drewN ((hB2.alloc hB2.size _).alloc (by simp; exact Nat.le_succ_of_le hB2.size) _) _⟩
            case measure => simp [intOf]; omega
          · have hd2 : decide (v.H i - x.mc ≤ x.fh) = false := by simpa using hm1
            have Hx : Hid (bk v x K' (i + 1) = m) := by show _ = _; rw [Hs.out, cut, hC, hk, hd2]; rfl
            clear hm1
            go_wp2_with fail
            go_quiet (fail)
            go_wp2_with fail
            go_roundw
            case rel => exact ⟨i + 1, by omega, by go_num, by rw [Hx.out], below_drewN ((hB2.alloc hB2.size _).alloc (by simp; exact Nat.le_succ_of_le hB2.size) _) _⟩
            case measure => simp [intOf]; omega
      · rw [hC] at v3
        have Hx : Hid (bk v x K' (i + 1) = m) := by show _ = _; rw [Hs.out, cut, hC]; rfl
        go_wp2_with fail
        go_quiet (fail)
        go_wp2_with fail
        go_roundw
        case rel => exact ⟨i + 1, by omega, by go_num, by rw [Hx.out], below_drewN ((hB2.alloc hB2.size _).alloc (by simp; exact Nat.le_succ_of_le hB2.size) _) _⟩
        case measure => simp [intOf]; omega
    · have hdn : decide ((i : Int) < (v.n : Int)) = false := by simp; omega
      have Hin : Hid (i = v.n) := by show i = v.n; omega
      go_wp2_with fail
      go_ret
      refine ⟨by rw [Hin.out, bk_congr hK1]; rfl, ⟨K', hE2, hK1⟩, hB1.trans (hB2.mono (Nat.le_trans hB0 hB1.size))⟩

end Go.Proofs.Ybulkavbi
