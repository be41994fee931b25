/-
  strand's walk.
-/
import Derived.Test.YbulkavbiStrand
namespace Go.Proofs.Ybulkavbi
open Go Go.RowKit

/-- What the world holds in a round's mark. -/
def readK (p : At) (w : World) (j : Nat) : Bool := match w.cell? ⟨p.Q j, 3, none⟩ with | some (.bool b) => b | _ => false

theorem Env.readK {w : World} {p : At} {v : Vals} {x : Nums} {K : Nat → Bool} (h : Env w p v x K) {j : Nat} (hj : j < 4) : Ybulkavbi.readK p w j = K j := by
  unfold Ybulkavbi.readK
  rw [h.k j hj]

theorem left_readK {w : World} {p : At} {v : Vals} {x : Nums} {K : Nat → Bool} (h : Env w p v x K) : left (readK p w) = left K := by
  unfold left
  rw [h.readK (j := 0) (by omega), h.readK (j := 1) (by omega), h.readK (j := 2) (by omega), h.readK (j := 3) (by omega)]

theorem mn_range {v : Vals} (hv : v.Ok) (K : Nat → Bool) (i : Nat) : -1 ≤ mn v K i ∧ mn v K i ≤ 4 := by
  rcases mn_spec v K i with ⟨h, _⟩ | ⟨r, h, _, ⟨j, _, _, e⟩, _⟩
  · omega
  · have := hv.R j
    omega

theorem mn_succ (v : Vals) (K : Nat → Bool) (i : Nat) : mn v K (i + 1) = if (!v.C i && !K (v.R i) && (decide (mn v K i < 0) || decide (((v.R i : Int) + 1) < mn v K i))) = true then (v.R i : Int) + 1 else mn v K i := rfl

set_option maxRecDepth 100000 in
set_option maxHeartbeats 2000000 in
theorem strand_any {w : World} {p : At} {v : Vals} {x : Nums} {K : Nat → Bool} (hv : v.Ok) (hE : Env w p v x K) (hK : ∀ r, K r = true → fin v x.q r = true) (B : Nat) (hB0 : B ≤ w.heap.size) (hBQ : ∀ j, j < 4 → B ≤ p.Q j) :
    Calls Yba.prog 11 #[.pointer (some ⟨p.d, 0, none⟩)] w fun e w' => e = .returned (.tuple #[]) ∧ (∃ K', Env w' p v x K' ∧ ∀ r, K' r = fin v x.q r) ∧ Below B w w' := by
  have hn := hv.n
  go_enter Yba.func11, Yba.ntmps11
  go_wp2_with fail
  go_loopw [] (fun wr => ∃ K' : Nat → Bool, Env wr p v x K' ∧ (∀ r, K' r = true → fin v x.q r = true) ∧ Below B w wr) (fun wr => left (readK p wr))
  case atStart => exact ⟨K, hE, hK, Below.refl _ _⟩
  case round =>
    obtain ⟨K', hE1, hK1, hB1⟩ := hrel
    rename World => w1
    have d4 := hE1.d4
    have Hleft : Hid (left (readK p w1) = left K') := left_readK hE1
    go_wp2_with fail
    go_loopw [2, 10] (fun rv iv wr => ∃ i : Nat, i ≤ v.n ∧ iv = .int .i64 i ∧ rv = .int .i64 (mn v K' i) ∧ Below w1.heap.size w1 wr) (fun _ iv _ => v.n - (intOf iv).toNat)
    case atStart => exact ⟨0, by omega, rfl, rfl, Below.refl _ _⟩
    case round =>
      obtain ⟨i, hi, rfl, rfl, hB2⟩ := hrel
      rename World => w2
      have hE2 := hE1.below hB2
      have hm := mn_range hv K' i
      by_cases hlt : i < v.n
      · have d0 := hE2.d0
        have e3 := hE2.e3
        have a0 := hE2.a0 i hlt
        have a1 := hE2.a1 i hlt
        have a2 := hE2.a2 i hlt
        have a3 := hE2.a3 i hlt
        have a4 := hE2.a4 i hlt
        have a5 := hE2.a5 i hlt
        have v3 := hE2.v3 i hlt
        have k := hE2.k (v.R i) (hv.R i)
        have hR4 := hv.R i
        have l1 : p.d < w2.heap.size := cell_lt d0
        have l2 : p.e < w2.heap.size := cell_lt e3
        have l3 : p.V < w2.heap.size := cell_lt v3
        have l4 : p.Q (v.R i) < w2.heap.size := cell_lt k
        have Hs : Hid (mn v K' (i + 1) = if (!v.C i && !K' (v.R i) && (decide (mn v K' i < 0) || decide (((v.R i : Int) + 1) < mn v K' i))) = true then (v.R i : Int) + 1 else mn v K' i) := mn_succ v K' i
        generalize hmm : mn v K' i = m at hm Hs
        clear hmm
        go_light
        cases hC : v.C i
        · rw [hC] at v3
          cases hk : K' (v.R i)
          · rw [hk] at k
            by_cases hm0 : m < 0
            · have hd1 : decide (m < 0) = true := by simpa using hm0
              have Hx : Hid (mn v K' (i + 1) = (v.R i : Int) + 1) := by show _ = _; rw [Hs.out, hC, hk, hd1]; rfl
              clear hm0
              go_wp2_with fail
              go_roundw
              case rel => exact ⟨i + 1, by omega, by go_num, by rw [Hx.out], hB2.alloc hB2.size _⟩
              case measure => simp [intOf]; omega
            · have hd1 : decide (m < 0) = false := by simpa using hm0
              by_cases hm1 : ((v.R i : Int) + 1) < m
              · have hd2 : decide (((v.R i : Int) + 1) < m) = true := by simpa using hm1
                have Hx : Hid (mn v K' (i + 1) = (v.R i : Int) + 1) := by show _ = _; rw [Hs.out, hC, hk, hd1, hd2]; rfl
                clear hm0 hm1
                go_wp2_with fail
                go_roundw
                case rel => exact ⟨i + 1, by omega, by go_num, by rw [Hx.out], hB2.alloc hB2.size _⟩
                case measure => simp [intOf]; omega
              · have hd2 : decide (((v.R i : Int) + 1) < m) = false := by simpa using hm1
                have Hx : Hid (mn v K' (i + 1) = m) := by show _ = _; rw [Hs.out, hC, hk, hd1, hd2]; rfl
                clear hm0 hm1
                go_wp2_with fail
                go_roundw
                case rel => exact ⟨i + 1, by omega, by go_num, by rw [Hx.out], hB2.alloc hB2.size _⟩
                case measure => simp [intOf]; omega
          · rw [hk] at k
            have Hx : Hid (mn v K' (i + 1) = m) := by show _ = _; rw [Hs.out, hC, hk]; rfl
            go_wp2_with fail
            go_roundw
            case rel => exact ⟨i + 1, by omega, by go_num, by rw [Hx.out], hB2.alloc hB2.size _⟩
            case measure => simp [intOf]; omega
        · rw [hC] at v3
          have Hx : Hid (mn v K' (i + 1) = m) := by show _ = _; rw [Hs.out, hC]; rfl
          go_wp2_with fail
          go_roundw
          case rel => exact ⟨i + 1, by omega, by go_num, by rw [Hx.out], hB2.alloc hB2.size _⟩
          case measure => simp [intOf]; omega
      · have hdn : decide ((i : Int) < (v.n : Int)) = false := by simp; omega
        have Hin : Hid (i = v.n) := by show i = v.n; omega
        have hB12 : Below B w w2 := hB1.trans (hB2.mono (Nat.le_trans hB0 hB1.size))
        rcases mn_spec v K' i with ⟨h1, _⟩ | ⟨r, h1, h2, ⟨j0, _, _, e0⟩, _⟩
        · have Hfin : Hid (∀ r, K' r = fin v x.q r) := pick_none hK1 (by rw [← Hin.out]; exact h1)
          rw [h1]
          go_wp2_with fail
          refine bodyPost_ret (results_none rfl _ _ _) rfl ?_
          exact ⟨rfl, ⟨K', hE2, Hfin.out⟩, hB12⟩
        · have hr4 : r < 4 := by have := hv.R j0; omega
          have hd0 : decide ((r : Int) + 1 < 0) = false := by simp; omega
          have Hst := stuckAt_any hv hE2 r
          rw [h1]
          have h1n : mn v K' v.n = (r : Int) + 1 := by rw [← Hin.out]; exact h1
          by_cases hs : sr v r v.n < x.q
          · have Hon : Hid (fin v x.q r = true) := pick_on hK1 h1n hs
            have hsd : decide (sr v r v.n < x.q) = true := by simpa using hs
            rw [hsd] at Hst
            clear h1n hs hsd h1
            go_wp2_with fail
            refine Hst.mono ?_
            rintro e w3 ⟨rfl, hB3⟩
            have hE3 := hE2.below hB3
            have Hrd := round_any hE3 r hr4
            go_wp2_with fail
            refine Hrd.mono ?_
            rintro e w4 ⟨rfl, hB4⟩
            have hE4 := hE3.below hB4
            have k := hE4.k r hr4
            have kf := hE4.kf r hr4
            have hle12 := hB2.size
            have hle23 := hB3.size
            go_wp2_with fail
            go_roundw
            case rel => exact ⟨mark K' r, hE4.mark hr4, fun j => by unfold mark; split; (rename_i e; intro _; rw [e]; exact Hon.out); exact hK1 j, (((hB12.trans (hB3.mono (Nat.le_trans hB0 hB12.size))).trans (hB4.mono (Nat.le_trans (Nat.le_trans hB0 hB12.size) hB3.size))).setCell (hBQ r hr4) _)⟩
            case measure => rw [left_readK (hE4.mark hr4), Hleft.out]; exact left_mark hr4 h2
          · have Hfin : Hid (∀ r, K' r = fin v x.q r) := pick_stop hK1 h1n hs
            have hsd : decide (sr v r v.n < x.q) = false := by simpa using hs
            rw [hsd] at Hst
            clear h1n hs hsd h1
            go_wp2_with fail
            refine Hst.mono ?_
            rintro e w3 ⟨rfl, hB3⟩
            have hE3 := hE2.below hB3
            go_wp2_with fail
            refine bodyPost_ret (results_none rfl _ _ _) rfl ?_
            exact ⟨rfl, ⟨K', hE3, Hfin.out⟩, hB12.trans (hB3.mono (Nat.le_trans hB0 hB12.size))⟩

end Go.Proofs.Ybulkavbi
