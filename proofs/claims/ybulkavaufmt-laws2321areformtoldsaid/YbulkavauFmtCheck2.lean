/-
  zzs2321acheck at a year and a calendar within range.
-/
import Derived.Test.YbulkavauFmtCheck
namespace Go.Proofs.YbulkavauFmt
open Go Go.RowKit Go.Extern.Stop Go.Stop Go.Extern
attribute [local go_sem] run_store_float

theorem ml_31 (y m c : Int) : 0 < ml y m c ∧ ml y m c ≤ 31 := by
  have h := ml_le y m c
  have : mx m ≤ 31 := by unfold mx; split <;> (try split) <;> omega
  omega

theorem cum_bd (y c : Int) : ∀ k : Nat, 0 ≤ cumN y c k ∧ cumN y c k ≤ 31 * (k : Int)
  | 0 => by simp [cumN]
  | k + 1 => by
    have h := cum_bd y c k
    have h' := ml_31 y ((k : Int) + 1) c
    simp only [cumN]
    omega

theorem cum_mono (y c : Int) {j : Nat} : ∀ {k : Nat}, j ≤ k → cumN y c j ≤ cumN y c k
  | 0, h => by have : j = 0 := by omega
               subst this; exact Int.le_refl _
  | k + 1, h => by
    by_cases e : j = k + 1
    · subst e; exact Int.le_refl _
    · have ih := cum_mono y c (show j ≤ k by omega)
      have h' := ml_31 y ((k : Int) + 1) c
      simp only [cumN]
      omega

set_option maxHeartbeats 800000 in
/-- No such day. -/
theorem check_day (F : Interp) (y yd c : Int) (a0 a1 : Addr) (s0 s1 : ByteArray) (w : World) (hF : F.answers w.tape) (hS : Sent w a0 a1 s0 s1) (h0 : 0 ≤ c) (h2 : c ≤ 2) (hy1 : -2147483648 < y) (hy2 : y < 2147483648) (h : yd < 1 ∨ cumN y c 12 < yd) :
    Calls Ybaf.prog 5 #[.int .i64 y, .int .i64 yd, .int .i64 c] w fun e w' => e = .returned (.bool true) ∧ Below w.heap.size w w' := by
  have hb0 : Below w.heap.size w (w.alloc Z30) := (Below.refl _ w).alloc (Nat.le_refl _) _
  have hS0 := hS.below hb0
  have hD : Calls Ybaf.prog 6 #[.int .i64 y, .int .i64 yd, .int .i64 c] w fun e w' => ∃ p q, e = .returned (.tuple #[zeroDate, .iface 51 (.pointer (some ⟨p, 0, none⟩))]) ∧ Wr2 w w' a1 p q :=
    DOY_err F y yd c a1 w hF (doy_day F y yd c s1 a1 (w.alloc Z30) hF h0 h2 hy1 hy2 h hS0.g1 hS0.t1)
  have hz := eqDate 0 0 0 0 feq0
  have d1 : decide (c < 0) = false := by simp; omega
  have d2 : decide (2 < c) = false := by simp; omega
  have d3 : decide (y ≤ -2147483648) = false := by simp; omega
  have d4 : decide (2147483648 ≤ y) = false := by simp; omega
  clear hS0 hb0
  go_enter Ybaf.func5, Ybaf.ntmps5
  go_wp2_with fail
  refine hD.mono ?_
  rintro e w1 ⟨p, q, rfl, hW1, hW2, hW3⟩
  have hb1 := (Below.refl w1.heap.size w1).alloc (Nat.le_refl _) Z30
  have his := is_wrap2 p q a1 (w1.alloc Z30) (by rw [hb1.cell (cell_lt hW2)]; exact hW2) (by rw [hb1.cell (cell_lt hW3)]; exact hW3)
  have hg1 : (w1.alloc Z30).cell? ⟨1, 0, none⟩ = some (.iface 65 (.pointer (some a1))) := ((hS.below hW1).below hb1).g1
  have hbb : Below w.heap.size w (w1.alloc Z30) := hW1.alloc hW1.size _
  have Hbb : Hid (Below w.heap.size w (w1.alloc Z30)) := hbb
  unfold Z30 at hg1
  unfold zeroDate
  clear hD hb1 hbb hW1 hW2 hW3
  go_wp2_with fail
  go_loop [9, 10] (fun t m => ∃ k : Nat, k ≤ 12 ∧ m = .int .i64 ((k : Int) + 1) ∧ t = .int .i64 (cumN y c k)) (fun _ m => (13 - intOf m).toNat)
  case atStart => exact ⟨0, by omega, rfl, rfl⟩
  case round =>
    obtain ⟨k, hk, rfl, rfl⟩ := hrel
    have hcb := cum_bd y c k
    have hmb := ml_31 y ((k : Int) + 1) c
    by_cases hlt : k < 12
    · go_wp2_with (go_at_call 8; refine (month_any y _ c _ (by omega) (by omega)).mono ?_; rintro e w' ⟨rfl, hw'⟩; rw [hw']; clear hw')
      go_round
      case rel => exact ⟨k + 1, by omega, by go_num, rfl⟩
      case measure => simp [intOf]; omega
    · have hk12 : k = 12 := by omega
      have hkd : decide ((k : Int) + 1 ≤ 12) = false := by simp; omega
      rcases h with h | h
      · have d5 : decide (yd < 1) = true := by simp; omega
        clear hk12
        go_wp2_with (go_at_call 7; refine his.mono ?_; rintro e w2 ⟨rfl, hw2⟩; rw [hw2]; clear hw2; unfold Z30)
        go_ret
        exact ⟨rfl, Hbb.out⟩
      · have d6 : decide (cumN y c k < yd) = true := by rw [hk12]; simp; omega
        by_cases h5 : yd < 1
        · have d5 : decide (yd < 1) = true := by simp; omega
          clear hk12 d6
          go_wp2_with (go_at_call 7; refine his.mono ?_; rintro e w2 ⟨rfl, hw2⟩; rw [hw2]; clear hw2; unfold Z30)
          go_ret
          exact ⟨rfl, Hbb.out⟩
        · have d5 : decide (yd < 1) = false := by simp; omega
          clear hk12
          go_wp2_with (go_at_call 7; refine his.mono ?_; rintro e w2 ⟨rfl, hw2⟩; rw [hw2]; clear hw2; unfold Z30)
          go_ret
          exact ⟨rfl, Hbb.out⟩

end Go.Proofs.YbulkavauFmt
