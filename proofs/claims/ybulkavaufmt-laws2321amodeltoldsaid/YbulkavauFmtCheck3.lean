/-
  zzs2321acheck at a day that exists; and zzs2321acheck whole.
-/
import Derived.Test.YbulkavauFmtCheck2
namespace Go.Proofs.YbulkavauFmt
open Go Go.RowKit Go.Extern.Stop Go.Stop Go.Extern
attribute [local go_sem] run_store_float

/-- The tests of the law's last jump, in the order in which they are made. -/
theorem jump_cases (y c : Int) (k : Nat) (d : Int) :
    ((c == 0) = true ∧ (y == 1582) = true ∧ ((k : Int) + 1 == 10) = true ∧ decide (4 < d) = true ∧ dd y c k d = d + 10) ∨
    ((c == 0) = false ∧ dd y c k d = d) ∨ ((c == 0) = true ∧ (y == 1582) = false ∧ dd y c k d = d) ∨
    ((c == 0) = true ∧ (y == 1582) = true ∧ ((k : Int) + 1 == 10) = false ∧ dd y c k d = d) ∨
    ((c == 0) = true ∧ (y == 1582) = true ∧ ((k : Int) + 1 == 10) = true ∧ decide (4 < d) = false ∧ dd y c k d = d) := by
  unfold dd
  by_cases h1 : c = 0
  · by_cases h2 : y = 1582
    · by_cases h3 : k = 9
      · subst h3
        by_cases h4 : 4 < d
        · left; simp [h1, h2, h4]
        · right; right; right; right; simp [h1, h2, h4]
      · right; right; right; left
        have : ¬ ((k : Int) + 1 = 10) := by omega
        simp [h1, h2, h3, this]
    · right; right; left; simp [h1, h2]
  · right; left; simp [h1]

theorem dd_range {y c d : Int} {k : Nat} (h1 : 1 ≤ d) (h2 : d ≤ ml y ((k : Int) + 1) c) : 1 ≤ dd y c k d ∧ dd y c k d ≤ 31 := by
  have hm := ml_31 y ((k : Int) + 1) c
  unfold dd
  split
  · rename_i h
    obtain ⟨rfl, rfl, rfl, h4⟩ := h
    have : ml 1582 ((9 : Nat) + 1 : Int) 0 = 21 := by decide
    omega
  · omega

theorem feq_dd {d : Int} (h1 : 1 ≤ d) (h2 : d ≤ 31) : Op.floatEq .f64 (floatOfInt .f64 d) (floatOfInt .f64 d) = true := by
  obtain ⟨n, rfl⟩ := Int.eq_ofNat_of_zero_le (show 0 ≤ d by omega)
  exact feq_all n (by omega)

set_option maxHeartbeats 1600000 in
theorem check_ok (y c d : Int) (k0 : Nat) (w : World) (h0 : 0 ≤ c) (h2 : c ≤ 2) (hy1 : -2147483648 < y) (hy2 : y < 2147483648) (hk12 : k0 < 12) (hd1 : 1 ≤ d) (hd2 : d ≤ ml y ((k0 : Int) + 1) c) (yd : Int) (hyd : yd = cumN y c k0 + d) :
    Calls Ybaf.prog 5 #[.int .i64 y, .int .i64 yd, .int .i64 c] w fun e w' => e = .returned (.bool true) ∧ Below w.heap.size w w' := by
  have hcb0 := cum_bd y c k0
  have hT : yd ≤ cumN y c 12 := by
    have := cum_mono y c (show k0 + 1 ≤ 12 by omega)
    have e : cumN y c (k0 + 1) = cumN y c k0 + ml y ((k0 : Int) + 1) c := rfl
    omega
  have hD := DOY_ok y yd c d k0 w (doy_ok y c d k0 (w.alloc Z30) h0 h2 hy1 hy2 hk12 hd1 hd2 yd hyd (by omega) hT)
  have hddr := dd_range hd1 hd2
  have hz := eqDate y ((k0 : Int) + 1) c (floatOfInt .f64 (dd y c k0 d)) (feq_dd hddr.1 hddr.2)
  have hj := jump_cases y c k0 d
  have d1 : decide (c < 0) = false := by simp; omega
  have d2 : decide (2 < c) = false := by simp; omega
  have d3 : decide (y ≤ -2147483648) = false := by simp; omega
  have d4 : decide (2147483648 ≤ y) = false := by simp; omega
  have d5 : decide (yd < 1) = false := by simp; omega
  have Hyd : Hid (yd = cumN y c k0 + d) := hyd
  have hydr : yd ≤ 400 := by have := cum_le y c; omega
  have hydr0 : 1 ≤ yd := by omega
  unfold okDate at hD
  generalize dd y c k0 d = D at hD hz hj hddr
  clear hyd
  go_enter Ybaf.func5, Ybaf.ntmps5
  go_wp2_with fail
  refine hD.mono ?_
  rintro e w1 ⟨rfl, hW1⟩
  have hbb : Below w.heap.size w (w1.alloc (.cells #[.int .i64 y, .int .i64 ((k0 : Int) + 1), .float .f64 (floatOfInt .f64 D), .int .i64 c] 30)) := hW1.alloc hW1.size _
  have Hbb := (show Hid (Below w.heap.size w (w1.alloc (.cells #[.int .i64 y, .int .i64 ((k0 : Int) + 1), .float .f64 (floatOfInt .f64 D), .int .i64 c] 30))) from hbb)
  clear hD hbb hW1
  go_wp2_with fail
  go_loop [9, 10] (fun t m => ∃ k : Nat, k ≤ 12 ∧ m = .int .i64 ((k : Int) + 1) ∧ t = .int .i64 (cumN y c k)) (fun _ m => (13 - intOf m).toNat)
  case atStart => exact ⟨0, by omega, rfl, rfl⟩
  case round =>
    obtain ⟨k, hk, rfl, rfl⟩ := hrel
    have hcb := cum_bd y c k
    have hmb := ml_31 y ((k : Int) + 1) c
    by_cases hlt : k < 12
    · go_wp2_with (go_at_call 8; refine (month_any y _ c _ (by omega) (by omega)).mono ?_; rintro e w' ⟨rfl, hw'⟩; rw [hw']; clear hw')
      go_round
      case rel => exact ⟨k + 1, by omega, by go_num, rfl⟩
      case measure => simp [intOf]; omega
    · have hk12' : k = 12 := by omega
      have hkd : decide ((k : Int) + 1 ≤ 12) = false := by simp; omega
      have d6 : decide (cumN y c k < yd) = false := by rw [hk12']; simp; omega
      clear hk12' hT hmb
      go_wp2_with fail
      go_loop [11, 12] (fun rv m => ∃ (j : Nat) (r : Int), j ≤ k0 ∧ m = .int .i64 ((j : Int) + 1) ∧ rv = .int .i64 r ∧ r + cumN y c j = yd) (fun _ m => (13 - intOf m).toNat)
      case atStart => exact ⟨0, yd, by omega, rfl, rfl, by simp [cumN]⟩
      case round =>
        obtain ⟨j, r, hj0, rfl, rfl, hr⟩ := hrel
        have Hr : Hid (r + cumN y c j = yd) := hr
        have hcj := cum_bd y c j
        have hr1 : r ≤ 400 := by omega
        have hmj := ml_31 y ((j : Int) + 1) c
        by_cases hlt : j < k0
        · have hm := cum_mono y c (show j + 1 ≤ k0 by omega)
          simp only [cumN] at hm
          have hgt : ml y ((j : Int) + 1) c < r := by have := Hyd.out; omega
          have dr : decide (r ≤ ml y ((j : Int) + 1) c) = false := by simp; omega
          clear hr hm
          go_wp2_with (go_at_call 8; refine (month_any y _ c _ (by omega) (by omega)).mono ?_; rintro e w' ⟨rfl, hw'⟩; rw [hw']; clear hw')
          go_round
          case rel => exact ⟨j + 1, r - ml y ((j : Int) + 1) c, by omega, by go_num, rfl, by have := Hr.out; simp only [cumN]; omega⟩
          case measure => simp [intOf]; omega
        · have hjk : j = k0 := by omega
          subst hjk
          have hrd : r = d := by have := Hyd.out; omega
          clear hr hlt
          subst hrd
          have dr : decide (r ≤ ml y ((j : Int) + 1) c) = true := by simp; omega
          rcases hj with ⟨e1, e2, e3, e4, rfl⟩ | ⟨e1, rfl⟩ | ⟨e1, e2, rfl⟩ | ⟨e1, e2, e3, rfl⟩ | ⟨e1, e2, e3, e4, rfl⟩
          all_goals
            go_wp2_with (go_at_call 8; refine (month_any y _ c _ (by omega) (by omega)).mono ?_; rintro e w' ⟨rfl, hw'⟩; rw [hw']; clear hw')
            go_ret
            exact ⟨rfl, Hbb.out⟩

theorem month_of (y c yd : Int) (h1 : 1 ≤ yd) : ∀ n : Nat, yd ≤ cumN y c n → ∃ (k : Nat) (d : Int), k < n ∧ 1 ≤ d ∧ d ≤ ml y ((k : Int) + 1) c ∧ yd = cumN y c k + d
  | 0, h => by simp [cumN] at h; omega
  | n + 1, h => by
    by_cases hn : yd ≤ cumN y c n
    · obtain ⟨k, d, a, b⟩ := month_of y c yd h1 n hn
      exact ⟨k, d, by omega, b⟩
    · have e : cumN y c (n + 1) = cumN y c n + ml y ((n : Int) + 1) c := rfl
      exact ⟨n, yd - cumN y c n, by omega, by omega, by omega, by omega⟩

theorem check_any (F : Interp) (y yd c : Int) (a0 a1 : Addr) (s0 s1 : ByteArray) (w : World) (hF : F.answers w.tape) (hS : Sent w a0 a1 s0 s1) :
    Calls Ybaf.prog 5 #[.int .i64 y, .int .i64 yd, .int .i64 c] w fun e w' => e = .returned (.bool true) ∧ Below w.heap.size w w' := by
  by_cases h : (c < 0 ∨ 2 < c) ∨ (y ≤ -2147483648 ∨ 2147483648 ≤ y)
  · exact check_range F y yd c a0 a1 s0 s1 w hF hS h
  by_cases h' : yd < 1 ∨ cumN y c 12 < yd
  · exact check_day F y yd c a0 a1 s0 s1 w hF hS (by omega) (by omega) (by omega) (by omega) h'
  · obtain ⟨k, d, h1, h2, h3, h4⟩ := month_of y c yd (by omega) 12 (by omega)
    exact check_ok y c d k w (by omega) (by omega) (by omega) (by omega) h1 h2 h3 yd h4

/-- LawS2321AModel. -/
theorem model_any (F : Interp) (y yday c : Int) (a0 a1 : Addr) (s0 s1 : ByteArray) (w : World) (hF : F.answers w.tape) (hS : Sent w a0 a1 s0 s1) (hq0 : 0 ≤ yday) (hq1 : yday ≤ 65535) (hc0 : -128 ≤ c) (hc1 : c ≤ 127) :
    Calls Ybaf.prog 3 #[.int .i64 y, .int .u16 yday, .int .i8 c] w fun e w' => e = .returned (.bool true) ∧ Below w.heap.size w w' := by
  go_enter Ybaf.func3, Ybaf.ntmps3
  go_wp2_with (go_at_call 5; refine (check_any F _ _ _ a0 a1 s0 s1 _ (by exact hF) (by exact hS)).mono ?_; rintro e w' ⟨rfl, hb⟩)
  go_ret
  exact ⟨rfl, hb⟩

/-- LawS2321AReform. -/
theorem reform_any (F : Interp) (off yday c : Int) (a0 a1 : Addr) (s0 s1 : ByteArray) (w : World) (hF : F.answers w.tape) (hS : Sent w a0 a1 s0 s1) (hq0 : 0 ≤ yday) (hq1 : yday ≤ 65535) (hc0 : 0 ≤ c) (hc1 : c ≤ 255) (ho0 : -128 ≤ off) (ho1 : off ≤ 127) :
    Calls Ybaf.prog 4 #[.int .i8 off, .int .u16 yday, .int .u8 c] w fun e w' => e = .returned (.bool true) ∧ Below w.heap.size w w' := by
  go_enter Ybaf.func4, Ybaf.ntmps4
  go_wp2_with (go_at_call 5; refine (check_any F _ _ _ a0 a1 s0 s1 _ (by exact hF) (by exact hS)).mono ?_; rintro e w' ⟨rfl, hb⟩)
  go_ret
  exact ⟨rfl, hb⟩

end Go.Proofs.YbulkavauFmt
