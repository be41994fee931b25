/-
  The leaves of the calendar: floorDiv, gregorianFor at January 1, zzs2321aleap, zzs2321amonth.
-/
import Derived.Test.YbulkavauFmtRows
import Derived.WalkKit
namespace Go.Proofs.YbulkavauFmt
open Go Go.RowKit

theorem tdiv_neg {a b : Int} (hb : 0 < b) (h : a.tmod b < 0) : a.tdiv b - 1 = a / b := by
  have h1 := Int.tdiv_eq_ediv (a := a) (b := b)
  have ha : ¬ 0 ≤ a := fun h0 => by have := Int.tmod_nonneg b h0; omega
  have hd : ¬ b ∣ a := fun h0 => by rw [Int.tmod_eq_zero_of_dvd h0] at h; omega
  rw [if_neg (by simp [ha, hd]), Int.sign_eq_one_of_pos hb] at h1
  omega

theorem tdiv_pos {a b : Int} (h : 0 ≤ a.tmod b) : a.tdiv b = a / b := by
  have h1 := Int.tdiv_eq_ediv (a := a) (b := b)
  by_cases hc : 0 ≤ a ∨ b ∣ a
  · rw [if_pos hc] at h1
    omega
  · exfalso
    have ha : a < 0 := by have : ¬ 0 ≤ a := fun h0 => hc (Or.inl h0); omega
    have h2 := Int.tmod_nonneg b (show 0 ≤ -a by omega)
    rw [Int.neg_tmod] at h2
    have h3 : a.tmod b = 0 := by omega
    exact hc (Or.inr (Int.dvd_of_tmod_eq_zero h3))

theorem ediv_range {a b B : Int} (hb : 0 < b) (h1 : -B ≤ a) (h2 : a ≤ B) (hB : 0 ≤ B) : -B ≤ a / b ∧ a / b ≤ B := by
  constructor
  · rw [Int.le_ediv_iff_mul_le hb]
    have : -B * b ≤ -B * 1 := Int.mul_le_mul_of_nonpos_left (by omega) (by omega)
    omega
  · have : a / b < B + 1 := by
      rw [Int.ediv_lt_iff_lt_mul hb]
      have : (B + 1) * 1 ≤ (B + 1) * b := Int.mul_le_mul_of_nonneg_left (by omega) (by omega)
      omega
    omega

theorem ret_int {k : IntKind} {a b : Int} (h : a = b) : Ending.returned (.int k a) = .returned (.int k b) := by rw [h]

theorem floorDiv_any (a b : Int) (w : World) (ha : -1000000000000000 ≤ a) (ha' : a ≤ 1000000000000000) (hb : 0 < b) :
    Calls Ybaf.prog 21 #[.int .i64 a, .int .i64 b] w fun e w' => e = .returned (.int .i64 (a / b)) ∧ w' = w := by
  have hr := ediv_range hb ha ha' (by omega)
  by_cases h : a.tmod b < 0
  · have e1 := tdiv_neg hb h
    have hq1 : -1000000000000000 ≤ a.tdiv b - 1 := by omega
    have hq2 : a.tdiv b - 1 ≤ 1000000000000000 := by omega
    have E1 : Hid (a.tdiv b - 1 = a / b) := e1
    clear e1 hr
    go_enter Ybaf.func21, Ybaf.ntmps21
    go_wp2
    go_ret
    exact ⟨ret_int E1.out, rfl⟩
  · have E1 : Hid (a.tdiv b = a / b) := tdiv_pos (by omega)
    clear hr
    go_enter Ybaf.func21, Ybaf.ntmps21
    go_wp2
    go_ret
    exact ⟨ret_int E1.out, rfl⟩

/-- Is January 1 of the year y read by the Gregorian rules? -/
def gJ (y c : Int) : Bool := if c = 0 then decide (1582 < y) else c == 1

theorem gregorianFor_jan (y c : Int) (w : World) :
    Calls Ybaf.prog 22 #[.int .i64 y, .int .i64 1, .int .i64 1, .int .i64 c] w fun e w' => e = .returned (.bool (gJ y c)) ∧ w' = w := by
  by_cases hc : c = 0
  · subst hc
    by_cases hy : 1582 < y
    · have e1 : gJ y 0 = true := by simp [gJ, hy]
      rw [e1]
      clear e1
      go_enter Ybaf.func22, Ybaf.ntmps22
      go_wp2
      go_ret
      exact ⟨rfl, rfl⟩
    · have e1 : gJ y 0 = false := by simp [gJ, hy]
      rw [e1]
      have e2 : decide (1582 < y) = false := by simp [hy]
      clear e1
      by_cases hy2 : y = 1582
      · subst hy2
        go_enter Ybaf.func22, Ybaf.ntmps22
        go_wp2
        go_ret
        exact ⟨rfl, rfl⟩
      · have e3 : (y == 1582) = false := by simp [hy2]
        go_enter Ybaf.func22, Ybaf.ntmps22
        go_wp2
        go_ret
        exact ⟨rfl, rfl⟩
  · have e1 : gJ y c = (c == 1) := by simp [gJ, hc]
    have e2 : (c != 0) = true := by simp [hc]
    rw [e1]
    clear e1
    go_enter Ybaf.func22, Ybaf.ntmps22
    go_wp2
    go_ret
    exact ⟨rfl, rfl⟩

/-- The law's own rule for leap years. -/
def lp (y c : Int) : Bool := if c = 1 ∨ (c = 0 ∧ 1582 < y) then (y % 4 == 0) && (y % 100 != 0 || y % 400 == 0) else y % 4 == 0

theorem tmod_zero (y b : Int) : (y.tmod b == 0) = (y % b == 0) := by
  rw [Bool.eq_iff_iff]
  simp only [beq_iff_eq]
  constructor
  · intro h; exact Int.emod_eq_zero_of_dvd (Int.dvd_of_tmod_eq_zero h)
  · intro h; exact Int.tmod_eq_zero_of_dvd (Int.dvd_of_emod_eq_zero h)

theorem tmod_nz (y b : Int) : (y.tmod b != 0) = (y % b != 0) := by
  have := tmod_zero y b
  unfold bne
  rw [this]

theorem leap_g (y c : Int) (w : World) (hg : c = 1 ∨ (c = 0 ∧ 1582 < y)) :
    Calls Ybaf.prog 13 #[.int .i64 y, .int .i64 c] w fun e w' => e = .returned (.bool (lp y c)) ∧ w' = w := by
  have hl : lp y c = ((y % 4 == 0) && (y % 100 != 0 || y % 400 == 0)) := by unfold lp; rw [if_pos hg]
  rw [hl]
  clear hl
  have t4 := tmod_zero y 4
  have t100 := tmod_nz y 100
  have t400 := tmod_zero y 400
  rcases hg with rfl | ⟨rfl, hy⟩
  all_goals
    cases h4 : (y % 4 == 0)
    · rw [h4] at t4
      clear t100 t400
      go_enter Ybaf.func13, Ybaf.ntmps13
      go_wp2
      go_ret
      exact ⟨rfl, rfl⟩
    · rw [h4] at t4
      cases h100 : (y % 100 != 0)
      · rw [h100] at t100
        cases h400 : (y % 400 == 0)
        all_goals
          rw [h400] at t400
          go_enter Ybaf.func13, Ybaf.ntmps13
          go_wp2
          go_ret
          exact ⟨rfl, rfl⟩
      · rw [h100] at t100
        clear t400
        go_enter Ybaf.func13, Ybaf.ntmps13
        go_wp2
        go_ret
        exact ⟨rfl, rfl⟩

theorem leap_j (y c : Int) (w : World) (hg : ¬ (c = 1 ∨ (c = 0 ∧ 1582 < y))) :
    Calls Ybaf.prog 13 #[.int .i64 y, .int .i64 c] w fun e w' => e = .returned (.bool (lp y c)) ∧ w' = w := by
  have hl : lp y c = (y % 4 == 0) := by unfold lp; rw [if_neg hg]
  rw [hl]
  clear hl
  have t4 := tmod_zero y 4
  generalize (y % 4 == 0) = b4 at t4
  have h1 : (c == 1) = false := by simp; exact fun h => hg (Or.inl h)
  by_cases h0 : c = 0
  · subst h0
    have hy : decide (1582 < y) = false := by simp; have : ¬ 1582 < y := fun h => hg (Or.inr ⟨rfl, h⟩); omega
    clear hg
    go_enter Ybaf.func13, Ybaf.ntmps13
    go_wp2
    go_ret
    exact ⟨rfl, rfl⟩
  · have h0' : (c == 0) = false := by simp [h0]
    clear hg
    go_enter Ybaf.func13, Ybaf.ntmps13
    go_wp2
    go_ret
    exact ⟨rfl, rfl⟩

theorem leap_any (y c : Int) (w : World) : Calls Ybaf.prog 13 #[.int .i64 y, .int .i64 c] w fun e w' => e = .returned (.bool (lp y c)) ∧ w' = w := by
  by_cases hg : c = 1 ∨ (c = 0 ∧ 1582 < y)
  · exact leap_g y c w hg
  · exact leap_j y c w hg

/-- The law's own length of a month. -/
def ml (y m c : Int) : Int :=
  if m = 2 then (if lp y c then 29 else 28) else if m = 4 ∨ m = 6 ∨ m = 9 ∨ m = 11 then 30 else if m = 10 ∧ c = 0 ∧ y = 1582 then 21 else 31

theorem month_any (y m c : Int) (w : World) (h1 : 1 ≤ m) (h2 : m ≤ 12) : Calls Ybaf.prog 8 #[.int .i64 y, .int .i64 m, .int .i64 c] w fun e w' => e = .returned (.int .i64 (ml y m c)) ∧ w' = w := by
  have h12 : m = 1 ∨ m = 2 ∨ m = 3 ∨ m = 4 ∨ m = 5 ∨ m = 6 ∨ m = 7 ∨ m = 8 ∨ m = 9 ∨ m = 10 ∨ m = 11 ∨ m = 12 := by omega
  clear h1 h2
  by_cases e2 : m = 2
  · subst e2
    have hml : ml y 2 c = if lp y c then 29 else 28 := by simp [ml]
    rw [hml]
    clear hml h12
    cases hb : lp y c
    all_goals
      go_enter Ybaf.func8, Ybaf.ntmps8
      go_wp2_with (go_at_call 13; refine (leap_any y c _).mono ?_; rintro e w' ⟨rfl, rfl⟩)
      go_ret
      exact ⟨rfl, rfl⟩
  by_cases e10 : m = 10
  · subst e10
    by_cases hx : c = 0 ∧ y = 1582
    · obtain ⟨rfl, rfl⟩ := hx
      have hml : ml 1582 10 0 = 21 := by simp [ml]
      rw [hml]
      clear hml h12
      go_enter Ybaf.func8, Ybaf.ntmps8
      go_wp2
      go_ret
      exact ⟨rfl, rfl⟩
    · have hml : ml y 10 c = 31 := by simp [ml, hx]
      rw [hml]
      clear hml h12
      by_cases h0 : c = 0
      · subst h0
        have hy : (y == 1582) = false := by simp; exact fun h => hx ⟨rfl, h⟩
        clear hx
        go_enter Ybaf.func8, Ybaf.ntmps8
        go_wp2
        go_ret
        exact ⟨rfl, rfl⟩
      · have h0' : (c == 0) = false := by simp [h0]
        clear hx
        go_enter Ybaf.func8, Ybaf.ntmps8
        go_wp2
        go_ret
        exact ⟨rfl, rfl⟩
  · rcases h12 with rfl | rfl | rfl | rfl | rfl | rfl | rfl | rfl | rfl | rfl | rfl | rfl
    all_goals first
      | (exact absurd rfl e2)
      | (exact absurd rfl e10)
      | (rw [show ml y _ c = _ from rfl]
         go_enter Ybaf.func8, Ybaf.ntmps8
         go_wp2
         go_ret
         exact ⟨ret_int (by simp [ml]), rfl⟩)

end Go.Proofs.YbulkavauFmt
