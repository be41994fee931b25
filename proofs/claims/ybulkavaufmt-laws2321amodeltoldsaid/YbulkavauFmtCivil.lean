/-
  dayNumber at January 1, and civilDate.
-/
import Derived.Test.YbulkavauFmtLeaf
namespace Go.Proofs.YbulkavauFmt
open Go Go.RowKit

/-- The day number of January 1 of the year y. -/
def dn (y c : Int) : Int :=
  if gJ y c then 307 + 365 * (y + 4799) + (y + 4799) / 4 - (y + 4799) / 100 + (y + 4799) / 400 - 32045 else 307 + 365 * (y + 4799) + (y + 4799) / 4 - 32083

set_option maxHeartbeats 400000 in
theorem dayNumber_jan (y c : Int) (w : World) (h1 : -3000000000 ≤ y) (h2 : y ≤ 3000000000) :
    Calls Ybaf.prog 16 #[.int .i64 y, .int .i64 1, .int .i64 1, .int .i64 c] w fun e w' => e = .returned (.int .i64 (dn y c)) ∧ w' = w := by
  cases hg : gJ y c
  · have E : Hid (dn y c = 307 + 365 * (y + 4799) + (y + 4799) / 4 - 32083) := by show dn y c = _; unfold dn; rw [hg]; rfl
    go_enter Ybaf.func16, Ybaf.ntmps16
    go_wp2_with (first
      | (go_at_call 21; refine (floorDiv_any _ _ _ (by omega) (by omega) (by omega)).mono ?_; rintro e w' ⟨rfl, rfl⟩)
      | (go_at_call 22; refine (gregorianFor_jan y c _).mono ?_; rintro e w' ⟨rfl, rfl⟩))
    go_ret
    refine ⟨ret_int ?_, rfl⟩
    rw [E.out]
    omega
  · have E : Hid (dn y c = 307 + 365 * (y + 4799) + (y + 4799) / 4 - (y + 4799) / 100 + (y + 4799) / 400 - 32045) := by show dn y c = _; unfold dn; rw [hg]; rfl
    go_enter Ybaf.func16, Ybaf.ntmps16
    go_wp2_with (first
      | (go_at_call 21; refine (floorDiv_any _ _ _ (by omega) (by omega) (by omega)).mono ?_; rintro e w' ⟨rfl, rfl⟩)
      | (go_at_call 22; refine (gregorianFor_jan y c _).mono ?_; rintro e w' ⟨rfl, rfl⟩))
    go_ret
    refine ⟨ret_int ?_, rfl⟩
    rw [E.out]
    omega

/-- Of the day e of a year that begins on March 1: its month from March; its day; its month; the year's carry. -/
def mo (e : Int) : Int := (5 * e + 2) / 153
def civD (e : Int) : Int := e - (153 * mo e + 2) / 5 + 1
def civM (e : Int) : Int := mo e + 3 - 12 * (mo e / 10)
def civC (e : Int) : Int := mo e / 10
/-- The Julian reading: the year that begins on March 1, the day in it. -/
def yJ (n : Int) : Int := (4 * (n + 32082) + 3) / 1461
def eJ (n : Int) : Int := n + 32082 - 1461 * yJ n / 4
/-- The Gregorian reading: the century, the days in it; the year in it, the day in that. -/
def cG (n : Int) : Int := (4 * (n + 32044) + 3) / 146097
def rG (n : Int) : Int := n + 32044 - 146097 * cG n / 4
def yG (n : Int) : Int := (4 * rG n + 3) / 1461
def eG (n : Int) : Int := rG n - 1461 * yG n / 4

theorem civil_j (n c : Int) (w : World) (h1 : -1000000000000 ≤ n) (h2 : n ≤ 1000000000000) (hc : (c == 1) = false) (hn : (c == 0) = true → n < 2299161) :
    Calls Ybaf.prog 17 #[.int .i64 n, .int .i64 c] w fun e w' => e = .returned (.tuple #[.int .i64 (yJ n - 4800 + civC (eJ n)), .int .i64 (civM (eJ n)), .int .i64 (civD (eJ n))]) ∧ w' = w := by
  cases h0 : (c == 0)
  · clear hn
    go_enter Ybaf.func17, Ybaf.ntmps17
    go_wp2_with (go_at_call 21; refine (floorDiv_any _ _ _ (by omega) (by omega) (by omega)).mono ?_; rintro e w' ⟨rfl, rfl⟩)
    go_ret3
    exact ⟨rfl, rfl⟩
  · have hn' := hn h0
    have hd : decide (2299161 ≤ n) = false := by simp; omega
    clear hn
    go_enter Ybaf.func17, Ybaf.ntmps17
    go_wp2_with (go_at_call 21; refine (floorDiv_any _ _ _ (by omega) (by omega) (by omega)).mono ?_; rintro e w' ⟨rfl, rfl⟩)
    go_ret3
    exact ⟨rfl, rfl⟩

theorem civil_g (n c : Int) (w : World) (h1 : -1000000000000 ≤ n) (h2 : n ≤ 1000000000000) (hc : c = 1 ∨ (c = 0 ∧ 2299161 ≤ n)) :
    Calls Ybaf.prog 17 #[.int .i64 n, .int .i64 c] w fun e w' => e = .returned (.tuple #[.int .i64 (100 * cG n + yG n - 4800 + civC (eG n)), .int .i64 (civM (eG n)), .int .i64 (civD (eG n))]) ∧ w' = w := by
  rcases hc with rfl | ⟨rfl, hn⟩
  all_goals
    go_enter Ybaf.func17, Ybaf.ntmps17
    go_wp2_with (go_at_call 21; refine (floorDiv_any _ _ _ (by omega) (by omega) (by omega)).mono ?_; rintro e w' ⟨rfl, rfl⟩)
    go_ret3
    exact ⟨rfl, rfl⟩

end Go.Proofs.YbulkavauFmt
