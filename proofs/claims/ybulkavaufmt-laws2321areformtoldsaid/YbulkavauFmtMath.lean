/-
  The calendar's arithmetic: the day that civilDate reads off 'dn y c + yd - 1' is the yd-th of the year y by the law's own months.
-/
import Derived.Test.YbulkavauFmtCivil
namespace Go.Proofs.YbulkavauFmt

/-- The days of the year y ahead of its month k + 1. -/
def cumN (y c : Int) : Nat → Int
  | 0 => 0
  | k + 1 => cumN y c k + ml y ((k : Int) + 1) c

theorem g1 (C r e : Int) (h1 : 0 ≤ r) (h2 : r ≤ 99) (h3 : 0 ≤ e) (h4 : e ≤ 365) (h5 : e = 365 → r % 4 = 3 ∧ (r ≠ 99 ∨ C % 4 = 3)) : (4 * (36524 * C + C / 4 + 365 * r + r / 4 + e) + 3) / 146097 = C := by omega
theorem g2 (C D : Int) : 36524 * C + C / 4 + D - 146097 * C / 4 = D := by omega
theorem j1 (r e : Int) (h3 : 0 ≤ e) (h4 : e ≤ 365) (h5 : e = 365 → r % 4 = 3) : (4 * (365 * r + r / 4 + e) + 3) / 1461 = r := by omega
theorem j2 (r e : Int) : 365 * r + r / 4 + e - 1461 * r / 4 = e := by omega

/-- The first day of the month m in a year that begins on March 1. -/
def moff (m : Int) : Int := if m = 1 then 306 else if m = 2 then 337 else if m = 3 then 0 else if m = 4 then 31 else if m = 5 then 61 else if m = 6 then 92 else if m = 7 then 122 else if m = 8 then 153 else if m = 9 then 184 else if m = 10 then 214 else if m = 11 then 245 else 275
/-- The greatest length of the month m. -/
def mx (m : Int) : Int := if m = 2 then 29 else if m = 4 ∨ m = 6 ∨ m = 9 ∨ m = 11 then 30 else 31

theorem mo_off (m d e : Int) (h1 : 1 ≤ m) (h2 : m ≤ 12) (h3 : 1 ≤ d) (h4 : d ≤ mx m) (he : e = moff m + d - 1) : civM e = m ∧ civD e = d ∧ civC e = (if m ≤ 2 then 1 else 0) ∧ 0 ≤ e ∧ e ≤ 365 ∧ (e = 365 → m = 2 ∧ d = 29) := by
  have h12 : m = 1 ∨ m = 2 ∨ m = 3 ∨ m = 4 ∨ m = 5 ∨ m = 6 ∨ m = 7 ∨ m = 8 ∨ m = 9 ∨ m = 10 ∨ m = 11 ∨ m = 12 := by omega
  have key : mo e = (m + 9) % 12 ∧ 0 ≤ e ∧ e ≤ 365 ∧ (e = 365 → m = 2 ∧ d = 29) ∧ (153 * ((m + 9) % 12) + 2) / 5 = moff m := by
    unfold mo
    rcases h12 with rfl | rfl | rfl | rfl | rfl | rfl | rfl | rfl | rfl | rfl | rfl | rfl
    all_goals
      simp [mx] at h4
      simp [moff] at he
      exact ⟨by omega, by omega, by omega, by omega, by decide⟩
  obtain ⟨k1, k2, k3, k4, k5⟩ := key
  unfold civM civD civC
  rw [k1, k5]
  refine ⟨by omega, by omega, ?_, k2, k3, k4⟩
  split <;> omega

/-- The Gregorian reading at the day e of the year Z that begins on March 1. -/
theorem read_g (n Z e : Int) (h3 : 0 ≤ e) (h4 : e ≤ 365) (h5 : e = 365 → Z % 4 = 3 ∧ (Z % 100 ≠ 99 ∨ Z % 400 = 399)) (hn : n + 32044 = 365 * Z + Z / 4 - Z / 100 + Z / 400 + e) :
    cG n = Z / 100 ∧ yG n = Z % 100 ∧ eG n = e := by
  have e1 : n + 32044 = 36524 * (Z / 100) + Z / 100 / 4 + 365 * (Z % 100) + Z % 100 / 4 + e := by omega
  have a1 : cG n = Z / 100 := by
    unfold cG
    rw [e1]
    exact g1 _ _ _ (by omega) (by omega) h3 h4 (fun h => by have := h5 h; omega)
  have a2 : rG n = 365 * (Z % 100) + Z % 100 / 4 + e := by
    unfold rG
    rw [a1, e1]
    have := g2 (Z / 100) (365 * (Z % 100) + Z % 100 / 4 + e)
    omega
  have a3 : yG n = Z % 100 := by
    unfold yG
    rw [a2]
    exact j1 _ _ h3 h4 (fun h => by have := h5 h; omega)
  have a4 : eG n = e := by
    unfold eG
    rw [a3, a2]
    exact j2 _ _
  exact ⟨a1, a3, a4⟩

/-- The Julian reading. -/
theorem read_j (n Z e : Int) (h3 : 0 ≤ e) (h4 : e ≤ 365) (h5 : e = 365 → Z % 4 = 3) (hn : n + 32082 = 365 * Z + Z / 4 + e) : yJ n = Z ∧ eJ n = e := by
  have a1 : yJ n = Z := by
    unfold yJ
    rw [hn]
    exact j1 _ _ h3 h4 h5
  refine ⟨a1, ?_⟩
  unfold eJ
  rw [a1, hn]
  exact j2 _ _

end Go.Proofs.YbulkavauFmt
