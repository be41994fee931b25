/-
  The yd-th day of the year y, by the law's months and by civilDate: one date.
-/
import Derived.Test.YbulkavauFmtMath
namespace Go.Proofs.YbulkavauFmt
open Go Go.RowKit

theorem lp_g {y c : Int} (hG : c = 1 ∨ (c = 0 ∧ 1582 < y)) : (lp y c = true ∧ y % 4 = 0 ∧ (y % 100 ≠ 0 ∨ y % 400 = 0)) ∨ (lp y c = false ∧ (y % 4 ≠ 0 ∨ (y % 100 = 0 ∧ y % 400 ≠ 0))) := by
  unfold lp
  rw [if_pos hG]
  by_cases h4 : y % 4 = 0 <;> by_cases h1 : y % 100 = 0 <;> by_cases h2 : y % 400 = 0 <;> simp [h4, h1, h2]

theorem lp_j {y c : Int} (hG : ¬ (c = 1 ∨ (c = 0 ∧ 1582 < y))) : (lp y c = true ∧ y % 4 = 0) ∨ (lp y c = false ∧ y % 4 ≠ 0) := by
  unfold lp
  rw [if_neg hG]
  by_cases h4 : y % 4 = 0 <;> simp [h4]

/-- One more in a leap year. -/
def lpI (y c : Int) : Int := if lp y c then 1 else 0

theorem cum_val {y c : Int} (hX : ¬ (c = 0 ∧ y = 1582)) (k : Nat) (hk : k < 12) : cumN y c k = (if k = 0 then 0 else if k = 1 then 31 else 59 + lpI y c + moff ((k : Int) + 1)) := by
  have h10 : ml y 10 c = 31 := by simp [ml, hX]
  have h2 : ml y 2 c = 28 + lpI y c := by unfold ml lpI; cases lp y c <;> simp
  have h12 : k = 0 ∨ k = 1 ∨ k = 2 ∨ k = 3 ∨ k = 4 ∨ k = 5 ∨ k = 6 ∨ k = 7 ∨ k = 8 ∨ k = 9 ∨ k = 10 ∨ k = 11 := by omega
  have e1 : ml y 1 c = 31 := by simp [ml]
  have e3 : ml y 3 c = 31 := by simp [ml]
  have e4 : ml y 4 c = 30 := by simp [ml]
  have e5 : ml y 5 c = 31 := by simp [ml]
  have e6 : ml y 6 c = 30 := by simp [ml]
  have e7 : ml y 7 c = 31 := by simp [ml]
  have e8 : ml y 8 c = 31 := by simp [ml]
  have e9 : ml y 9 c = 30 := by simp [ml]
  have e11 : ml y 11 c = 30 := by simp [ml]
  rcases h12 with rfl | rfl | rfl | rfl | rfl | rfl | rfl | rfl | rfl | rfl | rfl | rfl
  all_goals
    simp [cumN, moff, e1, h2, e3, e4, e5, e6, e7, e8, e9, h10, e11]
    try omega

theorem cum_year {y c : Int} (hX : ¬ (c = 0 ∧ y = 1582)) : cumN y c 12 = 365 + lpI y c := by
  have := cum_val hX 11 (by omega)
  have e12 : ml y 12 c = 31 := by simp [ml]
  show cumN y c 11 + ml y ((11 : Nat) + 1 : Int) c = _
  rw [this]
  simp [moff, e12]
  omega

/-- The length of a month in days, at most. -/
theorem ml_le (y m c : Int) : ml y m c ≤ mx m ∧ 0 < ml y m c := by
  unfold ml mx
  split
  · split <;> omega
  · split
    · omega
    · split <;> omega

theorem date_g {y c d : Int} (hG : c = 1 ∨ (c = 0 ∧ 1582 < y)) (k : Nat) (hk : k < 12) (h1 : 1 ≤ d) (h2 : d ≤ ml y ((k : Int) + 1) c) (n : Int) (hn : n = dn y c + (cumN y c k + d) - 1) :
    100 * cG n + yG n - 4800 + civC (eG n) = y ∧ civM (eG n) = (k : Int) + 1 ∧ civD (eG n) = d := by
  have hX : ¬ (c = 0 ∧ y = 1582) := by omega
  have hgJ : gJ y c = true := by
    unfold gJ
    rcases hG with rfl | ⟨rfl, h⟩
    · simp
    · simp [h]
  have hdn : dn y c = 307 + 365 * (y + 4799) + (y + 4799) / 4 - (y + 4799) / 100 + (y + 4799) / 400 - 32045 := by unfold dn; rw [hgJ]; rfl
  have hle := (ml_le y ((k : Int) + 1) c).1
  obtain ⟨m1, m2, m3, m4, m5, m6⟩ := mo_off ((k : Int) + 1) d (moff ((k : Int) + 1) + d - 1) (by omega) (by omega) h1 (by omega) rfl
  have hcv := cum_val hX k hk
  have hlp := lp_g hG
  by_cases hm : (k : Int) + 1 ≤ 2
  · rw [if_pos hm] at m3
    have hcum : cumN y c k = moff ((k : Int) + 1) - 306 := by
      have : k = 0 ∨ k = 1 := by omega
      rcases this with rfl | rfl <;> simp [moff] at hcv ⊢ <;> exact hcv
    have hfeb : moff ((k : Int) + 1) + d - 1 = 365 → lp y c = true := by
      intro he
      obtain ⟨hk2, hd⟩ := m6 he
      have hk1 : k = 1 := by omega
      subst hk1
      cases hl : lp y c
      · simp [ml, hl] at h2; omega
      · rfl
    obtain ⟨r1, r2, r3⟩ := read_g n (y + 4799) (moff ((k : Int) + 1) + d - 1) m4 m5 (fun he => by
      have := hfeb he
      rcases hlp with ⟨_, a1, a2⟩ | ⟨a0, _⟩
      · omega
      · rw [a0] at this; cases this) (by rw [hn, hdn, hcum]; omega)
    rw [r1, r2, r3, m1, m2, m3]
    exact ⟨by omega, rfl, rfl⟩
  · rw [if_neg hm] at m3
    have hcum : cumN y c k = 59 + lpI y c + moff ((k : Int) + 1) := by
      rw [hcv, if_neg (by omega), if_neg (by omega)]
    have hne : moff ((k : Int) + 1) + d - 1 ≠ 365 := fun he => by have := m6 he; omega
    have hL : lpI y c = (y + 4800) / 4 - (y + 4799) / 4 - ((y + 4800) / 100 - (y + 4799) / 100) + ((y + 4800) / 400 - (y + 4799) / 400) := by
      unfold lpI
      rcases hlp with ⟨a0, a1, a2⟩ | ⟨a0, a1⟩
      · rw [a0]; simp; omega
      · rw [a0]; simp; omega
    obtain ⟨r1, r2, r3⟩ := read_g n (y + 4800) (moff ((k : Int) + 1) + d - 1) m4 m5 (fun he => absurd he hne) (by rw [hn, hdn, hcum]; omega)
    rw [r1, r2, r3, m1, m2, m3]
    exact ⟨by omega, rfl, rfl⟩

theorem date_j {y c d : Int} (hG : ¬ (c = 1 ∨ (c = 0 ∧ 1582 < y))) (hX : ¬ (c = 0 ∧ y = 1582)) (k : Nat) (hk : k < 12) (h1 : 1 ≤ d) (h2 : d ≤ ml y ((k : Int) + 1) c) (n : Int) (hn : n = dn y c + (cumN y c k + d) - 1) :
    yJ n - 4800 + civC (eJ n) = y ∧ civM (eJ n) = (k : Int) + 1 ∧ civD (eJ n) = d := by
  have hgJ : gJ y c = false := by
    unfold gJ
    by_cases h0 : c = 0
    · have : ¬ 1582 < y := fun h => hG (Or.inr ⟨h0, h⟩)
      simp [h0, this]
    · have : ¬ c = 1 := fun h => hG (Or.inl h)
      simp [h0, this]
  have hdn : dn y c = 307 + 365 * (y + 4799) + (y + 4799) / 4 - 32083 := by unfold dn; rw [hgJ]; rfl
  have hle := (ml_le y ((k : Int) + 1) c).1
  obtain ⟨m1, m2, m3, m4, m5, m6⟩ := mo_off ((k : Int) + 1) d (moff ((k : Int) + 1) + d - 1) (by omega) (by omega) h1 (by omega) rfl
  have hcv := cum_val hX k hk
  have hlp := lp_j hG
  by_cases hm : (k : Int) + 1 ≤ 2
  · rw [if_pos hm] at m3
    have hcum : cumN y c k = moff ((k : Int) + 1) - 306 := by
      have : k = 0 ∨ k = 1 := by omega
      rcases this with rfl | rfl <;> simp [moff] at hcv ⊢ <;> exact hcv
    have hfeb : moff ((k : Int) + 1) + d - 1 = 365 → lp y c = true := by
      intro he
      obtain ⟨hk2, hd⟩ := m6 he
      have hk1 : k = 1 := by omega
      subst hk1
      cases hl : lp y c
      · simp [ml, hl] at h2; omega
      · rfl
    obtain ⟨r1, r2⟩ := read_j n (y + 4799) (moff ((k : Int) + 1) + d - 1) m4 m5 (fun he => by
      have := hfeb he
      rcases hlp with ⟨_, a1⟩ | ⟨a0, _⟩
      · omega
      · rw [a0] at this; cases this) (by rw [hn, hdn, hcum]; omega)
    rw [r1, r2, m1, m2, m3]
    exact ⟨by omega, rfl, rfl⟩
  · rw [if_neg hm] at m3
    have hcum : cumN y c k = 59 + lpI y c + moff ((k : Int) + 1) := by
      rw [hcv, if_neg (by omega), if_neg (by omega)]
    have hne : moff ((k : Int) + 1) + d - 1 ≠ 365 := fun he => by have := m6 he; omega
    have hL : lpI y c = (y + 4800) / 4 - (y + 4799) / 4 := by
      unfold lpI
      rcases hlp with ⟨a0, a1⟩ | ⟨a0, a1⟩
      · rw [a0]; simp; omega
      · rw [a0]; simp; omega
    obtain ⟨r1, r2⟩ := read_j n (y + 4800) (moff ((k : Int) + 1) + d - 1) m4 m5 (fun he => absurd he hne) (by rw [hn, hdn, hcum]; omega)
    rw [r1, r2, m1, m2, m3]
    exact ⟨by omega, rfl, rfl⟩

end Go.Proofs.YbulkavauFmt
