/-
  The year of the reform; a year's length; civilDate at the yd-th day of a year, by its contract.
-/
import Derived.Test.YbulkavauFmtDates
namespace Go.Proofs.YbulkavauFmt
open Go Go.RowKit

theorem dn_x : dn 1582 0 = 2298884 := by decide

/-- The day that is written: the ten days that fell out are jumped. -/
def dd (y c : Int) (k : Nat) (d : Int) : Int := if c = 0 ∧ y = 1582 ∧ k = 9 ∧ 4 < d then d + 10 else d

theorem cum_x : ∀ k, k < 13 → cumN 1582 0 k = (if k = 0 then 0 else if k = 1 then 31 else if k < 10 then 59 + moff ((k : Int) + 1) else if k = 12 then 355 else 49 + moff ((k : Int) + 1)) := by decide

theorem date_xj {d : Int} (k : Nat) (hk : k < 9 ∨ (k = 9 ∧ d ≤ 4)) (h1 : 1 ≤ d) (h2 : d ≤ ml 1582 ((k : Int) + 1) 0) (n : Int) (hn : n = 2298884 + (cumN 1582 0 k + d) - 1) :
    n < 2299161 ∧ yJ n - 4800 + civC (eJ n) = 1582 ∧ civM (eJ n) = (k : Int) + 1 ∧ civD (eJ n) = d := by
  have hcv := cum_x k (by omega)
  have hle := (ml_le 1582 ((k : Int) + 1) 0).1
  obtain ⟨m1, m2, m3, m4, m5, m6⟩ := mo_off ((k : Int) + 1) d (moff ((k : Int) + 1) + d - 1) (by omega) (by omega) h1 (by omega) rfl
  have hne : moff ((k : Int) + 1) + d - 1 ≠ 365 := fun he => by
    obtain ⟨hk2, hd⟩ := m6 he
    have hk1 : k = 1 := by omega
    subst hk1
    have : ml 1582 ((1 : Nat) + 1 : Int) 0 = 28 := by decide
    omega
  by_cases hm : (k : Int) + 1 ≤ 2
  · rw [if_pos hm] at m3
    have hcum : cumN 1582 0 k = moff ((k : Int) + 1) - 306 := by
      have : k = 0 ∨ k = 1 := by omega
      rcases this with rfl | rfl <;> decide
    obtain ⟨r1, r2⟩ := read_j n 6381 (moff ((k : Int) + 1) + d - 1) m4 m5 (fun he => absurd he hne) (by rw [hn, hcum]; omega)
    rw [r1, r2, m1, m2, m3]
    exact ⟨by rw [hn, hcum]; omega, by omega, rfl, rfl⟩
  · rw [if_neg hm] at m3
    have hcum : cumN 1582 0 k = 59 + moff ((k : Int) + 1) := by
      rw [hcv, if_neg (by omega), if_neg (by omega), if_pos (by omega)]
    have hmo : moff ((k : Int) + 1) ≤ 214 ∧ (k < 9 → moff ((k : Int) + 1) + mx ((k : Int) + 1) ≤ 214) := by
      have : k = 2 ∨ k = 3 ∨ k = 4 ∨ k = 5 ∨ k = 6 ∨ k = 7 ∨ k = 8 ∨ k = 9 := by omega
      rcases this with rfl | rfl | rfl | rfl | rfl | rfl | rfl | rfl <;> decide
    obtain ⟨r1, r2⟩ := read_j n 6382 (moff ((k : Int) + 1) + d - 1) m4 m5 (fun he => absurd he hne) (by rw [hn, hcum]; omega)
    rw [r1, r2, m1, m2, m3]
    exact ⟨by rw [hn, hcum]; omega, by omega, rfl, rfl⟩

theorem date_xg {d : Int} (k : Nat) (hk : (k = 9 ∧ 4 < d) ∨ k = 10 ∨ k = 11) (h1 : 1 ≤ d) (h2 : d ≤ ml 1582 ((k : Int) + 1) 0) (n : Int) (hn : n = 2298884 + (cumN 1582 0 k + d) - 1) :
    2299161 ≤ n ∧ 100 * cG n + yG n - 4800 + civC (eG n) = 1582 ∧ civM (eG n) = (k : Int) + 1 ∧ civD (eG n) = dd 1582 0 k d := by
  rcases hk with ⟨rfl, hd⟩ | rfl | rfl
  · have hm : ml 1582 ((9 : Nat) + 1 : Int) 0 = 21 := by decide
    have hc : cumN 1582 0 9 = 273 := by decide
    have hdd : dd 1582 0 9 d = d + 10 := by simp [dd, hd]
    have hx1 : mx 10 = 31 := by decide
    have hx2 : moff 10 = 214 := by decide
    obtain ⟨m1, m2, m3, m4, m5, m6⟩ := mo_off 10 (d + 10) (214 + (d + 10) - 1) (by omega) (by omega) (by omega) (by omega) (by omega)
    obtain ⟨r1, r2, r3⟩ := read_g n 6382 (214 + (d + 10) - 1) m4 m5 (fun he => by omega) (by rw [hn, hc]; omega)
    rw [r1, r2, r3, m1, m2, m3, hdd]
    exact ⟨by rw [hn, hc]; omega, by decide, rfl, rfl⟩
  · have hm : ml 1582 ((10 : Nat) + 1 : Int) 0 = 30 := by decide
    have hc : cumN 1582 0 10 = 294 := by decide
    have hdd : dd 1582 0 10 d = d := by simp [dd]
    have hx1 : mx 11 = 30 := by decide
    have hx2 : moff 11 = 245 := by decide
    obtain ⟨m1, m2, m3, m4, m5, m6⟩ := mo_off 11 d (245 + d - 1) (by omega) (by omega) (by omega) (by omega) (by omega)
    obtain ⟨r1, r2, r3⟩ := read_g n 6382 (245 + d - 1) m4 m5 (fun he => by omega) (by rw [hn, hc]; omega)
    rw [r1, r2, r3, m1, m2, m3, hdd]
    exact ⟨by rw [hn, hc]; omega, by decide, rfl, rfl⟩
  · have hm : ml 1582 ((11 : Nat) + 1 : Int) 0 = 31 := by decide
    have hc : cumN 1582 0 11 = 324 := by decide
    have hdd : dd 1582 0 11 d = d := by simp [dd]
    have hx1 : mx 12 = 31 := by decide
    have hx2 : moff 12 = 275 := by decide
    obtain ⟨m1, m2, m3, m4, m5, m6⟩ := mo_off 12 d (275 + d - 1) (by omega) (by omega) (by omega) (by omega) (by omega)
    obtain ⟨r1, r2, r3⟩ := read_g n 6382 (275 + d - 1) m4 m5 (fun he => by omega) (by rw [hn, hc]; omega)
    rw [r1, r2, r3, m1, m2, m3, hdd]
    exact ⟨by rw [hn, hc]; omega, by decide, rfl, rfl⟩

/-- A year's length, by dayNumber and by the law's months. -/
theorem year_len (y c : Int) (hc0 : 0 ≤ c) (hc2 : c ≤ 2) : dn (y + 1) c - dn y c = cumN y c 12 := by
  by_cases hX : c = 0 ∧ y = 1582
  · obtain ⟨rfl, rfl⟩ := hX
    decide
  · rw [cum_year hX]
    by_cases hG : c = 1 ∨ (c = 0 ∧ 1582 < y)
    · have g0 : gJ y c = true := by
        unfold gJ
        rcases hG with rfl | ⟨rfl, h⟩
        · simp
        · simp [h]
      have g1 : gJ (y + 1) c = true := by
        unfold gJ
        rcases hG with rfl | ⟨rfl, h⟩
        · simp
        · simp; omega
      unfold dn
      rw [g0, g1]
      unfold lpI
      rcases lp_g hG with ⟨a0, a1, a2⟩ | ⟨a0, a1⟩
      · rw [a0]; simp; omega
      · rw [a0]; simp; omega
    · have g0 : gJ y c = false := by
        unfold gJ
        by_cases h0 : c = 0
        · have : ¬ 1582 < y := fun h => hG (Or.inr ⟨h0, h⟩)
          simp [h0, this]
        · have : ¬ c = 1 := fun h => hG (Or.inl h)
          simp [h0, this]
      have g1 : gJ (y + 1) c = false := by
        unfold gJ
        by_cases h0 : c = 0
        · have : ¬ 1582 < y := fun h => hG (Or.inr ⟨h0, h⟩)
          have : ¬ y = 1582 := fun h => hX ⟨h0, h⟩
          simp [h0]; omega
        · have : ¬ c = 1 := fun h => hG (Or.inl h)
          simp [h0, this]
      unfold dn
      rw [g0, g1]
      unfold lpI
      rcases lp_j hG with ⟨a0, a1⟩ | ⟨a0, a1⟩
      · rw [a0]; simp; omega
      · rw [a0]; simp; omega

theorem dn_range (y c : Int) (h1 : -3000000000 ≤ y) (h2 : y ≤ 3000000000) : -2000000000000 ≤ dn y c ∧ dn y c ≤ 2000000000000 := by
  unfold dn
  split <;> omega

/-- civilDate at the d-th day of the month k + 1 of the year y. -/
theorem civil_any (y c d : Int) (k : Nat) (w : World) (hy1 : -2147483648 ≤ y) (hy2 : y ≤ 2147483648) (hc0 : 0 ≤ c) (hc2 : c ≤ 2) (hk : k < 12) (h1 : 1 ≤ d) (h2 : d ≤ ml y ((k : Int) + 1) c) (n : Int) (hn : n = dn y c + (cumN y c k + d) - 1)
    (hr1 : -1000000000000 ≤ n) (hr2 : n ≤ 1000000000000) :
    Calls Ybaf.prog 17 #[.int .i64 n, .int .i64 c] w fun e w' => e = .returned (.tuple #[.int .i64 y, .int .i64 ((k : Int) + 1), .int .i64 (dd y c k d)]) ∧ w' = w := by
  by_cases hX : c = 0 ∧ y = 1582
  · obtain ⟨rfl, rfl⟩ := hX
    rw [dn_x] at hn
    by_cases hj : k < 9 ∨ (k = 9 ∧ d ≤ 4)
    · obtain ⟨a0, a1, a2, a3⟩ := date_xj k hj h1 h2 n hn
      have hdd : dd 1582 0 k d = d := by unfold dd; rw [if_neg (by omega)]
      rw [hdd]
      have := civil_j n 0 w hr1 hr2 rfl (fun _ => a0)
      rw [a1, a2, a3] at this
      exact this
    · obtain ⟨a0, a1, a2, a3⟩ := date_xg k (by omega) h1 h2 n hn
      have := civil_g n 0 w hr1 hr2 (Or.inr ⟨rfl, a0⟩)
      rw [a1, a2, a3] at this
      exact this
  · have hdd : dd y c k d = d := by unfold dd; rw [if_neg (fun h => hX ⟨h.1, h.2.1⟩)]
    rw [hdd]
    have hcv := cum_val hX k hk
    have hl : 0 ≤ lpI y c ∧ lpI y c ≤ 1 := by unfold lpI; split <;> omega
    have hmo : 0 ≤ moff ((k : Int) + 1) ∧ (2 ≤ k → moff ((k : Int) + 1) + mx ((k : Int) + 1) ≤ 306) := by
      have : k = 0 ∨ k = 1 ∨ k = 2 ∨ k = 3 ∨ k = 4 ∨ k = 5 ∨ k = 6 ∨ k = 7 ∨ k = 8 ∨ k = 9 ∨ k = 10 ∨ k = 11 := by omega
      rcases this with rfl | rfl | rfl | rfl | rfl | rfl | rfl | rfl | rfl | rfl | rfl | rfl <;> decide
    have hle := (ml_le y ((k : Int) + 1) c).1
    have hmx : mx ((k : Int) + 1) ≤ 31 := by unfold mx; split <;> (try split) <;> omega
    have hcr : 0 ≤ cumN y c k ∧ cumN y c k + d ≤ 366 := by
      rw [hcv]
      split
      · omega
      · split <;> omega
    by_cases hG : c = 1 ∨ (c = 0 ∧ 1582 < y)
    · obtain ⟨a1, a2, a3⟩ := date_g hG k hk h1 h2 n hn
      have hge : c = 1 ∨ (c = 0 ∧ 2299161 ≤ n) := by
        rcases hG with h | ⟨h, hy⟩
        · exact Or.inl h
        · refine Or.inr ⟨h, ?_⟩
          have hgJ : gJ y c = true := by unfold gJ; simp [h, hy]
          have hdn : dn y c = 307 + 365 * (y + 4799) + (y + 4799) / 4 - (y + 4799) / 100 + (y + 4799) / 400 - 32045 := by unfold dn; rw [hgJ]; rfl
          omega
      have := civil_g n c w hr1 hr2 hge
      rw [a1, a2, a3] at this
      exact this
    · obtain ⟨a1, a2, a3⟩ := date_j hG hX k hk h1 h2 n hn
      have hc1 : (c == 1) = false := by simp; exact fun h => hG (Or.inl h)
      have hlt : (c == 0) = true → n < 2299161 := by
        intro h
        have h0 : c = 0 := by simpa using h
        have hy3 : ¬ 1582 < y := fun h => hG (Or.inr ⟨h0, h⟩)
        have hy4 : ¬ y = 1582 := fun h => hX ⟨h0, h⟩
        have hgJ : gJ y c = false := by unfold gJ; simp [h0, hy3]
        have hdn : dn y c = 307 + 365 * (y + 4799) + (y + 4799) / 4 - 32083 := by unfold dn; rw [hgJ]; rfl
        omega
      have := civil_j n c w hr1 hr2 hc1 hlt
      rw [a1, a2, a3] at this
      exact this

end Go.Proofs.YbulkavauFmt
