/-
  strand: the plain functions, their law, and the walk.
-/
import Derived.Test.YbulkavbiSmall
namespace Go.Proofs.Ybulkavbi
open Go Go.RowKit

/-- A running validator of the round r + 1, among the first i. -/
def hasR (v : Vals) (r : Nat) : Nat → Bool
  | 0 => false
  | i + 1 => if (!v.C i && decide (v.R i = r)) = true then true else hasR v r i

theorem hasR_iff (v : Vals) (r : Nat) : ∀ i, hasR v r i = true ↔ ∃ j, j < i ∧ v.C j = false ∧ v.R j = r
  | 0 => by simp [hasR]
  | i + 1 => by
    have ih := hasR_iff v r i
    unfold hasR
    split
    · rename_i h
      simp at h
      simp only [true_iff]
      exact ⟨i, by omega, h.1, h.2⟩
    · rename_i h
      simp at h
      rw [ih]
      constructor
      · rintro ⟨j, a, b, c⟩
        exact ⟨j, by omega, b, c⟩
      · rintro ⟨j, a, b, c⟩
        by_cases e : j = i
        · subst e
          exact absurd c (h b)
        · exact ⟨j, by omega, b, c⟩

/-- No round below r holds running validators with a quorum. -/
def okUp (v : Vals) (q : Int) : Nat → Bool
  | 0 => true
  | r + 1 => okUp v q r && (!hasR v r v.n || decide (sr v r v.n < q))

theorem okUp_iff (v : Vals) (q : Int) : ∀ r, okUp v q r = true ↔ ∀ j, j < r → hasR v j v.n = true → sr v j v.n < q
  | 0 => by simp [okUp]
  | r + 1 => by
    rw [okUp, Bool.and_eq_true, okUp_iff v q r]
    constructor
    · rintro ⟨h1, h2⟩ j hj hh
      by_cases e : j = r
      · subst e
        simpa [hh] using h2
      · exact h1 j (by omega) hh
    · intro h
      refine ⟨fun j hj => h j (by omega), ?_⟩
      cases hh : hasR v r v.n
      · rfl
      · simpa using h r (by omega) hh

/-- The rounds that strand marks. -/
def fin (v : Vals) (q : Int) (r : Nat) : Bool := hasR v r v.n && okUp v q (r + 1)

/-- strand's pick: the lowest round, not marked yet, of a running validator among the first i. -/
def mn (v : Vals) (K : Nat → Bool) : Nat → Int
  | 0 => -1
  | i + 1 => if (!v.C i && !K (v.R i) && (decide (mn v K i < 0) || decide (((v.R i : Int) + 1) < mn v K i))) = true then (v.R i : Int) + 1 else mn v K i

theorem mn_spec (v : Vals) (K : Nat → Bool) : ∀ i, (mn v K i = -1 ∧ ∀ j, j < i → v.C j = false → K (v.R j) = true) ∨
    (∃ r : Nat, mn v K i = (r : Int) + 1 ∧ K r = false ∧ (∃ j, j < i ∧ v.C j = false ∧ v.R j = r) ∧ ∀ j, j < i → v.C j = false → K (v.R j) = false → r ≤ v.R j)
  | 0 => Or.inl ⟨rfl, fun j hj => by omega⟩
  | i + 1 => by
    unfold mn
    rcases mn_spec v K i with ⟨h1, h2⟩ | ⟨r, h1, h2, ⟨j0, a, b, c⟩, h4⟩
    · rw [h1]
      by_cases hg : v.C i = false ∧ K (v.R i) = false
      · right
        refine ⟨v.R i, by simp [hg.1, hg.2], hg.2, ⟨i, by omega, hg.1, rfl⟩, ?_⟩
        intro j hj hc hk
        by_cases e : j = i
        · subst e; omega
        · have := h2 j (by omega) hc
          rw [hk] at this
          exact absurd this (by simp)
      · left
        refine ⟨by rw [if_neg]; simp; intro x; cases hk : K (v.R i); (exact absurd ⟨x, hk⟩ hg); rfl, ?_⟩
        intro j hj hc
        by_cases e : j = i
        · subst e
          cases hk : K (v.R j)
          · exact absurd ⟨hc, hk⟩ hg
          · rfl
        · exact h2 j (by omega) hc
    · right
      rw [h1]
      by_cases hg : v.C i = false ∧ K (v.R i) = false ∧ v.R i < r
      · refine ⟨v.R i, ?_, hg.2.1, ⟨i, by omega, hg.1, rfl⟩, ?_⟩
        · rw [if_pos]
          simp [hg.1, hg.2.1]
          omega
        · intro j hj hc hk
          by_cases e : j = i
          · subst e; omega
          · have := h4 j (by omega) hc hk
            omega
      · refine ⟨r, ?_, h2, ⟨j0, by omega, b, c⟩, ?_⟩
        · rw [if_neg]
          simp
          intro x y
          refine ⟨by omega, ?_⟩
          by_cases z : v.R i < r
          · exact absurd ⟨x, y, z⟩ hg
          · omega
        · intro j hj hc hk
          by_cases e : j = i
          · subst e
            by_cases z : v.R j < r
            · exact absurd ⟨hc, hk, z⟩ hg
            · omega
          · exact h4 j (by omega) hc hk

/-- The pick at the end, and what it says. -/
theorem pick_none {v : Vals} {K : Nat → Bool} {q : Int} (hK : ∀ r, K r = true → fin v q r = true) (h : mn v K v.n = -1) (r : Nat) : K r = fin v q r := by
  rcases mn_spec v K v.n with ⟨_, h2⟩ | ⟨r', h1, _⟩
  · cases hk : K r
    · cases hf : fin v q r
      · rfl
      · unfold fin at hf
        rw [Bool.and_eq_true, hasR_iff] at hf
        obtain ⟨⟨j, a, b, c⟩, _⟩ := hf
        have := h2 j a b
        rw [c, hk] at this
        exact absurd this (by simp)
    · exact (hK r hk).symm
  · omega

theorem pick_stop {v : Vals} {K : Nat → Bool} {q : Int} (hK : ∀ r, K r = true → fin v q r = true) {r : Nat} (h : mn v K v.n = (r : Int) + 1) (hs : ¬ sr v r v.n < q) (r' : Nat) : K r' = fin v q r' := by
  rcases mn_spec v K v.n with ⟨h1, _⟩ | ⟨r0, h1, h2, h3, h4⟩
  · omega
  · have e : r0 = r := by omega
    subst e
    cases hk : K r'
    · cases hf : fin v q r'
      · rfl
      · unfold fin at hf
        rw [Bool.and_eq_true, hasR_iff, okUp_iff] at hf
        obtain ⟨⟨j, a, b, c⟩, hu⟩ := hf
        have hle := h4 j a b (by rw [c]; exact hk)
        exact absurd (hu r0 (by omega) ((hasR_iff v r0 v.n).2 h3)) hs
    · exact (hK r' hk).symm

theorem pick_on {v : Vals} {K : Nat → Bool} {q : Int} (hK : ∀ r, K r = true → fin v q r = true) {r : Nat} (h : mn v K v.n = (r : Int) + 1) (hs : sr v r v.n < q) : fin v q r = true := by
  rcases mn_spec v K v.n with ⟨h1, _⟩ | ⟨r0, h1, h2, h3, h4⟩
  · omega
  · have e : r0 = r := by omega
    subst e
    unfold fin
    rw [Bool.and_eq_true, okUp_iff]
    refine ⟨(hasR_iff v r0 v.n).2 h3, ?_⟩
    intro j hj hh
    by_cases e : j = r0
    · subst e; exact hs
    · have hh' := hh
      rw [hasR_iff] at hh'
      obtain ⟨i, a, b, c⟩ := hh'
      cases hk : K j
      · have := h4 i a b (by rw [c]; exact hk)
        omega
      · have hf := hK j hk
        unfold fin at hf
        rw [Bool.and_eq_true, okUp_iff] at hf
        exact hf.2 j (by omega) hh

/-- How many of the four rounds are not marked. -/
def left (K : Nat → Bool) : Nat := (if K 0 then 0 else 1) + (if K 1 then 0 else 1) + (if K 2 then 0 else 1) + (if K 3 then 0 else 1)

def mark (K : Nat → Bool) (r : Nat) (j : Nat) : Bool := if j = r then true else K j

theorem left_mark {K : Nat → Bool} {r : Nat} (hr : r < 4) (h : K r = false) : left (mark K r) < left K := by
  have h4 : r = 0 ∨ r = 1 ∨ r = 2 ∨ r = 3 := by omega
  rcases h4 with rfl | rfl | rfl | rfl <;> simp [left, mark, h] <;> omega

theorem Env.mark {w : World} {p : At} {v : Vals} {x : Nums} {K : Nat → Bool} (h : Env w p v x K) {r : Nat} (hr : r < 4) :
    Env (w.setCell ⟨p.Q r, 3, none⟩ (.bool true)) p v x (mark K r) := by
  have c : ∀ {a : Addr} {u : Value}, a.block ≠ p.Q r → w.cell? a = some u → (w.setCell ⟨p.Q r, 3, none⟩ (.bool true)).cell? a = some u := fun {a u} hn hu => by
    rw [World.cell?_setCell_other _ _ _ _ (by intro e; exact hn (by rw [← e]))]; exact hu
  have o := h.o1 r hr
  have o3 := h.o3
  have nd : p.d ≠ p.Q r := by omega
  have ne : p.e ≠ p.Q r := by omega
  have ns : p.sc ≠ p.Q r := by omega
  have nf : p.f ≠ p.Q r := by omega
  have nA : p.A ≠ p.Q r := by omega
  have nV : p.V ≠ p.Q r := by omega
  have nR : p.RB ≠ p.Q r := by omega
  have nh : ∀ i, i < v.n → p.hd i ≠ p.Q r := fun i hi => by have := o3.2.2.2.2.2 i hi; omega
  exact ⟨c nd h.d0, c nd h.d2, c nd h.d3, c nd h.d4, c nd h.d5, c nd h.d6, c ne h.e0, c ne h.e3, c ne h.e5, c ne h.e53, c ns h.s6, c nf h.f0,
    fun i hi => c nA (h.a0 i hi), fun i hi => c nA (h.a1 i hi), fun i hi => c nA (h.a2 i hi), fun i hi => c nA (h.a3 i hi), fun i hi => c nA (h.a4 i hi), fun i hi => c nA (h.a5 i hi),
    fun i hi => c nV (h.v0 i hi), fun i hi => c nV (h.v1 i hi), fun i hi => c nV (h.v2 i hi), fun i hi => c nV (h.v3 i hi), fun i hi => c nV (h.v4 i hi), fun i hi => c nV (h.v5 i hi), fun i hi => c nV (h.v6 i hi),
    fun i hi => c (nh i hi) (h.h0 i hi), fun j hj => c nR (h.r j hj),
    fun j hj => by
      unfold Ybulkavbi.mark
      by_cases e : j = r
      · subst e
        rw [if_pos rfl, World.cell?_setCell_same _ _ _ (h.k j hj)]
      · rw [if_neg e]
        exact c (h.o2 j r hj hr e) (h.k j hj),
    fun j hj => by rw [World.frozen?_setCell]; exact h.kf j hj, h.o1, h.o2, h.o3⟩

end Go.Proofs.Ybulkavbi
