/-
  The law's own array of stuck rounds.
-/
import Derived.Test.YbulkavbiBig
namespace Go.Proofs.Ybulkavbi
open Go Go.RowKit

/-- Behind r rounds of the law's loop. -/
structure St (w3 : World) (v : Vals) (q : Int) (r : Nat) (wr : World) : Prop where
  bel : Below w3.heap.size w3 wr
  c : ∀ j, j < 4 → wr.cell? ⟨w3.heap.size, j + 1, none⟩ = some (.bool (decide (j < r) && fin v q j))
  f : ∀ j, j < 4 → wr.frozen? ⟨w3.heap.size, j + 1, none⟩ = false

theorem st_start (w3 : World) (v : Vals) (q : Int) : St w3 v q 0 (w3.alloc (.cells #[.bool false, .bool false, .bool false, .bool false, .bool false] 109)) := by
  refine ⟨(Below.refl _ _).alloc (Nat.le_refl _) _, ?_, ?_⟩
  · intro j hj
    rw [World.cell?_alloc_new]
    have h4 : j = 0 ∨ j = 1 ∨ j = 2 ∨ j = 3 := by omega
    rcases h4 with rfl | rfl | rfl | rfl <;> simp
  · intro j hj
    rw [World.frozen?_alloc_new]

theorem St.grow {w3 : World} {v : Vals} {q : Int} {r : Nat} {wr wr' : World} (h : St w3 v q r wr) (hb : Below wr.heap.size wr wr') : St w3 v q r wr' :=
  ⟨h.bel.trans (hb.mono h.bel.size), fun j hj => by rw [hb.cell (cell_lt (h.c j hj))]; exact h.c j hj, fun j hj => by rw [hb.frozen (cell_lt (h.c j hj))]; exact h.f j hj⟩

theorem St.skip {w3 : World} {v : Vals} {q : Int} {r : Nat} {wr : World} (h : St w3 v q r wr) (hh : hasR v r v.n = false) : St w3 v q (r + 1) wr :=
  ⟨h.bel, fun j hj => by
    rw [h.c j hj]
    by_cases e : j = r
    · subst e
      have : fin v q j = false := by unfold fin; rw [hh]; rfl
      rw [this]
      simp
    · have : decide (j < r) = decide (j < r + 1) := by simp; omega
      rw [this], h.f⟩

theorem fin_on {v : Vals} {q : Int} {r : Nat} (hu : okUp v q r = true) (hh : hasR v r v.n = true) (hs : sr v r v.n < q) : fin v q r = true := by
  unfold fin
  rw [hh, okUp, hu, hh]
  simpa using hs

theorem St.set {w3 : World} {v : Vals} {q : Int} {r : Nat} {wr : World} (h : St w3 v q r wr) (hr : r < 4) (hf : fin v q r = true) : St w3 v q (r + 1) (wr.setCell ⟨w3.heap.size, r + 1, none⟩ (.bool true)) :=
  ⟨h.bel.setCell (Nat.le_refl _) _, fun j hj => by
    by_cases e : j = r
    · subst e
      rw [World.cell?_setCell_same _ _ _ (h.c j hj), hf]
      simp
    · rw [World.cell?_setCell_other _ _ _ _ (by intro x; injection x with _ x _; omega), h.c j hj]
      have : decide (j < r) = decide (j < r + 1) := by simp; omega
      rw [this], fun j hj => by rw [World.frozen?_setCell]; exact h.f j hj⟩

theorem okUp_skip {v : Vals} {q : Int} {r : Nat} (hu : okUp v q r = true) (hh : hasR v r v.n = false) : okUp v q (r + 1) = true := by
  rw [okUp, hu, hh]
  rfl

theorem okUp_on {v : Vals} {q : Int} {r : Nat} (hu : okUp v q r = true) (hs : sr v r v.n < q) : okUp v q (r + 1) = true := by
  rw [okUp, hu]
  simp [hs]

theorem St.all {w3 : World} {v : Vals} {q : Int} {wr : World} (h : St w3 v q 4 wr) : ∀ j, j < 4 → wr.cell? ⟨w3.heap.size, j + 1, none⟩ = some (.bool (fin v q j)) := fun j hj => by
  rw [h.c j hj]
  simp [hj]

theorem St.stop {w3 : World} {v : Vals} {q : Int} {r : Nat} {wr : World} (h : St w3 v q r wr) (hh : hasR v r v.n = true) (hs : ¬ sr v r v.n < q) : ∀ j, j < 4 → wr.cell? ⟨w3.heap.size, j + 1, none⟩ = some (.bool (fin v q j)) := fun j hj => by
  rw [h.c j hj]
  by_cases e : j < r
  · simp [e]
  · have : fin v q j = false := by
      cases hf : fin v q j
      · rfl
      · unfold fin at hf
        rw [Bool.and_eq_true, okUp_iff] at hf
        exact absurd (hf.2 r (by omega) hh) hs
    rw [this]
    simp

theorem sr_succ (v : Vals) (r i : Nat) : sr v r (i + 1) = if (!v.C i && decide (v.R i = r)) = true then sr v r i + v.S i else sr v r i := rfl
theorem hasR_succ (v : Vals) (r i : Nat) : hasR v r (i + 1) = if (!v.C i && decide (v.R i = r)) = true then true else hasR v r i := rfl
theorem bk_succ (v : Vals) (x : Nums) (K : Nat → Bool) (i : Nat) : bk v x K (i + 1) = if cut v x K i = true then wrap64 (bk v x K i - v.S i) else bk v x K i := rfl

end Go.Proofs.Ybulkavbi
