/-
  The design in memory, as the law lays it, and the plain functions that the Go text computes over it.
-/
import Derived.Test.YbulkavbiRows
import Derived.WalkKit
namespace Go.Proofs.Ybulkavbi
open Go Go.RowKit

/-- What the law draws of the validators: each one's stake, head's height, round (1 to 4), and whether it crashed. -/
structure Vals where
  n : Nat
  S : Nat → Int
  H : Nat → Int
  R : Nat → Nat
  C : Nat → Bool

structure Vals.Ok (v : Vals) : Prop where
  n : v.n ≤ 1024
  S : ∀ i, 0 ≤ v.S i ∧ v.S i < 1048576
  H : ∀ i, -2147483648 ≤ v.H i ∧ v.H i ≤ 2147483647
  R : ∀ i, v.R i < 4

/-- The places: the design, the engine, the scenario, the final block; the validators' array, the standings', the rounds'; each round's state; each head. -/
structure At where
  d : Nat
  e : Nat
  sc : Nat
  f : Nat
  V : Nat
  A : Nat
  RB : Nat
  Q : Nat → Nat
  hd : Nat → Nat

/-- The numbers. -/
structure Nums where
  q : Int
  run : Int
  mc : Int
  fh : Int

structure Env (w : World) (p : At) (v : Vals) (x : Nums) (K : Nat → Bool) : Prop where
  d0 : w.cell? ⟨p.d, 0, none⟩ = some (.pointer (some ⟨p.e, 0, none⟩))
  d2 : w.cell? ⟨p.d, 2, none⟩ = some (.int .i64 x.q)
  d3 : w.cell? ⟨p.d, 3, none⟩ = some (.map none)
  d4 : w.cell? ⟨p.d, 4, none⟩ = some (.slice (some ⟨p.A, 0, none⟩) v.n v.n)
  d5 : w.cell? ⟨p.d, 5, none⟩ = some (.slice (some ⟨p.RB, 0, none⟩) 4 4)
  d6 : w.cell? ⟨p.d, 6, none⟩ = some (.int .i64 1)
  e0 : w.cell? ⟨p.e, 0, none⟩ = some (.pointer (some ⟨p.sc, 0, none⟩))
  e3 : w.cell? ⟨p.e, 3, none⟩ = some (.slice (some ⟨p.V, 0, none⟩) v.n v.n)
  e5 : w.cell? ⟨p.e, 5, none⟩ = some (.int .i64 x.run)
  e53 : w.cell? ⟨p.e, 53, none⟩ = some (.pointer (some ⟨p.f, 0, none⟩))
  s6 : w.cell? ⟨p.sc, 6, none⟩ = some (.int .i64 x.mc)
  f0 : w.cell? ⟨p.f, 0, none⟩ = some (.int .i64 x.fh)
  a0 : ∀ i, i < v.n → w.cell? ⟨p.A, i * 6, none⟩ = some (.int .i64 ((v.R i : Int) + 1))
  a1 : ∀ i, i < v.n → w.cell? ⟨p.A, i * 6 + 1, none⟩ = some (.int .i64 0)
  a2 : ∀ i, i < v.n → w.cell? ⟨p.A, i * 6 + 2, none⟩ = some (.int .u64 0)
  a3 : ∀ i, i < v.n → w.cell? ⟨p.A, i * 6 + 3, none⟩ = some (.pointer (some ⟨p.Q (v.R i), 0, none⟩))
  a4 : ∀ i, i < v.n → w.cell? ⟨p.A, i * 6 + 4, none⟩ = some (.bool false)
  a5 : ∀ i, i < v.n → w.cell? ⟨p.A, i * 6 + 5, none⟩ = some (.slice none 0 0)
  v0 : ∀ i, i < v.n → w.cell? ⟨p.V, i * 7, none⟩ = some (.string ⟨#[]⟩)
  v1 : ∀ i, i < v.n → w.cell? ⟨p.V, i * 7 + 1, none⟩ = some (.int .i64 (v.S i))
  v2 : ∀ i, i < v.n → w.cell? ⟨p.V, i * 7 + 2, none⟩ = some (.pointer (some ⟨p.hd i, 0, none⟩))
  v3 : ∀ i, i < v.n → w.cell? ⟨p.V, i * 7 + 3, none⟩ = some (.bool (v.C i))
  v4 : ∀ i, i < v.n → w.cell? ⟨p.V, i * 7 + 4, none⟩ = some (.int .i64 0)
  v5 : ∀ i, i < v.n → w.cell? ⟨p.V, i * 7 + 5, none⟩ = some (.pointer none)
  v6 : ∀ i, i < v.n → w.cell? ⟨p.V, i * 7 + 6, none⟩ = some (.map none)
  h0 : ∀ i, i < v.n → w.cell? ⟨p.hd i, 0, none⟩ = some (.int .i64 (v.H i))
  r : ∀ j, j < 4 → w.cell? ⟨p.RB, j, none⟩ = some (.pointer (some ⟨p.Q j, 0, none⟩))
  k : ∀ j, j < 4 → w.cell? ⟨p.Q j, 3, none⟩ = some (.bool (K j))
  kf : ∀ j, j < 4 → w.frozen? ⟨p.Q j, 3, none⟩ = false
  o1 : ∀ j, j < 4 → p.RB < p.Q j ∧ p.Q j < p.V
  o2 : ∀ i j, i < 4 → j < 4 → i ≠ j → p.Q i ≠ p.Q j
  o3 : p.V < p.A ∧ p.V < p.d ∧ p.V < p.e ∧ p.V < p.sc ∧ p.V < p.f ∧ ∀ i, i < v.n → p.V < p.hd i

theorem cell_lt {w : World} {a : Addr} {v : Value} (h : w.cell? a = some v) : a.block < w.heap.size := World.block_lt_of_cell? _ _ h

theorem Env.below {w w' : World} {p : At} {v : Vals} {x : Nums} {K : Nat → Bool} (h : Env w p v x K) (hb : Below w.heap.size w w') : Env w' p v x K := by
  have c : ∀ {a : Addr} {u : Value}, w.cell? a = some u → w'.cell? a = some u := fun {a u} hu => by rw [hb.cell (cell_lt hu)]; exact hu
  exact ⟨c h.d0, c h.d2, c h.d3, c h.d4, c h.d5, c h.d6, c h.e0, c h.e3, c h.e5, c h.e53, c h.s6, c h.f0,
    fun i hi => c (h.a0 i hi), fun i hi => c (h.a1 i hi), fun i hi => c (h.a2 i hi), fun i hi => c (h.a3 i hi), fun i hi => c (h.a4 i hi), fun i hi => c (h.a5 i hi),
    fun i hi => c (h.v0 i hi), fun i hi => c (h.v1 i hi), fun i hi => c (h.v2 i hi), fun i hi => c (h.v3 i hi), fun i hi => c (h.v4 i hi), fun i hi => c (h.v5 i hi), fun i hi => c (h.v6 i hi),
    fun i hi => c (h.h0 i hi), fun j hj => c (h.r j hj), fun j hj => c (h.k j hj), fun j hj => by rw [hb.frozen (cell_lt (h.k j hj))]; exact h.kf j hj, h.o1, h.o2, h.o3⟩

/-- The stake of the running validators of the round r + 1, of the first i. -/
def sr (v : Vals) (r : Nat) : Nat → Int
  | 0 => 0
  | i + 1 => if (!v.C i && decide (v.R i = r)) = true then sr v r i + v.S i else sr v r i

theorem sr_range {v : Vals} (hv : v.Ok) (r : Nat) : ∀ i : Nat, 0 ≤ sr v r i ∧ sr v r i ≤ 1048576 * (i : Int)
  | 0 => by simp [sr]
  | i + 1 => by
    have h := sr_range hv r i
    have h' := hv.S i
    unfold sr
    split <;> omega

end Go.Proofs.Ybulkavbi
