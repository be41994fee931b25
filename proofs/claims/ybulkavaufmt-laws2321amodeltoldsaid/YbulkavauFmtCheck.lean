/-
  zzs2321acheck: whatever the year, the day and the calendar: true.
-/
import Derived.Test.YbulkavauFmtDOY2
namespace Go.Proofs.YbulkavauFmt
open Go Go.RowKit Go.Extern.Stop Go.Stop Go.Extern
attribute [local go_sem] run_store_float

theorem run_equalIn_float {P : Program} {w : World} (d : Nat) (t : TypeId) (k : FloatKind) (a b : Nat) (h : P.underlying t = some (.float k)) : (Op.equalIn (d + 1) t (.float k a) (.float k b)).run P w = .ok (Op.floatEq k a b) w := by
  simp [Op.equalIn, run_underlying h]

theorem eqDate (y m c : Int) (b : Nat) (hb : Op.floatEq .f64 b b = true) (w : World) :
    (binOp .eql 30 (.agg #[.int .i64 y, .int .i64 m, .float .f64 b, .int .i64 c]) (.agg #[.int .i64 y, .int .i64 m, .float .f64 b, .int .i64 c])).run Ybaf.prog w = .ok (.bool true) w := by
  have hf := fun (w : World) (d : Nat) => run_equalIn_float (P := Ybaf.prog) (w := w) d 28 .f64 b b Ybaf.underlying28
  rw [run_eql_struct]
  go_simp

theorem feq0 : Op.floatEq .f64 0 0 = true := by decide +kernel
theorem feq_all : ∀ d : Nat, d < 32 → Op.floatEq .f64 (floatOfInt .f64 (d : Int)) (floatOfInt .f64 (d : Int)) = true := by decide +kernel

/-- The two sentinels, as the text lays them. -/
structure Sent (w : World) (a0 a1 : Addr) (s0 s1 : ByteArray) : Prop where
  g0 : w.cell? ⟨0, 0, none⟩ = some (.iface 65 (.pointer (some a0)))
  g1 : w.cell? ⟨1, 0, none⟩ = some (.iface 65 (.pointer (some a1)))
  t0 : w.cell? a0 = some (.string s0)
  t1 : w.cell? a1 = some (.string s1)

theorem Sent.below {w w' : World} {a0 a1 : Addr} {s0 s1 : ByteArray} (h : Sent w a0 a1 s0 s1) (hb : Below w.heap.size w w') : Sent w' a0 a1 s0 s1 :=
  ⟨by rw [hb.cell (cell_lt h.g0)]; exact h.g0, by rw [hb.cell (cell_lt h.g1)]; exact h.g1, by rw [hb.cell (cell_lt h.t0)]; exact h.t0, by rw [hb.cell (cell_lt h.t1)]; exact h.t1⟩

set_option maxHeartbeats 400000 in
/-- Out of range: the calendar or the year. -/
theorem check_range (F : Interp) (y yd c : Int) (a0 a1 : Addr) (s0 s1 : ByteArray) (w : World) (hF : F.answers w.tape) (hS : Sent w a0 a1 s0 s1) (h : (c < 0 ∨ 2 < c) ∨ (y ≤ -2147483648 ∨ 2147483648 ≤ y)) :
    Calls Ybaf.prog 5 #[.int .i64 y, .int .i64 yd, .int .i64 c] w fun e w' => e = .returned (.bool true) ∧ Below w.heap.size w w' := by
  have hb0 : Below w.heap.size w (w.alloc Z30) := (Below.refl _ w).alloc (Nat.le_refl _) _
  have hS0 := hS.below hb0
  have hD : Calls Ybaf.prog 6 #[.int .i64 y, .int .i64 yd, .int .i64 c] w fun e w' => ∃ p q, e = .returned (.tuple #[zeroDate, .iface 51 (.pointer (some ⟨p, 0, none⟩))]) ∧ Wr2 w w' a0 p q := by
    refine DOY_err F y yd c a0 w hF ?_
    by_cases hc : c < 0 ∨ 2 < c
    · exact doy_cal F y yd c s0 a0 (w.alloc Z30) hF hc hS0.g0 hS0.t0
    · exact doy_year F y yd c s0 a0 (w.alloc Z30) hF (by omega) (by omega) (by omega) hS0.g0 hS0.t0
  have hz := eqDate 0 0 0 0 feq0
  have hcase : ((c < 0) ∨ (¬ c < 0 ∧ 2 < c)) ∨ ((¬ c < 0 ∧ ¬ 2 < c ∧ y ≤ -2147483648) ∨ (¬ c < 0 ∧ ¬ 2 < c ∧ ¬ y ≤ -2147483648 ∧ 2147483648 ≤ y)) := by omega
  clear h hS0 hb0
  rcases hcase with (h1 | ⟨h1, h2⟩) | (⟨h1, h2, h3⟩ | ⟨h1, h2, h3, h4⟩)
  · have d1 : decide (c < 0) = true := by simp; omega
    go_enter Ybaf.func5, Ybaf.ntmps5
    go_wp2_with fail
    refine hD.mono ?_
    rintro e w1 ⟨p, q, rfl, hW1, hW2, hW3⟩
    have hb1 := (Below.refl w1.heap.size w1).alloc (Nat.le_refl _) Z30
    have his := is_wrap2 p q a0 (w1.alloc Z30) (by rw [hb1.cell (cell_lt hW2)]; exact hW2) (by rw [hb1.cell (cell_lt hW3)]; exact hW3)
    have hg0 : (w1.alloc Z30).cell? ⟨0, 0, none⟩ = some (.iface 65 (.pointer (some a0))) := ((hS.below hW1).below hb1).g0
    have hbb : Below w.heap.size w (w1.alloc Z30) := hW1.alloc hW1.size _
    have Hbb : Hid (Below w.heap.size w (w1.alloc Z30)) := hbb
    unfold Z30 at hg0
    unfold zeroDate
    clear hD hb1 hbb hW1 hW2 hW3
    go_wp2_with (go_at_call 7; refine his.mono ?_; rintro e w2 ⟨rfl, hw2⟩; rw [hw2]; clear hw2; unfold Z30)
    go_ret
    exact ⟨rfl, Hbb.out⟩
  · have d1 : decide (c < 0) = false := by simp; omega
    have d2 : decide (2 < c) = true := by simp; omega
    go_enter Ybaf.func5, Ybaf.ntmps5
    go_wp2_with fail
    refine hD.mono ?_
    rintro e w1 ⟨p, q, rfl, hW1, hW2, hW3⟩
    have hb1 := (Below.refl w1.heap.size w1).alloc (Nat.le_refl _) Z30
    have his := is_wrap2 p q a0 (w1.alloc Z30) (by rw [hb1.cell (cell_lt hW2)]; exact hW2) (by rw [hb1.cell (cell_lt hW3)]; exact hW3)
    have hg0 : (w1.alloc Z30).cell? ⟨0, 0, none⟩ = some (.iface 65 (.pointer (some a0))) := ((hS.below hW1).below hb1).g0
    have hbb : Below w.heap.size w (w1.alloc Z30) := hW1.alloc hW1.size _
    have Hbb : Hid (Below w.heap.size w (w1.alloc Z30)) := hbb
    unfold Z30 at hg0
    unfold zeroDate
    clear hD hb1 hbb hW1 hW2 hW3
    go_wp2_with (go_at_call 7; refine his.mono ?_; rintro e w2 ⟨rfl, hw2⟩; rw [hw2]; clear hw2; unfold Z30)
    go_ret
    exact ⟨rfl, Hbb.out⟩
  · have d1 : decide (c < 0) = false := by simp; omega
    have d2 : decide (2 < c) = false := by simp; omega
    have d3 : decide (y ≤ -2147483648) = true := by simp; omega
    go_enter Ybaf.func5, Ybaf.ntmps5
    go_wp2_with fail
    refine hD.mono ?_
    rintro e w1 ⟨p, q, rfl, hW1, hW2, hW3⟩
    have hb1 := (Below.refl w1.heap.size w1).alloc (Nat.le_refl _) Z30
    have his := is_wrap2 p q a0 (w1.alloc Z30) (by rw [hb1.cell (cell_lt hW2)]; exact hW2) (by rw [hb1.cell (cell_lt hW3)]; exact hW3)
    have hg0 : (w1.alloc Z30).cell? ⟨0, 0, none⟩ = some (.iface 65 (.pointer (some a0))) := ((hS.below hW1).below hb1).g0
    have hbb : Below w.heap.size w (w1.alloc Z30) := hW1.alloc hW1.size _
    have Hbb : Hid (Below w.heap.size w (w1.alloc Z30)) := hbb
    unfold Z30 at hg0
    unfold zeroDate
    clear hD hb1 hbb hW1 hW2 hW3
    go_wp2_with (go_at_call 7; refine his.mono ?_; rintro e w2 ⟨rfl, hw2⟩; rw [hw2]; clear hw2; unfold Z30)
    go_ret
    exact ⟨rfl, Hbb.out⟩
  · have d1 : decide (c < 0) = false := by simp; omega
    have d2 : decide (2 < c) = false := by simp; omega
    have d3 : decide (y ≤ -2147483648) = false := by simp; omega
    have d4 : decide (2147483648 ≤ y) = true := by simp; omega
    go_enter Ybaf.func5, Ybaf.ntmps5
    go_wp2_with fail
    refine hD.mono ?_
    rintro e w1 ⟨p, q, rfl, hW1, hW2, hW3⟩
    have hb1 := (Below.refl w1.heap.size w1).alloc (Nat.le_refl _) Z30
    have his := is_wrap2 p q a0 (w1.alloc Z30) (by rw [hb1.cell (cell_lt hW2)]; exact hW2) (by rw [hb1.cell (cell_lt hW3)]; exact hW3)
    have hg0 : (w1.alloc Z30).cell? ⟨0, 0, none⟩ = some (.iface 65 (.pointer (some a0))) := ((hS.below hW1).below hb1).g0
    have hbb : Below w.heap.size w (w1.alloc Z30) := hW1.alloc hW1.size _
    have Hbb : Hid (Below w.heap.size w (w1.alloc Z30)) := hbb
    unfold Z30 at hg0
    unfold zeroDate
    clear hD hb1 hbb hW1 hW2 hW3
    go_wp2_with (go_at_call 7; refine his.mono ?_; rintro e w2 ⟨rfl, hw2⟩; rw [hw2]; clear hw2; unfold Z30)
    go_ret
    exact ⟨rfl, Hbb.out⟩

end Go.Proofs.YbulkavauFmt
