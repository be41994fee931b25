/-
  DateOfYearDay, by its contracts.
-/
import Derived.Test.YbulkavauFmtDoy
namespace Go.Proofs.YbulkavauFmt
open Go Go.RowKit Go.Extern.Stop Go.Stop Go.Extern
attribute [local go_sem] run_store_float

theorem err4_call (F : Interp) (yd c y : Int) (s : ByteArray) (q : Nat) (w : World) (blk : Nat) (hblk : blk = w.heap.size) (hF : F.answers w.tape) (ha : w.cell? ⟨q, 0, none⟩ = some (.string s)) :
    Calls Ybaf.prog 10 #[.string ⟨#[97, 114, 109, 105, 108, 108, 97, 114, 121, 58, 32, 100, 97, 121, 32, 37, 100, 32, 111, 102, 32, 37, 118, 32, 121, 101, 97, 114, 32, 37, 100, 58, 32, 37, 119]⟩, .slice (some ⟨blk, 0, none⟩) 4 4] (w.alloc (.cells #[.iface 3 (.int .i64 yd), .iface 25 (.int .i64 c), .iface 3 (.int .i64 y), .iface 51 (.pointer (some ⟨q, 0, none⟩))] 20)) fun e w' =>
      ∃ p, e = .returned (.iface 51 (.pointer (some ⟨p, 0, none⟩))) ∧ Below w.heap.size w w' ∧ w.heap.size ≤ p ∧ p < w'.heap.size ∧ w'.cell? ⟨p, 1, none⟩ = some (.iface 51 (.pointer (some ⟨q, 0, none⟩))) := by
  have hab := cell_lt ha
  have hb : Below w.heap.size w (w.alloc (.cells #[.iface 3 (.int .i64 yd), .iface 25 (.int .i64 c), .iface 3 (.int .i64 y), .iface 51 (.pointer (some ⟨q, 0, none⟩))] 20)) := (Below.refl _ w).alloc (Nat.le_refl _) _
  have k3 : (w.alloc (.cells #[.iface 3 (.int .i64 yd), .iface 25 (.int .i64 c), .iface 3 (.int .i64 y), .iface 51 (.pointer (some ⟨q, 0, none⟩))] 20)).cell? ⟨q, 0, none⟩ = some (.string s) := by rw [hb.cell hab]; exact ha
  subst hblk
  refine (errorf4 F yd c y s _ ⟨q, 0, none⟩ _ (by exact hF) (by go_simp) (by go_simp) (by go_simp) (by go_simp) k3).mono ?_
  rintro e w1 ⟨t, w3, h3, rfl, rfl⟩
  have hs := h3.size
  simp at hs
  refine ⟨w3.heap.size, rfl, (((hb.trans (h3.mono (by simp))).alloc (by omega) _).drew), by omega, by simp, by go_simp⟩

/-- What DateOfYearDay hands back where dateOfYearDay fails. -/
def Wr2 (w w' : World) (a : Addr) (p q : Nat) : Prop :=
  Below w.heap.size w w' ∧ w'.cell? ⟨p, 0 + 1, none⟩ = some (.iface 51 (.pointer (some ⟨q, 0, none⟩))) ∧ w'.cell? ⟨q, 0 + 1, none⟩ = some (.iface 65 (.pointer (some a)))

set_option maxHeartbeats 400000 in
theorem DOY_err (F : Interp) (y yd c : Int) (a : Addr) (w : World) (hF : F.answers w.tape)
    (hdoy : Calls Ybaf.prog 9 #[.int .i64 y, .int .i64 yd, .int .i64 c] (w.alloc Z30) fun e w' => ∃ q, e = .returned (.tuple #[zeroDate, .iface 51 (.pointer (some ⟨q, 0, none⟩))]) ∧ Wr (w.alloc Z30) w' a q) :
    Calls Ybaf.prog 6 #[.int .i64 y, .int .i64 yd, .int .i64 c] w fun e w' => ∃ p q, e = .returned (.tuple #[zeroDate, .iface 51 (.pointer (some ⟨p, 0, none⟩))]) ∧ Wr2 w w' a p q := by
  go_enter Ybaf.func6, Ybaf.ntmps6
  go_wp2_with fail
  refine hdoy.mono ?_
  rintro e w1 ⟨q, rfl, hW⟩
  obtain ⟨f0, f1, f2, f3, f4, f5, f6, f7, f8⟩ := z30_facts hW.1
  have hF1 : F.answers w1.tape := by rw [hW.1.tape]; exact hF
  obtain ⟨hW1, hW2, hW3, ⟨t, hW4⟩, hW5⟩ := hW
  have he := err4_call F yd c y t q (w1.alloc Z30) (w1.heap.size + 1) (by simp) hF1 (by rw [((Below.refl _ w1).alloc (Nat.le_refl _) _).cell hW3]; exact hW4)
  clear hdoy
  unfold zeroDate
  go_wp2_with fail
  refine he.mono ?_
  rintro e w5 ⟨p, rfl, b1, b2, b3, b4⟩
  have hsA : (w.alloc Z30).heap.size = w.heap.size + 1 := by simp
  have hs1 : (w1.alloc Z30).heap.size = w1.heap.size + 1 := by simp
  have hz1 := hW1.size
  have hb5 : Below (w.alloc Z30).heap.size (w.alloc Z30) w5 := (hW1.alloc hz1 Z30).trans (b1.mono (by omega))
  have hq5 : w5.cell? ⟨q, 0 + 1, none⟩ = some (.iface 65 (.pointer (some a))) := by
    rw [b1.cell (p := ⟨q, 0 + 1, none⟩) (show q < _ by omega), ((Below.refl _ w1).alloc (Nat.le_refl _) Z30).cell (p := ⟨q, 0 + 1, none⟩) hW3]
    exact hW5
  obtain ⟨l0, l1, l2, l3, l4, l5, l6, l7, l8⟩ := z30_facts hb5
  clear f0 f1 f2 f3 f4 f5 f6 f7 he hF1
  go_wp2_with fail
  refine bodyPost_ret (v := .tuple #[zeroDate, .iface 51 (.pointer (some ⟨p, 0, none⟩))]) (by simp [results, Ybaf.results6, zeroDate, go_sem, l0, l1, l2, l3]) rfl ⟨p, q, rfl, ?_⟩
  have hb : Below w.heap.size w w5 := ((Below.refl _ w).alloc (Nat.le_refl _) Z30).trans (hb5.mono (by omega))
  refine ⟨set4_below hb _ (Nat.le_refl _) _ _ _ _, ?_, ?_⟩
  · exact (set4_cell (p := ⟨p, 0 + 1, none⟩) w5 w.heap.size _ _ _ _ (show p ≠ w.heap.size by omega)).trans b4
  · exact (set4_cell (p := ⟨q, 0 + 1, none⟩) w5 w.heap.size _ _ _ _ (show q ≠ w.heap.size by omega)).trans hq5

theorem DOY_ok (y yd c d : Int) (k : Nat) (w : World)
    (hdoy : Calls Ybaf.prog 9 #[.int .i64 y, .int .i64 yd, .int .i64 c] (w.alloc Z30) fun e w' => e = .returned (.tuple #[okDate y c k d, .nilIface]) ∧ Below (w.alloc Z30).heap.size (w.alloc Z30) w') :
    Calls Ybaf.prog 6 #[.int .i64 y, .int .i64 yd, .int .i64 c] w fun e w' => e = .returned (.tuple #[okDate y c k d, .nilIface]) ∧ Below w.heap.size w w' := by
  go_enter Ybaf.func6, Ybaf.ntmps6
  go_wp2_with fail
  refine hdoy.mono ?_
  rintro e w1 ⟨rfl, hW1⟩
  obtain ⟨f0, f1, f2, f3, f4, f5, f6, f7, f8⟩ := z30_facts hW1
  clear hdoy
  unfold okDate
  go_wp2_with fail
  refine bodyPost_ret (v := .tuple #[okDate y c k d, .nilIface]) (by simp [results, Ybaf.results6, okDate, go_sem, f0, f1, f2, f3, f8]) rfl ⟨rfl, ?_⟩
  have hb : Below w.heap.size w w1 := ((Below.refl _ w).alloc (Nat.le_refl _) Z30).trans (hW1.mono (by simp))
  exact (set4_below hb w.heap.size (Nat.le_refl _) (.int .i64 y) (.int .i64 ((k : Int) + 1)) (.float .f64 (floatOfInt .f64 (dd y c k d))) (.int .i64 c)).alloc (by rw [set4_size]; omega) _

end Go.Proofs.YbulkavauFmt
