/-
  checkCalendar, checkYear, dateOfYearDay, DateOfYearDay, by their contracts.
-/
import Derived.Test.YbulkavauFmtErrs
import Derived.Test.YbulkavauFmtIs
import Derived.Test.YbulkavauFmtYear
namespace Go.Proofs.YbulkavauFmt
open Go Go.RowKit Go.Extern.Stop Go.Stop Go.Extern

/-- In w', new since w, lies at block q an error of fmt.Errorf's make that wraps the error at a. -/
def Wr (w w' : World) (a : Addr) (q : Nat) : Prop :=
  Below w.heap.size w w' ∧ w.heap.size ≤ q ∧ q < w'.heap.size ∧ (∃ t, w'.cell? ⟨q, 0, none⟩ = some (.string t)) ∧ w'.cell? ⟨q, 1, none⟩ = some (.iface 65 (.pointer (some a)))

theorem wr_mk {w : World} {a : Addr} (o : Obj) (t : ByteArray) : Wr w (((w.alloc o).alloc (.cells #[.string t, .iface 65 (.pointer (some a))] 94)).drew) a (w.heap.size + 1) :=
  ⟨(((Below.refl _ _).alloc (Nat.le_refl _) _).alloc (by simp) _).drew, by omega, by simp, ⟨t, by go_simp⟩, by go_simp⟩

theorem cell_lt {w : World} {a : Addr} {v : Value} (h : w.cell? a = some v) : a.block < w.heap.size := World.block_lt_of_cell? _ _ h

theorem checkCalendar_ok (c : Int) (w : World) (h0 : 0 ≤ c) (h2 : c ≤ 2) : Calls Ybaf.prog 14 #[.int .i64 c] w fun e w' => e = .returned .nilIface ∧ w' = w := by
  have d0 : decide (c < 0) = false := by simp; omega
  have d2 : decide (2 < c) = false := by simp; omega
  go_enter Ybaf.func14, Ybaf.ntmps14
  go_wp2
  go_ret
  exact ⟨rfl, rfl⟩

theorem checkCalendar_bad (F : Interp) (c : Int) (s : ByteArray) (a : Addr) (w : World) (hF : F.answers w.tape) (h : c < 0 ∨ 2 < c) (hg : w.cell? ⟨0, 0, none⟩ = some (.iface 65 (.pointer (some a)))) (ha : w.cell? a = some (.string s)) :
    Calls Ybaf.prog 14 #[.int .i64 c] w fun e w' => ∃ q, e = .returned (.iface 51 (.pointer (some ⟨q, 0, none⟩))) ∧ Wr w w' a q := by
  have hab := cell_lt ha
  have key : ∀ W : World, W = w.alloc (.cells #[.iface 3 (.int .i64 c), .iface 65 (.pointer (some a))] 20) → F.answers W.tape ∧ W.cell? ⟨w.heap.size, 0, none⟩ = some (.iface 3 (.int .i64 c)) ∧ W.cell? ⟨w.heap.size, 1, none⟩ = some (.iface 65 (.pointer (some a))) ∧ W.cell? a = some (.string s) := by
    rintro W rfl
    refine ⟨hF, by go_simp, by go_simp, ?_⟩
    rw [((Below.refl _ w).alloc (Nat.le_refl _) _).cell hab]
    exact ha
  rcases h with h | h
  · have d0 : decide (c < 0) = true := by simp; omega
    go_enter Ybaf.func14, Ybaf.ntmps14
    go_wp2_with fail
    obtain ⟨k0, k1, k2, k3⟩ := key _ rfl
    refine (errorf1 F c s _ a _ k0 k1 k2 k3).mono ?_
    rintro e w1 ⟨t, rfl, rfl⟩
    go_wp2
    go_ret
    exact ⟨_, rfl, by simpa using wr_mk _ t⟩
  · have d0 : decide (c < 0) = false := by simp; omega
    have d2 : decide (2 < c) = true := by simp; omega
    go_enter Ybaf.func14, Ybaf.ntmps14
    go_wp2_with fail
    obtain ⟨k0, k1, k2, k3⟩ := key _ rfl
    refine (errorf1 F c s _ a _ k0 k1 k2 k3).mono ?_
    rintro e w1 ⟨t, rfl, rfl⟩
    go_wp2
    go_ret
    exact ⟨_, rfl, by simpa using wr_mk _ t⟩

theorem checkYear_ok (y : Int) (w : World) (h0 : -2147483648 < y) (h2 : y < 2147483648) : Calls Ybaf.prog 15 #[.int .i64 y] w fun e w' => e = .returned .nilIface ∧ w' = w := by
  have d0 : decide (y ≤ -2147483648) = false := by simp; omega
  have d2 : decide (2147483648 ≤ y) = false := by simp; omega
  go_enter Ybaf.func15, Ybaf.ntmps15
  go_wp2
  go_ret
  exact ⟨rfl, rfl⟩

theorem checkYear_bad (F : Interp) (y : Int) (s : ByteArray) (a : Addr) (w : World) (hF : F.answers w.tape) (h : y ≤ -2147483648 ∨ 2147483648 ≤ y) (hg : w.cell? ⟨0, 0, none⟩ = some (.iface 65 (.pointer (some a)))) (ha : w.cell? a = some (.string s)) :
    Calls Ybaf.prog 15 #[.int .i64 y] w fun e w' => ∃ q, e = .returned (.iface 51 (.pointer (some ⟨q, 0, none⟩))) ∧ Wr w w' a q := by
  have hab := cell_lt ha
  have key : ∀ W : World, W = w.alloc (.cells #[.iface 3 (.int .i64 y), .iface 2 (.int .i64 2147483648), .iface 65 (.pointer (some a))] 20) → F.answers W.tape ∧ W.cell? ⟨w.heap.size, 0, none⟩ = some (.iface 3 (.int .i64 y)) ∧ W.cell? ⟨w.heap.size, 1, none⟩ = some (.iface 2 (.int .i64 2147483648)) ∧ W.cell? ⟨w.heap.size, 2, none⟩ = some (.iface 65 (.pointer (some a))) ∧ W.cell? a = some (.string s) := by
    rintro W rfl
    refine ⟨hF, by go_simp, by go_simp, by go_simp, ?_⟩
    rw [((Below.refl _ w).alloc (Nat.le_refl _) _).cell hab]
    exact ha
  rcases h with h | h
  · have d0 : decide (y ≤ -2147483648) = true := by simp; omega
    go_enter Ybaf.func15, Ybaf.ntmps15
    go_wp2_with fail
    obtain ⟨k0, k1, k2, k3, k4⟩ := key _ rfl
    refine (errorf2 F y 2147483648 s _ a _ k0 k1 k2 k3 k4).mono ?_
    rintro e w1 ⟨t, rfl, rfl⟩
    go_wp2
    go_ret
    exact ⟨_, rfl, by simpa using wr_mk _ t⟩
  · have d0 : decide (y ≤ -2147483648) = false := by simp; omega
    have d2 : decide (2147483648 ≤ y) = true := by simp; omega
    go_enter Ybaf.func15, Ybaf.ntmps15
    go_wp2_with fail
    obtain ⟨k0, k1, k2, k3, k4⟩ := key _ rfl
    refine (errorf2 F y 2147483648 s _ a _ k0 k1 k2 k3 k4).mono ?_
    rintro e w1 ⟨t, rfl, rfl⟩
    go_wp2
    go_ret
    exact ⟨_, rfl, by simpa using wr_mk _ t⟩

end Go.Proofs.YbulkavauFmt
