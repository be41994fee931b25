/-
  LawS2326BSetsT3246's walk, a theorem for each pair of the two switches.
-/
import Derived.Test.YbulkavdmWait
namespace Go.Proofs.Ybulkavdm
open Go Go.Maps Go.RowKit

theorem cell_new (X : World) (c : Array Value) (t : TypeId) (N : Nat) {k : Nat} {u : Value} (hN : N = X.heap.size) (h : c[k]? = some u) : (X.alloc (.cells c t)).cell? ⟨N, k, none⟩ = some u := by
  rw [World.cell?_alloc_at _ _ _ _ hN]
  exact h

theorem frozen_new (X : World) (c : Array Value) (t : TypeId) (N k : Nat) (hN : N = X.heap.size) : (X.alloc (.cells c t)).frozen? ⟨N, k, none⟩ = false := by
  subst hN
  exact World.frozen?_alloc_new _ _ _ _

theorem mob_of (X : World) (t : TypeId) (N cB kB' bB : Nat) (f s : ByteArray) {att : Int} (c : Array Value) (hN : N = X.heap.size) (c0 : c[0]? = some (.string f)) (c5 : c[5]? = some (.func (.func 4) #[] #[.pointer (some ⟨cB, 0, none⟩), .pointer (some ⟨kB', 0, none⟩)]))
    (c18 : c[18]? = some (.string s)) (c20 : c[20]? = some (.map (some bB))) (c21 : c[21]? = some (.int .i64 att)) : Mob (X.alloc (.cells c t)) N cB kB' bB f s att :=
  ⟨cell_new X c t N hN c0, cell_new X c t N hN c5, cell_new X c t N hN c18, cell_new X c t N hN c20, cell_new X c t N hN c21⟩

theorem isM_at (X : World) (v v' : Value) (o : Obj) {b : Nat} (hb : b = X.heap.size) :
    IsM Yba.prog 34 ((X.alloc (.map #[⟨.string ⟨#[84, 51, 50, 49, 48]⟩, v, 0⟩, ⟨.string ⟨#[84, 51, 50, 52, 54]⟩, v', 1⟩] 2)).alloc o) b 2 (two v v') := by
  subst hb
  exact (isM_two X v v').alloc o

set_option maxRecDepth 100000 in
set_option maxHeartbeats 2000000 in
theorem law_false_false (clock d oth att : Int) (st : ByteArray) (w : World) :
    Calls Yba.prog 3 #[.int .i64 clock, .int .i64 d, .bool false, .bool false, .int .i64 oth, .string st, .int .i64 att] w fun e w' => e = .returned (.bool true) ∧ Below w.heap.size w w' := by
  have hmm := @run_makeMap Yba.prog
  have i1 := run_ins36
  have i2 := run_ins36b
  go_enter Yba.func3, Yba.ntmps3
  go_wp2_with fail
  clear hmm i1 i2
  refine (wait_any false (w.heap.size + 1 + 1 + 1) (w.heap.size + 1) w.heap.size (w.heap.size + 1 + 1) st att clock d (.int .i64 oth) (.int .i64 5) (.pointer none) _ (mob_of _ _ _ _ _ _ _ _ _ (by simp) rfl rfl rfl rfl rfl) (cell_new _ _ _ _ (by simp) rfl) (frozen_new _ _ _ _ _ (by simp)) (by go_simp) (by go_simp) (by go_simp) (isM_at _ _ _ _ (by simp)) (by omega) (by omega) (by omega) (by omega) (by omega)).mono ?_
  rintro e w4 ⟨rfl, hm4, h46, hc4, hM4, hf4⟩
  obtain ⟨m0, m5, m18, m20, m21⟩ := hm4
  have hB : Below w.heap.size w w4 := Below.trans (by repeat (first | exact Below.refl _ _ | (refine Below.alloc ?_ (by simp <;> omega) _))) (hf4.below (B := w.heap.size) (by simp <;> omega) (by intro i hi; omega))
  have kc : w4.cell? ⟨w.heap.size, 0, none⟩ = some (.int .i64 clock) := by
    rw [hf4.cell (p := ⟨w.heap.size, 0, none⟩) (by simp <;> omega) (show ¬ (w.heap.size = _ ∨ w.heap.size = _ ∨ w.heap.size = _) by omega)]
    go_simp
  have lk1 : (Instr.lookup 36 (.map (some (w.heap.size + 1 + 1))) (.string ⟨#[84, 51, 50, 52, 54]⟩) true).run Yba.prog w4 = .ok (.tuple #[.int .i64 (wrap64 (clock + d)), .bool true]) w4 := by
    have h := hM4.look_ok (t := 36) u34 Yba.underlying36 (z22 _) sB
    rw [two_B] at h
    exact h
  have lk2 : (Instr.lookup 36 (.map (some (w.heap.size + 1 + 1))) (.string ⟨#[84, 51, 50, 49, 48]⟩) false).run Yba.prog w4 = .ok (.int .i64 oth) w4 := by
    have h := hM4.look (t := 36) u34 Yba.underlying36 (z22 _) sA
    rw [two_A] at h
    exact h
  have ln := fun ty => hM4.len (t := 36) Yba.underlying36 ty
  simp only [flt, Bool.false_eq_true, if_false] at m0
  clear hM4 hf4
  go_wp2_with fail
  go_ret
  exact ⟨rfl, hB⟩

set_option maxRecDepth 100000 in
set_option maxHeartbeats 2000000 in
theorem law_false_true (clock d oth att : Int) (st : ByteArray) (w : World) :
    Calls Yba.prog 3 #[.int .i64 clock, .int .i64 d, .bool false, .bool true, .int .i64 oth, .string st, .int .i64 att] w fun e w' => e = .returned (.bool true) ∧ Below w.heap.size w w' := by
  have hmm := @run_makeMap Yba.prog
  have i1 := run_ins36
  have i2 := run_ins36b
  go_enter Yba.func3, Yba.ntmps3
  go_wp2_with fail
  clear hmm i1 i2
  refine (wait_any false (w.heap.size + 1 + 1 + 1 + 1) (w.heap.size + 1) w.heap.size (w.heap.size + 1 + 1 + 1) st att clock d (.int .i64 oth) (.int .i64 5) (.pointer (some ⟨w.heap.size + 1 + 1, 0, none⟩)) _ (mob_of _ _ _ _ _ _ _ _ _ (by simp) rfl rfl rfl rfl rfl) (cell_new _ _ _ _ (by simp) rfl) (frozen_new _ _ _ _ _ (by simp)) (by go_simp) (by go_simp) (by go_simp) (isM_at _ _ _ _ (by simp)) (by omega) (by omega) (by omega) (by omega) (by omega)).mono ?_
  rintro e w4 ⟨rfl, hm4, h46, hc4, hM4, hf4⟩
  obtain ⟨m0, m5, m18, m20, m21⟩ := hm4
  have hB : Below w.heap.size w w4 := Below.trans (by repeat (first | exact Below.refl _ _ | (refine Below.alloc ?_ (by simp <;> omega) _))) (hf4.below (B := w.heap.size) (by simp <;> omega) (by intro i hi; omega))
  have kc : w4.cell? ⟨w.heap.size, 0, none⟩ = some (.int .i64 clock) := by
    rw [hf4.cell (p := ⟨w.heap.size, 0, none⟩) (by simp <;> omega) (show ¬ (w.heap.size = _ ∨ w.heap.size = _ ∨ w.heap.size = _) by omega)]
    go_simp
  have lk1 : (Instr.lookup 36 (.map (some (w.heap.size + 1 + 1 + 1))) (.string ⟨#[84, 51, 50, 52, 54]⟩) true).run Yba.prog w4 = .ok (.tuple #[.int .i64 (wrap64 (clock + d)), .bool true]) w4 := by
    have h := hM4.look_ok (t := 36) u34 Yba.underlying36 (z22 _) sB
    rw [two_B] at h
    exact h
  have lk2 : (Instr.lookup 36 (.map (some (w.heap.size + 1 + 1 + 1))) (.string ⟨#[84, 51, 50, 49, 48]⟩) false).run Yba.prog w4 = .ok (.int .i64 oth) w4 := by
    have h := hM4.look (t := 36) u34 Yba.underlying36 (z22 _) sA
    rw [two_A] at h
    exact h
  have ln := fun ty => hM4.len (t := 36) Yba.underlying36 ty
  simp only [flt, Bool.false_eq_true, if_false] at m0
  clear hM4 hf4
  go_wp2_with fail
  go_ret
  exact ⟨rfl, hB⟩

set_option maxRecDepth 100000 in
set_option maxHeartbeats 2000000 in
theorem law_true_false (clock d oth att : Int) (st : ByteArray) (w : World) :
    Calls Yba.prog 3 #[.int .i64 clock, .int .i64 d, .bool true, .bool false, .int .i64 oth, .string st, .int .i64 att] w fun e w' => e = .returned (.bool true) ∧ Below w.heap.size w w' := by
  have hmm := @run_makeMap Yba.prog
  have i1 := run_ins36
  have i2 := run_ins36b
  go_enter Yba.func3, Yba.ntmps3
  go_wp2_with fail
  clear hmm i1 i2
  refine (wait_any true (w.heap.size + 1 + 1 + 1) (w.heap.size + 1) w.heap.size (w.heap.size + 1 + 1) st att clock d (.int .i64 oth) (.int .i64 5) (.pointer none) _ (mob_of _ _ _ _ _ _ _ _ _ (by simp) rfl rfl rfl rfl rfl) (cell_new _ _ _ _ (by simp) rfl) (frozen_new _ _ _ _ _ (by simp)) (by go_simp) (by go_simp) (by go_simp) (isM_at _ _ _ _ (by simp)) (by omega) (by omega) (by omega) (by omega) (by omega)).mono ?_
  rintro e w4 ⟨rfl, hm4, h46, hc4, hM4, hf4⟩
  obtain ⟨m0, m5, m18, m20, m21⟩ := hm4
  have hB : Below w.heap.size w w4 := Below.trans (by repeat (first | exact Below.refl _ _ | (refine Below.alloc ?_ (by simp <;> omega) _))) (hf4.below (B := w.heap.size) (by simp <;> omega) (by intro i hi; omega))
  have kc : w4.cell? ⟨w.heap.size, 0, none⟩ = some (.int .i64 clock) := by
    rw [hf4.cell (p := ⟨w.heap.size, 0, none⟩) (by simp <;> omega) (show ¬ (w.heap.size = _ ∨ w.heap.size = _ ∨ w.heap.size = _) by omega)]
    go_simp
  have lk1 : (Instr.lookup 36 (.map (some (w.heap.size + 1 + 1))) (.string ⟨#[84, 51, 50, 52, 54]⟩) true).run Yba.prog w4 = .ok (.tuple #[.int .i64 (wrap64 (clock + 1000000000)), .bool true]) w4 := by
    have h := hM4.look_ok (t := 36) u34 Yba.underlying36 (z22 _) sB
    rw [two_B] at h
    exact h
  have lk2 : (Instr.lookup 36 (.map (some (w.heap.size + 1 + 1))) (.string ⟨#[84, 51, 50, 49, 48]⟩) false).run Yba.prog w4 = .ok (.int .i64 oth) w4 := by
    have h := hM4.look (t := 36) u34 Yba.underlying36 (z22 _) sA
    rw [two_A] at h
    exact h
  have ln := fun ty => hM4.len (t := 36) Yba.underlying36 ty
  simp only [flt, if_true] at m0
  clear hM4 hf4
  go_wp2_with fail
  go_ret
  exact ⟨rfl, hB⟩

set_option maxRecDepth 100000 in
set_option maxHeartbeats 2000000 in
theorem law_true_true (clock d oth att : Int) (st : ByteArray) (w : World) :
    Calls Yba.prog 3 #[.int .i64 clock, .int .i64 d, .bool true, .bool true, .int .i64 oth, .string st, .int .i64 att] w fun e w' => e = .returned (.bool true) ∧ Below w.heap.size w w' := by
  have hmm := @run_makeMap Yba.prog
  have i1 := run_ins36
  have i2 := run_ins36b
  go_enter Yba.func3, Yba.ntmps3
  go_wp2_with fail
  clear hmm i1 i2
  refine (wait_any true (w.heap.size + 1 + 1 + 1 + 1) (w.heap.size + 1) w.heap.size (w.heap.size + 1 + 1 + 1) st att clock d (.int .i64 oth) (.int .i64 5) (.pointer (some ⟨w.heap.size + 1 + 1, 0, none⟩)) _ (mob_of _ _ _ _ _ _ _ _ _ (by simp) rfl rfl rfl rfl rfl) (cell_new _ _ _ _ (by simp) rfl) (frozen_new _ _ _ _ _ (by simp)) (by go_simp) (by go_simp) (by go_simp) (isM_at _ _ _ _ (by simp)) (by omega) (by omega) (by omega) (by omega) (by omega)).mono ?_
  rintro e w4 ⟨rfl, hm4, h46, hc4, hM4, hf4⟩
  obtain ⟨m0, m5, m18, m20, m21⟩ := hm4
  have hB : Below w.heap.size w w4 := Below.trans (by repeat (first | exact Below.refl _ _ | (refine Below.alloc ?_ (by simp <;> omega) _))) (hf4.below (B := w.heap.size) (by simp <;> omega) (by intro i hi; omega))
  have kc : w4.cell? ⟨w.heap.size, 0, none⟩ = some (.int .i64 clock) := by
    rw [hf4.cell (p := ⟨w.heap.size, 0, none⟩) (by simp <;> omega) (show ¬ (w.heap.size = _ ∨ w.heap.size = _ ∨ w.heap.size = _) by omega)]
    go_simp
  have lk1 : (Instr.lookup 36 (.map (some (w.heap.size + 1 + 1 + 1))) (.string ⟨#[84, 51, 50, 52, 54]⟩) true).run Yba.prog w4 = .ok (.tuple #[.int .i64 (wrap64 (clock + 1000000000)), .bool true]) w4 := by
    have h := hM4.look_ok (t := 36) u34 Yba.underlying36 (z22 _) sB
    rw [two_B] at h
    exact h
  have lk2 : (Instr.lookup 36 (.map (some (w.heap.size + 1 + 1 + 1))) (.string ⟨#[84, 51, 50, 49, 48]⟩) false).run Yba.prog w4 = .ok (.int .i64 oth) w4 := by
    have h := hM4.look (t := 36) u34 Yba.underlying36 (z22 _) sA
    rw [two_A] at h
    exact h
  have ln := fun ty => hM4.len (t := 36) Yba.underlying36 ty
  simp only [flt, if_true] at m0
  clear hM4 hf4
  go_wp2_with fail
  go_ret
  exact ⟨rfl, hB⟩

end Go.Proofs.Ybulkavdm
