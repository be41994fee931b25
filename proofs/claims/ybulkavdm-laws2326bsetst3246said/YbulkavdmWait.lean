/-
  The closure 'now', and waitExtended.
-/
import Derived.Test.YbulkavdmParts
import Derived.Deep.RegionWith
import Derived.Deep.RegionHeld
namespace Go.Proofs.Ybulkavdm
open Go Go.Maps Go.RowKit

theorem now_any (cB kB' : Nat) (clock : Int) (w : World) (cc : w.cell? ⟨cB, 0, none⟩ = some (.int .i64 0)) (cf : w.frozen? ⟨cB, 0, none⟩ = false) (kc : w.cell? ⟨kB', 0, none⟩ = some (.int .i64 clock)) (hne : cB ≠ kB') :
    Calls Yba.prog 4 #[.pointer (some ⟨cB, 0, none⟩), .pointer (some ⟨kB', 0, none⟩)] w fun e w' => e = .returned (.int .i64 clock) ∧ w' = w.setCell ⟨cB, 0, none⟩ (.int .i64 1) := by
  go_enter Yba.func4, Yba.ntmps4
  go_wp2
  go_ret
  exact ⟨rfl, rfl⟩

/-- The word that the fault bears. -/
def ign : ByteArray := ⟨#[105, 103, 110, 111, 114, 101, 45, 101, 120, 116, 101, 110, 100, 101, 100, 45, 119, 97, 105, 116]⟩
def flt (ig : Bool) : ByteArray := if ig then ⟨#[105, 103, 110, 111, 114, 101, 45, 101, 120, 116, 101, 110, 100, 101, 100, 45, 119, 97, 105, 116]⟩ else ⟨#[]⟩
def dur (ig : Bool) (d : Int) : Int := if ig then 1000000000 else d

/-- The mobile's cells that the law reads. -/
structure Mob (w : World) (mB cB kB' bB : Nat) (f s : ByteArray) (att : Int) : Prop where
  m0 : w.cell? ⟨mB, 0, none⟩ = some (.string f)
  m5 : w.cell? ⟨mB, 5, none⟩ = some (.func (.func 4) #[] #[.pointer (some ⟨cB, 0, none⟩), .pointer (some ⟨kB', 0, none⟩)])
  m18 : w.cell? ⟨mB, 18, none⟩ = some (.string s)
  m20 : w.cell? ⟨mB, 20, none⟩ = some (.map (some bB))
  m21 : w.cell? ⟨mB, 21, none⟩ = some (.int .i64 att)

set_option maxRecDepth 100000 in
set_option maxHeartbeats 2000000 in
theorem wait_any (ig : Bool) (mB cB kB' bB : Nat) (s : ByteArray) (att clock d : Int) (x y u : Value) (w : World) (hm : Mob w mB cB kB' bB (flt ig) s att)
    (m46 : w.cell? ⟨mB, 46, none⟩ = some u) (mf : w.frozen? ⟨mB, 46, none⟩ = false) (cc : w.cell? ⟨cB, 0, none⟩ = some (.int .i64 0)) (cf : w.frozen? ⟨cB, 0, none⟩ = false) (kc : w.cell? ⟨kB', 0, none⟩ = some (.int .i64 clock))
    (hM : IsM Yba.prog 34 w bB 2 (two x y)) (o1 : cB ≠ kB') (o2 : mB ≠ cB) (o3 : mB ≠ kB') (o4 : mB ≠ bB) (o5 : cB ≠ bB) :
    Calls Yba.prog 5 #[.pointer (some ⟨mB, 0, none⟩), .int .i64 d] w fun e w' => e = .returned (.tuple #[]) ∧ Mob w' mB cB kB' bB (flt ig) s att ∧ w'.cell? ⟨mB, 46, none⟩ = some (.pointer none) ∧ w'.cell? ⟨cB, 0, none⟩ = some (.int .i64 1) ∧
      IsM Yba.prog 34 w' bB 2 (two x (.int .i64 (wrap64 (clock + dur ig d)))) ∧ Fr (fun i => i = mB ∨ i = cB ∨ i = bB) w w' := by
  have hf1 : Fr (fun i => i = mB ∨ i = cB ∨ i = bB) w (((w.setCell ⟨mB, 46, none⟩ (.pointer none)).setCell ⟨cB, 0, none⟩ (.int .i64 1)).drew) :=
    (((Fr.setCell w ⟨mB, 46, none⟩ (.pointer none)).mono (fun i e => Or.inl e)).trans ((Fr.setCell _ ⟨cB, 0, none⟩ (.int .i64 1)).mono (fun i e => Or.inr (Or.inl e)))).trans ((Fr.drew _).mono (fun i e => False.elim e))
  have hM1 : IsM Yba.prog 34 (((w.setCell ⟨mB, 46, none⟩ (.pointer none)).setCell ⟨cB, 0, none⟩ (.int .i64 1)).drew) bB 2 (two x y) :=
    ((hM.fr (Fr.setCell w ⟨mB, 46, none⟩ (.pointer none)) (fun e => o4 e.symm)).fr (Fr.setCell _ ⟨cB, 0, none⟩ (.int .i64 1)) (fun e => o5 e.symm)).fr (Fr.drew _) (fun e => e)
  obtain ⟨w4, hrun, hM4, hturn⟩ := hM1.store (t := 36) u34 Yba.underlying36 (by decide) sB (.int .i64 (wrap64 (clock + dur ig d)))
  have hM5 : IsM Yba.prog 34 w4 bB 2 (two x (.int .i64 (wrap64 (clock + dur ig d)))) := hM4.congr (by rw [two_B]; rfl) (two_upd x y _)
  have hf4 : Fr (fun i => i = mB ∨ i = cB ∨ i = bB) w w4 := hf1.trans ((Fr.turned hturn).mono (fun i e => Or.inr (Or.inr e)))
  have hm4 : ∀ k, k ≠ 46 → w4.cell? ⟨mB, k, none⟩ = w.cell? ⟨mB, k, none⟩ := fun k hk => by
    rw [(Fr.turned hturn).cell (p := ⟨mB, k, none⟩) (by have := World.block_lt_of_cell? _ _ m46; simpa using this) (show ¬ mB = bB from o4)]
    show ((w.setCell ⟨mB, 46, none⟩ (.pointer none)).setCell ⟨cB, 0, none⟩ (.int .i64 1)).cell? ⟨mB, k, none⟩ = _
    rw [World.cell?_setCell_other _ _ _ _ (by intro e; injection e with e _ _; exact o2 e.symm), World.cell?_setCell_other _ _ _ _ (by intro e; injection e with _ e _; exact hk e.symm)]
  have h46 : w4.cell? ⟨mB, 46, none⟩ = some (.pointer none) := by
    rw [(Fr.turned hturn).cell (p := ⟨mB, 46, none⟩) (by have := World.block_lt_of_cell? _ _ m46; simpa using this) (show ¬ mB = bB from o4)]
    show ((w.setCell ⟨mB, 46, none⟩ (.pointer none)).setCell ⟨cB, 0, none⟩ (.int .i64 1)).cell? ⟨mB, 46, none⟩ = _
    rw [World.cell?_setCell_other _ _ _ _ (by intro e; injection e with e _ _; exact o2 e.symm), World.cell?_setCell_same _ _ _ m46]
  have hc4 : w4.cell? ⟨cB, 0, none⟩ = some (.int .i64 1) := by
    rw [(Fr.turned hturn).cell (p := ⟨cB, 0, none⟩) (by have := World.block_lt_of_cell? _ _ cc; simpa using this) (show ¬ cB = bB from o5)]
    show ((w.setCell ⟨mB, 46, none⟩ (.pointer none)).setCell ⟨cB, 0, none⟩ (.int .i64 1)).cell? ⟨cB, 0, none⟩ = _
    exact World.cell?_setCell_same _ _ _ ((World.cell?_setCell_other _ _ _ _ (by intro e; injection e with e _ _; exact o2 e)).trans cc)
  have hm5 : Mob w4 mB cB kB' bB (flt ig) s att := ⟨(hm4 0 (by decide)).trans hm.m0, (hm4 5 (by decide)).trans hm.m5, (hm4 18 (by decide)).trans hm.m18, (hm4 20 (by decide)).trans hm.m20, (hm4 21 (by decide)).trans hm.m21⟩
  obtain ⟨m0, m5, m18, m20, m21⟩ := hm
  have Hend : Hid (Mob w4 mB cB kB' bB (flt ig) s att ∧ w4.cell? ⟨mB, 46, none⟩ = some (.pointer none) ∧ w4.cell? ⟨cB, 0, none⟩ = some (.int .i64 1) ∧
      IsM Yba.prog 34 w4 bB 2 (two x (.int .i64 (wrap64 (clock + dur ig d)))) ∧ Fr (fun i => i = mB ∨ i = cB ∨ i = bB) w w4) := ⟨hm5, h46, hc4, hM5, hf4⟩
  clear hm5 h46 hc4 hM5 hf4 hm4 hM4 hturn hM1 hf1 hM m18 m21
  have hrun' : (Instr.mapUpdate 36 (.map (some bB)) (.string ⟨#[84, 51, 50, 52, 54]⟩) (.int .i64 (IntKind.i64.wrap (clock + dur ig d)))).run Yba.prog (((w.setCell ⟨mB, 46, none⟩ (.pointer none)).setCell ⟨cB, 0, none⟩ (.int .i64 1)).drew) = .ok () w4 := by
    have e : IntKind.i64.wrap (clock + dur ig d) = wrap64 (clock + dur ig d) := by rw [IntKind.wrap_i64, wrap64]
    rw [e]
    exact hrun
  clear hrun
  have o2' : cB ≠ mB := fun e => o2 e.symm
  have o3' : kB' ≠ mB := fun e => o3 e.symm
  have o1' : kB' ≠ cB := fun e => o1 e.symm
  cases ig
  · simp only [flt, dur, Bool.false_eq_true, if_false] at m0 hrun'
    go_enter Yba.func5, Yba.ntmps5
    go_wp2_with fail
    go_region_with (go_at_call 4; refine (now_any cB kB' clock _ (by go_simp) (by go_simp) (by go_simp) o1).mono ?_; rintro e w6 ⟨rfl, rfl⟩)
    all_goals go_wp2_with fail
    all_goals go_end0
    all_goals exact ⟨rfl, Hend.out⟩
  · simp only [flt, dur, if_true] at m0 hrun'
    go_enter Yba.func5, Yba.ntmps5
    go_wp2_with fail
    go_region_with (go_at_call 4; refine (now_any cB kB' clock _ (by go_simp) (by go_simp) (by go_simp) o1).mono ?_; rintro e w6 ⟨rfl, rfl⟩)
    all_goals go_wp2_with fail
    all_goals go_end0
    all_goals exact ⟨rfl, Hend.out⟩

end Go.Proofs.Ybulkavdm
