/-
  dateOfYearDay and DateOfYearDay, by their contracts.
-/
import Derived.Test.YbulkavauFmtWalk
import Derived.WalkLawsBesides
namespace Go.Proofs.YbulkavauFmt
open Go Go.RowKit Go.Extern.Stop Go.Stop Go.Extern

/-- A float's store: the law that the kit has for integers, bools, pointers, slices and strings. -/
theorem run_store_float {P : Program} {w : World} {a : Addr} {m : Mode} (k : FloatKind) (b : Nat) : (store a (.float k b) m).run P w = stored P w a (.float k b) m := run_store P w a _ m rfl
attribute [local go_sem] run_store_float

def zeroDate : Value := .agg #[.int .i64 0, .int .i64 0, .float .f64 0, .int .i64 0]

/-- A new date's block, as it is laid. -/
def Z30 : Obj := .cells #[.int .i64 0, .int .i64 0, .float .f64 0, .int .i64 0] 30

theorem z30_facts {w w1 : World} (h : Below (w.alloc Z30).heap.size (w.alloc Z30) w1) :
    w1.cell? ⟨w.heap.size, 0, none⟩ = some (.int .i64 0) ∧ w1.cell? ⟨w.heap.size, 1, none⟩ = some (.int .i64 0) ∧ w1.cell? ⟨w.heap.size, 2, none⟩ = some (.float .f64 0) ∧ w1.cell? ⟨w.heap.size, 3, none⟩ = some (.int .i64 0) ∧
    w1.frozen? ⟨w.heap.size, 0, none⟩ = false ∧ w1.frozen? ⟨w.heap.size, 1, none⟩ = false ∧ w1.frozen? ⟨w.heap.size, 2, none⟩ = false ∧ w1.frozen? ⟨w.heap.size, 3, none⟩ = false ∧ w.heap.size < w1.heap.size := by
  have hs := h.size
  have hb : ∀ o : Nat, (⟨w.heap.size, o, none⟩ : Addr).block < (w.alloc Z30).heap.size := fun o => by simp
  refine ⟨?_, ?_, ?_, ?_, ?_, ?_, ?_, ?_, ?_⟩
  · rw [h.cell (hb 0)]; unfold Z30; go_simp
  · rw [h.cell (hb 1)]; unfold Z30; go_simp
  · rw [h.cell (hb 2)]; unfold Z30; go_simp
  · rw [h.cell (hb 3)]; unfold Z30; go_simp
  · rw [h.frozen (hb 0)]; unfold Z30; go_simp
  · rw [h.frozen (hb 1)]; unfold Z30; go_simp
  · rw [h.frozen (hb 2)]; unfold Z30; go_simp
  · rw [h.frozen (hb 3)]; unfold Z30; go_simp
  · simp at hs; omega

/-- A date laid into the block B. -/
def set4 (w : World) (B : Nat) (v0 v1 v2 v3 : Value) : World := (((w.setCell ⟨B, 0, none⟩ v0).setCell ⟨B, 1, none⟩ v1).setCell ⟨B, 2, none⟩ v2).setCell ⟨B, 3, none⟩ v3

theorem set4_size (w : World) (B : Nat) (v0 v1 v2 v3 : Value) : (set4 w B v0 v1 v2 v3).heap.size = w.heap.size := by simp [set4, World.setCell]
theorem set4_cell (w : World) (B : Nat) (v0 v1 v2 v3 : Value) {p : Addr} (h : p.block ≠ B) : (set4 w B v0 v1 v2 v3).cell? p = w.cell? p := by
  have hb : (set4 w B v0 v1 v2 v3).heap[p.block]? = w.heap[p.block]? := by
    unfold set4
    rw [Below.heap_setCell _ _ _ _ h, Below.heap_setCell _ _ _ _ h, Below.heap_setCell _ _ _ _ h, Below.heap_setCell _ _ _ _ h]
  exact World.cell?_of_block hb
theorem set4_below {w w1 : World} {n : Nat} (h : Below n w w1) (B : Nat) (hB : n ≤ B) (v0 v1 v2 v3 : Value) : Below n w (set4 w1 B v0 v1 v2 v3) :=
  (((h.setCell (p := ⟨B, 0, none⟩) hB v0).setCell (p := ⟨B, 1, none⟩) hB v1).setCell (p := ⟨B, 2, none⟩) hB v2).setCell (p := ⟨B, 3, none⟩) hB v3

theorem wr_set4 {w w1 : World} {a : Addr} {q : Nat} (o : Obj) (h : Wr (w.alloc o) w1 a q) (v0 v1 v2 v3 : Value) : Wr w (set4 w1 w.heap.size v0 v1 v2 v3) a q := by
  obtain ⟨h1, h2, h3, ⟨t, h4⟩, h5⟩ := h
  have hs : (w.alloc o).heap.size = w.heap.size + 1 := by simp
  have hq : q ≠ w.heap.size := by omega
  have hb : Below w.heap.size w w1 := ((Below.refl _ w).alloc (Nat.le_refl _) o).trans (h1.mono (by omega))
  exact ⟨set4_below hb _ (Nat.le_refl _) _ _ _ _, by omega, by rw [set4_size]; exact h3, ⟨t, by rw [set4_cell _ _ _ _ _ _ hq]; exact h4⟩, by rw [set4_cell _ _ _ _ _ _ hq]; exact h5⟩

theorem doy_cal (F : Interp) (y yd c : Int) (s : ByteArray) (a : Addr) (w : World) (hF : F.answers w.tape) (h : c < 0 ∨ 2 < c) (hg : w.cell? ⟨0, 0, none⟩ = some (.iface 65 (.pointer (some a)))) (ha : w.cell? a = some (.string s)) :
    Calls Ybaf.prog 9 #[.int .i64 y, .int .i64 yd, .int .i64 c] w fun e w' => ∃ q, e = .returned (.tuple #[zeroDate, .iface 51 (.pointer (some ⟨q, 0, none⟩))]) ∧ Wr w w' a q := by
  have hab := cell_lt ha
  have hgb := cell_lt hg
  have k1 : (w.alloc Z30).cell? ⟨0, 0, none⟩ = some (.iface 65 (.pointer (some a))) := by rw [((Below.refl _ w).alloc (Nat.le_refl _) _).cell hgb]; exact hg
  have k2 : (w.alloc Z30).cell? a = some (.string s) := by rw [((Below.refl _ w).alloc (Nat.le_refl _) _).cell hab]; exact ha
  have hc := checkCalendar_bad F c s a (w.alloc Z30) hF h k1 k2
  go_enter Ybaf.func9, Ybaf.ntmps9
  go_wp2_with fail
  refine hc.mono ?_
  rintro e w1 ⟨q, rfl, hW⟩
  obtain ⟨f0, f1, f2, f3, f4, f5, f6, f7, f8⟩ := z30_facts hW.1
  clear k1 k2 hc
  go_wp2_with fail
  refine bodyPost_ret (v := .tuple #[zeroDate, .iface 51 (.pointer (some ⟨q, 0, none⟩))]) (by simp [results, Ybaf.results9, zeroDate, go_sem, f0, f1, f2, f3]) rfl ⟨q, rfl, ?_⟩
  exact wr_set4 Z30 hW _ _ _ _

theorem doy_year (F : Interp) (y yd c : Int) (s : ByteArray) (a : Addr) (w : World) (hF : F.answers w.tape) (h0 : 0 ≤ c) (h2 : c ≤ 2) (h : y ≤ -2147483648 ∨ 2147483648 ≤ y) (hg : w.cell? ⟨0, 0, none⟩ = some (.iface 65 (.pointer (some a)))) (ha : w.cell? a = some (.string s)) :
    Calls Ybaf.prog 9 #[.int .i64 y, .int .i64 yd, .int .i64 c] w fun e w' => ∃ q, e = .returned (.tuple #[zeroDate, .iface 51 (.pointer (some ⟨q, 0, none⟩))]) ∧ Wr w w' a q := by
  have hab := cell_lt ha
  have hgb := cell_lt hg
  have k1 : (w.alloc Z30).cell? ⟨0, 0, none⟩ = some (.iface 65 (.pointer (some a))) := by rw [((Below.refl _ w).alloc (Nat.le_refl _) _).cell hgb]; exact hg
  have k2 : (w.alloc Z30).cell? a = some (.string s) := by rw [((Below.refl _ w).alloc (Nat.le_refl _) _).cell hab]; exact ha
  have hc := checkYear_bad F y s a (w.alloc Z30) hF h k1 k2
  have hk := checkCalendar_ok c (w.alloc Z30) h0 h2
  go_enter Ybaf.func9, Ybaf.ntmps9
  go_wp2_with fail
  refine hk.mono ?_
  rintro e w0 ⟨rfl, hw0⟩
  rw [hw0]
  clear hw0
  go_wp2_with fail
  refine hc.mono ?_
  rintro e w1 ⟨q, rfl, hW⟩
  obtain ⟨f0, f1, f2, f3, f4, f5, f6, f7, f8⟩ := z30_facts hW.1
  clear k1 k2 hc hk
  go_wp2_with fail
  refine bodyPost_ret (v := .tuple #[zeroDate, .iface 51 (.pointer (some ⟨q, 0, none⟩))]) (by simp [results, Ybaf.results9, zeroDate, go_sem, f0, f1, f2, f3]) rfl ⟨q, rfl, ?_⟩
  exact wr_set4 Z30 hW _ _ _ _

theorem err3_call (F : Interp) (n m : Int) (s : ByteArray) (a : Addr) (w : World) (blk : Nat) (hblk : blk = w.heap.size) (hF : F.answers w.tape) (ha : w.cell? a = some (.string s)) :
    Calls Ybaf.prog 10 #[.string ⟨#[100, 97, 121, 32, 37, 100, 32, 110, 111, 116, 32, 105, 110, 32, 49, 46, 46, 37, 100, 58, 32, 37, 119]⟩, .slice (some ⟨blk, 0, none⟩) 3 3] (w.alloc (.cells #[.iface 3 (.int .i64 n), .iface 2 (.int .i64 m), .iface 65 (.pointer (some a))] 20)) fun e w' =>
      ∃ q, e = .returned (.iface 51 (.pointer (some ⟨q, 0, none⟩))) ∧ Wr w w' a q := by
  have hab := cell_lt ha
  have k3 : (w.alloc (.cells #[.iface 3 (.int .i64 n), .iface 2 (.int .i64 m), .iface 65 (.pointer (some a))] 20)).cell? a = some (.string s) := by rw [((Below.refl _ w).alloc (Nat.le_refl _) _).cell hab]; exact ha
  subst hblk
  refine (errorf3 F n m s _ a _ (by exact hF) (by go_simp) (by go_simp) (by go_simp) k3).mono ?_
  rintro e w1 ⟨t, rfl, rfl⟩
  exact ⟨_, rfl, by simpa using wr_mk _ t⟩

set_option maxHeartbeats 400000 in
theorem doy_day (F : Interp) (y yd c : Int) (s : ByteArray) (a : Addr) (w : World) (hF : F.answers w.tape) (h0 : 0 ≤ c) (h2 : c ≤ 2) (hy1 : -2147483648 < y) (hy2 : y < 2147483648) (h : yd < 1 ∨ cumN y c 12 < yd) (hg : w.cell? ⟨1, 0, none⟩ = some (.iface 65 (.pointer (some a)))) (ha : w.cell? a = some (.string s)) :
    Calls Ybaf.prog 9 #[.int .i64 y, .int .i64 yd, .int .i64 c] w fun e w' => ∃ q, e = .returned (.tuple #[zeroDate, .iface 51 (.pointer (some ⟨q, 0, none⟩))]) ∧ Wr w w' a q := by
  have hab := cell_lt ha
  have hgb := cell_lt hg
  have hlen := year_len y c h0 h2
  have hr0 := dn_range y c (by omega) (by omega)
  have hr1 := dn_range (y + 1) c (by omega) (by omega)
  have hd0 := dayNumber_jan y c (w.alloc Z30) (by omega) (by omega)
  have hd1 := dayNumber_jan (y + 1) c (w.alloc Z30) (by omega) (by omega)
  have hk := checkCalendar_ok c (w.alloc Z30) h0 h2
  have hy := checkYear_ok y (w.alloc Z30) hy1 hy2
  have hb : Below w.heap.size w (w.alloc Z30) := (Below.refl _ w).alloc (Nat.le_refl _) _
  have k1 : (w.alloc Z30).cell? ⟨1, 0, none⟩ = some (.iface 65 (.pointer (some a))) := by rw [hb.cell hgb]; exact hg
  have k2 : (w.alloc Z30).cell? a = some (.string s) := by rw [hb.cell hab]; exact ha
  have he := fun m => err3_call F yd m s a (w.alloc Z30) (w.heap.size + 1) (by simp) hF k2
  generalize dn y c = A at *
  generalize dn (y + 1) c = B at *
  generalize cumN y c 12 = T at *
  have Hl : Hid (B - A = T) := hlen
  have hT1 : B - A ≤ 5000000000000 := by omega
  clear hlen hb hgb hab
  have key : ∀ q w1, Wr (w.alloc Z30) w1 a q → w1.cell? ⟨w.heap.size, 0, none⟩ = some (.int .i64 0) := fun q w1 h => (z30_facts h.1).1
  clear key
  rcases h with h | h
  · have d1 : decide (yd < 1) = true := by simp; omega
    go_enter Ybaf.func9, Ybaf.ntmps9
    go_wp2_with fail
    refine hk.mono ?_
    rintro e w0 ⟨rfl, hw0⟩
    rw [hw0]
    clear hw0
    go_wp2_with fail
    refine hy.mono ?_
    rintro e w0 ⟨rfl, hw0⟩
    rw [hw0]
    clear hw0
    go_wp2_with fail
    refine hd0.mono ?_
    rintro e w0 ⟨rfl, hw0⟩
    rw [hw0]
    clear hw0
    go_wp2_with fail
    refine hd1.mono ?_
    rintro e w0 ⟨rfl, hw0⟩
    rw [hw0]
    clear hw0
    go_wp2_with fail
    refine (he _).mono ?_
    rintro e w1 ⟨q, rfl, hW⟩
    obtain ⟨f0, f1, f2, f3, f4, f5, f6, f7, f8⟩ := z30_facts hW.1
    clear k1 k2 hk hy hd0 hd1 he
    go_wp2_with fail
    refine bodyPost_ret (v := .tuple #[zeroDate, .iface 51 (.pointer (some ⟨q, 0, none⟩))]) (by simp [results, Ybaf.results9, zeroDate, go_sem, f0, f1, f2, f3]) rfl ⟨q, rfl, ?_⟩
    exact wr_set4 Z30 hW _ _ _ _
  · have d1 : decide (yd < 1) = false ∨ decide (yd < 1) = true := by cases decide (yd < 1) <;> simp
    rcases d1 with d1 | d1
    all_goals
      have d2 : decide (B - A < yd) = true := by have := Hl.out; simp; omega
      go_enter Ybaf.func9, Ybaf.ntmps9
      go_wp2_with fail
      refine hk.mono ?_
      rintro e w0 ⟨rfl, hw0⟩
      rw [hw0]
      clear hw0
      go_wp2_with fail
      refine hy.mono ?_
      rintro e w0 ⟨rfl, hw0⟩
      rw [hw0]
      clear hw0
      go_wp2_with fail
      refine hd0.mono ?_
      rintro e w0 ⟨rfl, hw0⟩
      rw [hw0]
      clear hw0
      go_wp2_with fail
      refine hd1.mono ?_
      rintro e w0 ⟨rfl, hw0⟩
      rw [hw0]
      clear hw0
      go_wp2_with fail
      refine (he _).mono ?_
      rintro e w1 ⟨q, rfl, hW⟩
      obtain ⟨f0, f1, f2, f3, f4, f5, f6, f7, f8⟩ := z30_facts hW.1
      clear k1 k2 hk hy hd0 hd1 he
      go_wp2_with fail
      refine bodyPost_ret (v := .tuple #[zeroDate, .iface 51 (.pointer (some ⟨q, 0, none⟩))]) (by simp [results, Ybaf.results9, zeroDate, go_sem, f0, f1, f2, f3]) rfl ⟨q, rfl, ?_⟩
      exact wr_set4 Z30 hW _ _ _ _

theorem cum_le (y c : Int) : cumN y c 12 ≤ 366 := by
  by_cases hX : c = 0 ∧ y = 1582
  · obtain ⟨rfl, rfl⟩ := hX
    decide
  · rw [cum_year hX]
    unfold lpI
    split <;> omega

theorem dn_range2 (y c : Int) (h1 : -2147483648 ≤ y) (h2 : y ≤ 2147483648) : -900000000000 ≤ dn y c ∧ dn y c ≤ 900000000000 := by
  unfold dn
  split <;> omega

/-- The date that is written. -/
def okDate (y c : Int) (k : Nat) (d : Int) : Value := .agg #[.int .i64 y, .int .i64 ((k : Int) + 1), .float .f64 (floatOfInt .f64 (dd y c k d)), .int .i64 c]

theorem doy_ok (y c d : Int) (k : Nat) (w : World) (h0 : 0 ≤ c) (h2 : c ≤ 2) (hy1 : -2147483648 < y) (hy2 : y < 2147483648) (hk12 : k < 12) (hd1 : 1 ≤ d) (hd2 : d ≤ ml y ((k : Int) + 1) c) (yd : Int) (hyd : yd = cumN y c k + d) (h1 : 1 ≤ yd) (hT : yd ≤ cumN y c 12) :
    Calls Ybaf.prog 9 #[.int .i64 y, .int .i64 yd, .int .i64 c] w fun e w' => e = .returned (.tuple #[okDate y c k d, .nilIface]) ∧ Below w.heap.size w w' := by
  have hlen := year_len y c h0 h2
  have hr0 := dn_range y c (by omega) (by omega)
  have hr1 := dn_range (y + 1) c (by omega) (by omega)
  have g0 := dayNumber_jan y c (w.alloc Z30) (by omega) (by omega)
  have g1 := dayNumber_jan (y + 1) c (w.alloc Z30) (by omega) (by omega)
  have hk := checkCalendar_ok c (w.alloc Z30) h0 h2
  have hy := checkYear_ok y (w.alloc Z30) hy1 hy2
  have hcy := cum_le y c
  have hr2 := dn_range2 y c (by omega) (by omega)
  have hn := civil_any y c d k (w.alloc Z30) (by omega) (by omega) h0 h2 hk12 hd1 hd2 (dn y c + yd - 1) (by rw [hyd]) (by omega) (by omega)
  generalize dn y c = A at *
  generalize dn (y + 1) c = B at *
  generalize cumN y c 12 = T at *
  have Hl : Hid (B - A = T) := hlen
  have hT1 : B - A ≤ 5000000000000 := by omega
  have d1 : decide (yd < 1) = false := by simp; omega
  have d2 : decide (B - A < yd) = false := by simp; omega
  clear hlen hyd
  go_enter Ybaf.func9, Ybaf.ntmps9
  go_wp2_with fail
  refine hk.mono ?_
  rintro e w0 ⟨rfl, hw0⟩
  rw [hw0]
  clear hw0
  go_wp2_with fail
  refine hy.mono ?_
  rintro e w0 ⟨rfl, hw0⟩
  rw [hw0]
  clear hw0
  go_wp2_with fail
  refine g0.mono ?_
  rintro e w0 ⟨rfl, hw0⟩
  rw [hw0]
  clear hw0
  go_wp2_with fail
  refine g1.mono ?_
  rintro e w0 ⟨rfl, hw0⟩
  rw [hw0]
  clear hw0
  go_wp2_with fail
  refine hn.mono ?_
  rintro e w0 ⟨rfl, hw0⟩
  rw [hw0]
  clear hw0
  obtain ⟨f0, f1, f2, f3, f4, f5, f6, f7, f8⟩ := z30_facts (w := w) (Below.refl _ (w.alloc Z30))
  clear hk hy g0 g1 hn
  go_wp2_with fail
  refine bodyPost_ret (v := .tuple #[okDate y c k d, .nilIface]) (by simp [results, Ybaf.results9, okDate, go_sem, f0, f1, f2, f3]) rfl ⟨rfl, ?_⟩
  exact set4_below ((Below.refl _ w).alloc (Nat.le_refl _) Z30) _ (Nat.le_refl _) _ _ _ _

end Go.Proofs.YbulkavauFmt
