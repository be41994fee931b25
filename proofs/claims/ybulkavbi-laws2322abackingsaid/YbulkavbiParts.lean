/-
  LawS2322ABacking: the argument, the worlds that her first two loops lay.
-/
import Derived.Test.YbulkavbiBacking
import Derived.OwnWalk
import Derived.Deep.MidRow
namespace Go.Proofs.Ybulkavbi
open Go Go.RowKit

/-- The argument's elements. -/
structure Raw where
  s : Nat → Int
  c : Nat → Bool
  r : Nat → Int
  h : Nat → Int

structure Raw.Ok (z : Raw) : Prop where
  s : ∀ i, 0 ≤ z.s i ∧ z.s i ≤ 4294967295
  r : ∀ i, 0 ≤ z.r i ∧ z.r i ≤ 255
  h : ∀ i, -2147483648 ≤ z.h i ∧ z.h i ≤ 2147483647

def ArgAt (w : World) (ad : Option Addr) (len : Nat) (z : Raw) : Prop :=
  ∀ i, i < len → ∃ b off, ad = some ⟨b, off, none⟩ ∧ w.cell? ⟨b, off + i * 4, none⟩ = some (.int .u32 (z.s i)) ∧ w.cell? ⟨b, off + i * 4 + 1, none⟩ = some (.bool (z.c i)) ∧
    w.cell? ⟨b, off + i * 4 + 2, none⟩ = some (.int .u8 (z.r i)) ∧ w.cell? ⟨b, off + i * 4 + 3, none⟩ = some (.int .i32 (z.h i))

theorem ArgAt.below {w w' : World} {ad : Option Addr} {len : Nat} {z : Raw} (h : ArgAt w ad len z) (hB : Below w.heap.size w w') : ArgAt w' ad len z := by
  intro i hi
  obtain ⟨b, off, e, c1, c2, c3, c4⟩ := h i hi
  have c : ∀ {a : Addr} {u : Value}, w.cell? a = some u → w'.cell? a = some u := fun {a u} hu => by rw [hB.cell (cell_lt hu)]; exact hu
  exact ⟨b, off, e, c c1, c c2, c c3, c c4⟩

def vals (n : Nat) (z : Raw) : Vals := ⟨n, fun i => z.s i % 1048576, z.h, fun i => (z.r i % 4).toNat, z.c⟩

theorem vals_ok {n : Nat} {z : Raw} (hn : n ≤ 1024) (hz : z.Ok) : (vals n z).Ok :=
  ⟨hn, fun i => by have := hz.s i; show 0 ≤ z.s i % 1048576 ∧ _; constructor <;> (try show z.s i % 1048576 < 1048576) <;> omega, hz.h, fun i => by show (z.r i % 4).toNat < 4; omega⟩

/-- Behind k of the rounds' states. -/
structure Rs (w : World) (k : Nat) (wr : World) : Prop where
  bel : Below w.heap.size w wr
  size : wr.heap.size = w.heap.size + 1 + k
  ptr : ∀ j, j < 4 → wr.cell? ⟨w.heap.size, j, none⟩ = some (.pointer (if j < k then some ⟨w.heap.size + 1 + j, 0, none⟩ else none))
  pf : ∀ j, j < 4 → wr.frozen? ⟨w.heap.size, j, none⟩ = false
  kc : ∀ j, j < k → wr.cell? ⟨w.heap.size + 1 + j, 3, none⟩ = some (.bool false)
  kf : ∀ j, j < k → wr.frozen? ⟨w.heap.size + 1 + j, 3, none⟩ = false

theorem rs_start (w : World) : Rs w 0 (w.alloc (.cells #[.pointer none, .pointer none, .pointer none, .pointer none] 24)) := by
  refine ⟨(Below.refl _ _).alloc (Nat.le_refl _) _, by simp, ?_, ?_, fun j hj => by omega, fun j hj => by omega⟩
  · intro j hj
    have h4 : j = 0 ∨ j = 1 ∨ j = 2 ∨ j = 3 := by omega
    rcases h4 with rfl | rfl | rfl | rfl <;> simp
  · intro j hj
    simp

theorem Rs.step {w w1 : World} {k : Nat} (h : Rs w k w1) (hk : k < 4) :
    Rs w (k + 1) ((w1.setCell ⟨w.heap.size, k, none⟩ (.pointer (some ⟨w1.heap.size, 0, none⟩))).alloc (.cells #[.int .i64 0, .slice none 0 0, .int .i64 0, .bool false] 27)) := by
  have hs := h.size
  have c : ∀ {a : Addr}, a.block < w1.heap.size → ∀ (W : World), W.heap.size = w1.heap.size → ∀ o, (W.alloc o).cell? a = W.cell? a := fun {a} ha W hW o => World.cell?_alloc_lt W o a (by rw [hW]; exact ha)
  have f : ∀ {a : Addr}, a.block < w1.heap.size → ∀ (W : World), W.heap.size = w1.heap.size → ∀ o, (W.alloc o).frozen? a = W.frozen? a := fun {a} ha W hW o => World.frozen?_alloc_old W o a (by rw [hW]; omega)
  refine ⟨(h.bel.setCell (Nat.le_refl _) _).alloc (by simp; omega) _, by simp [hs]; omega, ?_, ?_, ?_, ?_⟩
  · intro j hj
    rw [c (show w.heap.size < _ by omega) _ (by simp)]
    by_cases e : j = k
    · subst e
      rw [World.cell?_setCell_same _ _ _ (h.ptr j hj), if_pos (by omega), hs]
    · rw [World.cell?_setCell_other _ _ _ _ (by intro x; injection x with _ x _; exact e x.symm), h.ptr j hj]
      by_cases e2 : j < k
      · rw [if_pos e2, if_pos (by omega)]
      · rw [if_neg e2, if_neg (by omega)]
  · intro j hj
    rw [f (show w.heap.size < _ by omega) _ (by simp), World.frozen?_setCell]
    exact h.pf j hj
  · intro j hj
    by_cases e : j = k
    · subst e
      have e1 : (w1.setCell ⟨w.heap.size, j, none⟩ (.pointer (some ⟨w1.heap.size, 0, none⟩))).heap.size = w.heap.size + 1 + j := by simp [hs]
      rw [← e1, World.cell?_alloc_new]
      rfl
    · rw [c (show w.heap.size + 1 + j < _ by omega) _ (by simp), World.cell?_setCell_other _ _ _ _ (by intro x; injection x with x _ _; omega)]
      exact h.kc j (by omega)
  · intro j hj
    by_cases e : j = k
    · subst e
      have e1 : (w1.setCell ⟨w.heap.size, j, none⟩ (.pointer (some ⟨w1.heap.size, 0, none⟩))).heap.size = w.heap.size + 1 + j := by simp [hs]
      have e2 : w.heap.size + 1 + j = (w1.setCell ⟨w.heap.size, j, none⟩ (.pointer (some ⟨w1.heap.size, 0, none⟩))).heap.size := e1.symm
      rw [e2]
      exact World.frozen?_alloc_new _ _ _ _
    · rw [f (show w.heap.size + 1 + j < _ by omega) _ (by simp), World.frozen?_setCell]
      exact h.kf j (by omega)

/-- A zero validator, a zero standing. -/
def zV : Value := .agg #[.string ⟨#[]⟩, .int .i64 0, .pointer none, .bool false, .int .i64 0, .pointer none, .map none]
def zS : Value := .agg #[.int .i64 0, .int .i64 0, .int .u64 0, .pointer none, .bool false, .slice none 0 0]

theorem made_some (z : Array Value) {n c : Nat} (h : c < n) : (madeCells z n)[c]?.isSome = true := by
  rw [Array.getElem?_eq_getElem (by rw [size_madeCells]; exact h)]
  rfl

theorem mk23 (w : World) : (Instr.makeSlice 23 (.int .i64 4) (.int .i64 4)).run Yba.prog w = .ok (.slice (some ⟨w.heap.size, 0, none⟩) 4 4) (w.alloc (.cells #[.pointer none, .pointer none, .pointer none, .pointer none] 24)) := by kernel_rfl

theorem mk28 (n : Nat) (hn : n ≤ 1024) (w : World) : (Instr.makeSlice 28 (.int .i64 n) (.int .i64 n)).run Yba.prog w = .ok (.slice (some ⟨w.heap.size, 0, none⟩) n n) (w.alloc (.cells (madeCells zV.cells (n * 7)) 39)) := by
  obtain ⟨i0, hi, hz0, hz1, hz2⟩ := info_parts (P := Yba.prog) (e := 39) (z := zV) (size := 7) (bytes := 64) (by kernel_rfl)
  have h := run_make (P := Yba.prog) w 28 39 i0 zV Yba.underlying28 hi hz0 .i64 .i64 n n (by omega) (by omega) (by rw [hz2]; omega) (by omega)
  rw [hz1] at h
  exact h

theorem mk29 (n : Nat) (hn : n ≤ 1024) (w : World) : (Instr.makeSlice 29 (.int .i64 n) (.int .i64 n)).run Yba.prog w = .ok (.slice (some ⟨w.heap.size, 0, none⟩) n n) (w.alloc (.cells (madeCells zS.cells (n * 6)) 43)) := by
  obtain ⟨i0, hi, hz0, hz1, hz2⟩ := info_parts (P := Yba.prog) (e := 43) (z := zS) (size := 6) (bytes := 64) (by kernel_rfl)
  have h := run_make (P := Yba.prog) w 29 43 i0 zS Yba.underlying29 hi hz0 .i64 .i64 n n (by omega) (by omega) (by rw [hz2]; omega) (by omega)
  rw [hz1] at h
  exact h

theorem there_below {w w' : World} {b o n : Nat} (h : w.there b o n) (hb : Below w.heap.size w w') : w'.there b o n := by
  intro j hj
  obtain ⟨h1, h2⟩ := h j hj
  obtain ⟨u, hu⟩ := Option.isSome_iff_exists.1 h1
  have hl := cell_lt hu
  exact ⟨by rw [hb.cell hl]; exact h1, by rw [hb.frozen hl]; exact h2⟩

theorem range_below {w w' : World} {b o : Nat} {cs : List Value} (h : w.rangeAt b o cs) (hb : Below w.heap.size w w') : w'.rangeAt b o cs := by
  intro j v hv
  have hu := h j v hv
  rw [hb.cell (cell_lt hu)]
  exact hu

theorem there_part {w : World} {b n o m : Nat} (h : w.there b 0 n) (hm : o + m ≤ n) : w.there b o m := by
  intro j hj
  have := h (o + j) (by omega)
  simpa using this

/-- The cells of a validator, of a standing. -/
def valL (z : Raw) (hd : Nat) (j : Nat) : List Value := [.string ⟨#[]⟩, .int .i64 (z.s j % 1048576), .pointer (some ⟨hd, 0, none⟩), .bool (z.c j), .int .i64 0, .pointer none, .map none]
def stL (B : Nat) (z : Raw) (j : Nat) : List Value := [.int .i64 (z.r j % 4 + 1), .int .i64 0, .int .u64 0, .pointer (some ⟨B + 1 + (z.r j % 4).toNat, 0, none⟩), .bool false, .slice none 0 0]

/-- What may be written, cell by cell. -/
theorem there_cell {w : World} {b n : Nat} (h : w.there b 0 n) {o : Nat} (ho : o < n) : (∃ u, w.cell? ⟨b, o, none⟩ = some u) ∧ w.frozen? ⟨b, o, none⟩ = false := by
  have := h o ho
  rw [Nat.zero_add] at this
  exact ⟨Option.isSome_iff_exists.1 this.1, this.2⟩

/-- Behind iv validators and ia standings. -/
structure Bs (w : World) (n : Nat) (z : Raw) (hd : Nat → Nat) (iv ia ih : Nat) (wr : World) : Prop where
  bel : Below w.heap.size w wr
  size : w.heap.size + 1 + 4 + 2 ≤ wr.heap.size
  ptr : ∀ j, j < 4 → wr.cell? ⟨w.heap.size, j, none⟩ = some (.pointer (some ⟨w.heap.size + 1 + j, 0, none⟩))
  kc : ∀ j, j < 4 → wr.cell? ⟨w.heap.size + 1 + j, 3, none⟩ = some (.bool false)
  kf : ∀ j, j < 4 → wr.frozen? ⟨w.heap.size + 1 + j, 3, none⟩ = false
  vt : wr.there (w.heap.size + 1 + 4) 0 (n * 7)
  at_ : wr.there (w.heap.size + 1 + 4 + 1) 0 (n * 6)
  vr : ∀ j, j < iv → wr.rangeAt (w.heap.size + 1 + 4) (j * 7) (valL z (hd j) j)
  ar : ∀ j, j < ia → wr.rangeAt (w.heap.size + 1 + 4 + 1) (j * 6) (stL w.heap.size z j)
  hh : ∀ j, j < ih → w.heap.size + 1 + 4 + 1 < hd j ∧ wr.cell? ⟨hd j, 0, none⟩ = some (.int .i64 (z.h j))

theorem Bs.grow {w : World} {n : Nat} {z : Raw} {hd : Nat → Nat} {iv ia ih : Nat} {wr wr' : World} (h : Bs w n z hd iv ia ih wr) (hb : Below wr.heap.size wr wr') : Bs w n z hd iv ia ih wr' := by
  have c : ∀ {a : Addr} {u : Value}, wr.cell? a = some u → wr'.cell? a = some u := fun {a u} hu => by rw [hb.cell (cell_lt hu)]; exact hu
  have hs := h.size
  have hs' := hb.size
  exact ⟨h.bel.trans (hb.mono (by omega)), by omega, fun j hj => c (h.ptr j hj), fun j hj => c (h.kc j hj), fun j hj => by rw [hb.frozen (cell_lt (h.kc j hj))]; exact h.kf j hj,
    there_below h.vt hb, there_below h.at_ hb, fun j hj => range_below (h.vr j hj) hb, fun j hj => range_below (h.ar j hj) hb, fun j hj => ⟨(h.hh j hj).1, c (h.hh j hj).2⟩⟩

theorem cell_setCells_far {w : World} {b o : Nat} {vs : List Value} {a : Addr} (h : a.block ≠ b) : (w.setCells b o vs).cell? a = w.cell? a :=
  World.cell?_setCells_out b vs o w a (fun e _ => absurd e h)

theorem setCells_below {B : Nat} {a : World} {b : Nat} (hb : B ≤ b) : ∀ (vs : List Value) (o : Nat) (w : World), Below B a w → Below B a (w.setCells b o vs)
  | [], _, _, h => h
  | v :: vs, o, w, h => by
    unfold World.setCells
    exact setCells_below hb vs _ _ (h.setCell hb _)

theorem size_setC (b : Nat) : ∀ (vs : List Value) (o : Nat) (w : World), (w.setCells b o vs).heap.size = w.heap.size
  | [], _, _ => rfl
  | v :: vs, o, w => by rw [World.setCells, size_setC b vs]; simp

def upd (hd : Nat → Nat) (i N : Nat) (j : Nat) : Nat := if j = i then N else hd j

theorem Bs.setV {w : World} {n : Nat} {z : Raw} {hd : Nat → Nat} {i ia : Nat} {wr : World} (h : Bs w n z hd i ia i wr) (hi : i < n) (N : Nat) :
    Bs w n z (upd hd i N) (i + 1) ia i (wr.setCells (w.heap.size + 1 + 4) (i * 7) (valL z N i)) := by
  have c : ∀ {a : Addr} {u : Value}, a.block ≠ w.heap.size + 1 + 4 → wr.cell? a = some u → (wr.setCells (w.heap.size + 1 + 4) (i * 7) (valL z N i)).cell? a = some u := fun {a u} hn hu => by rw [cell_setCells_far hn]; exact hu
  refine ⟨setCells_below (by omega) _ _ _ h.bel, by rw [size_setC]; exact h.size, fun j hj => c (show w.heap.size ≠ _ by omega) (h.ptr j hj), fun j hj => c (show w.heap.size + 1 + j ≠ _ by omega) (h.kc j hj), fun j hj => by rw [World.frozen?_setCells]; exact h.kf j hj,
    World.there_setCells h.vt _ _ _, World.there_setCells h.at_ _ _ _, ?_, fun j hj => World.rangeAt_setCells_apart (h.ar j hj) _ _ _ (Or.inl (by omega)), ?_⟩
  · intro j hj
    by_cases e : j = i
    · subst e
      rw [upd, if_pos rfl]
      exact World.rangeAt_setCells_same _ _ _ _ (there_part h.vt (by show j * 7 + 7 ≤ _; omega))
    · rw [upd, if_neg e]
      refine World.rangeAt_setCells_apart (h.vr j (by omega)) _ _ _ (Or.inr (Or.inl ?_))
      show j * 7 + 7 ≤ i * 7
      omega
  · intro j hj
    rw [upd, if_neg (by omega)]
    have := h.hh j (by omega)
    exact ⟨this.1, c (show hd j ≠ _ by omega) this.2⟩

theorem Bs.head {w : World} {n : Nat} {z : Raw} {hd : Nat → Nat} {iv ia i N : Nat} {wr : World} (h : Bs w n z (upd hd i N) iv ia i wr) (hN : w.heap.size + 1 + 4 + 1 < N) (hc : wr.cell? ⟨N, 0, none⟩ = some (.int .i64 (z.h i))) :
    Bs w n z (upd hd i N) iv ia (i + 1) wr := by
  refine ⟨h.bel, h.size, h.ptr, h.kc, h.kf, h.vt, h.at_, h.vr, h.ar, ?_⟩
  intro j hj
  by_cases e : j = i
  · subst e
    rw [upd, if_pos rfl]
    exact ⟨hN, hc⟩
  · exact h.hh j (by omega)

theorem Bs.after {w : World} {n : Nat} {z : Raw} {hd : Nat → Nat} {i : Nat} {w2 : World} (h : Bs w n z hd i i i w2) (hi : i < n) (o1 o2 o3 o4 : Obj) (N : Nat) (hN : w2.heap.size ≤ N)
    (hc : ((((w2.alloc o1).alloc o2).alloc o3).alloc o4).cell? ⟨N, 0, none⟩ = some (.int .i64 (z.h i))) :
    Bs w n z (upd hd i N) (i + 1) i (i + 1) (((((w2.alloc o1).alloc o2).alloc o3).alloc o4).setCells (w.heap.size + 1 + 4) (i * 7) (valL z N i)).drew := by
  have hb : Below w2.heap.size w2 ((((w2.alloc o1).alloc o2).alloc o3).alloc o4) := ((((Below.refl _ _).alloc (Nat.le_refl _) _).alloc (by simp) _).alloc (by simp; omega) _).alloc (by simp; omega) _
  have hs := h.size
  have h2 := ((h.grow hb).setV hi N).head (by omega) (by rw [cell_setCells_far (show N ≠ _ by omega)]; exact hc)
  exact h2.grow (Below.refl _ _).drew

theorem Bs.after1 {w : World} {n : Nat} {z : Raw} {hd : Nat → Nat} {i : Nat} {w2 : World} (h : Bs w n z hd i i i w2) (hi : i < n) (o1 o2 o3 : Obj) (c : Array Value) (t : TypeId) (hc : c[0]? = some (.int .i64 (z.h i))) :
    Bs w n z (upd hd i (w2.heap.size + 1 + 1 + 1)) (i + 1) i (i + 1) (((((((((((w2.alloc o1).alloc o2).alloc o3).alloc (.cells c t)).setCell ⟨w.heap.size + 1 + 4, i * 7, none⟩ (.string ⟨#[]⟩)).setCell ⟨w.heap.size + 1 + 4, i * 7 + 1, none⟩ (.int .i64 (z.s i % 1048576))).setCell ⟨w.heap.size + 1 + 4, i * 7 + 2, none⟩ (.pointer (some ⟨w2.heap.size + 1 + 1 + 1, 0, none⟩))).setCell ⟨w.heap.size + 1 + 4, i * 7 + 3, none⟩ (.bool (z.c i))).setCell ⟨w.heap.size + 1 + 4, i * 7 + 4, none⟩ (.int .i64 0)).setCell ⟨w.heap.size + 1 + 4, i * 7 + 5, none⟩ (.pointer none)).setCell ⟨w.heap.size + 1 + 4, i * 7 + 6, none⟩ (.map none)).drew :=
  h.after hi o1 o2 o3 (.cells c t) (w2.heap.size + 1 + 1 + 1) (by omega) (by rw [World.cell?_alloc_at _ _ _ _ (by simp)]; exact hc)

theorem Bs.after2 {w : World} {n : Nat} {z : Raw} {hd : Nat → Nat} {i : Nat} {w2 : World} (h : Bs w n z hd i i i w2) (hi : i < n) (o1 o2 o4 : Obj) (c : Array Value) (t : TypeId) (hc : c[0]? = some (.int .i64 (z.h i))) :
    Bs w n z (upd hd i (w2.heap.size + 1 + 1)) (i + 1) i (i + 1) (((((((((((w2.alloc o1).alloc o2).alloc (.cells c t)).alloc o4).setCell ⟨w.heap.size + 1 + 4, i * 7, none⟩ (.string ⟨#[]⟩)).setCell ⟨w.heap.size + 1 + 4, i * 7 + 1, none⟩ (.int .i64 (z.s i % 1048576))).setCell ⟨w.heap.size + 1 + 4, i * 7 + 2, none⟩ (.pointer (some ⟨w2.heap.size + 1 + 1, 0, none⟩))).setCell ⟨w.heap.size + 1 + 4, i * 7 + 3, none⟩ (.bool (z.c i))).setCell ⟨w.heap.size + 1 + 4, i * 7 + 4, none⟩ (.int .i64 0)).setCell ⟨w.heap.size + 1 + 4, i * 7 + 5, none⟩ (.pointer none)).setCell ⟨w.heap.size + 1 + 4, i * 7 + 6, none⟩ (.map none)).drew :=
  h.after hi o1 o2 (.cells c t) o4 (w2.heap.size + 1 + 1) (by omega) (by rw [World.cell?_alloc_old _ _ _ (by show w2.heap.size + 1 + 1 ≠ _; simp), World.cell?_alloc_at _ _ _ _ (by simp)]; exact hc)

theorem Bs.setA {w : World} {n : Nat} {z : Raw} {hd : Nat → Nat} {iv i ih : Nat} {wr : World} (h : Bs w n z hd iv i ih wr) (hi : i < n) :
    Bs w n z hd iv (i + 1) ih (wr.setCells (w.heap.size + 1 + 4 + 1) (i * 6) (stL w.heap.size z i)) := by
  have c : ∀ {a : Addr} {u : Value}, a.block ≠ w.heap.size + 1 + 4 + 1 → wr.cell? a = some u → (wr.setCells (w.heap.size + 1 + 4 + 1) (i * 6) (stL w.heap.size z i)).cell? a = some u := fun {a u} hn hu => by rw [cell_setCells_far hn]; exact hu
  refine ⟨setCells_below (by omega) _ _ _ h.bel, by rw [size_setC]; exact h.size, fun j hj => c (show w.heap.size ≠ _ by omega) (h.ptr j hj), fun j hj => c (show w.heap.size + 1 + j ≠ _ by omega) (h.kc j hj), fun j hj => by rw [World.frozen?_setCells]; exact h.kf j hj,
    World.there_setCells h.vt _ _ _, World.there_setCells h.at_ _ _ _, fun j hj => World.rangeAt_setCells_apart (h.vr j hj) _ _ _ (Or.inl (by omega)), ?_, ?_⟩
  · intro j hj
    by_cases e : j = i
    · subst e
      exact World.rangeAt_setCells_same _ _ _ _ (there_part h.at_ (by show j * 6 + 6 ≤ _; omega))
    · refine World.rangeAt_setCells_apart (h.ar j (by omega)) _ _ _ (Or.inr (Or.inl ?_))
      show j * 6 + 6 ≤ i * 6
      omega
  · intro j hj
    have := h.hh j hj
    exact ⟨this.1, c (show hd j ≠ _ by omega) this.2⟩

theorem bs_start {w w1 : World} (h : Rs w 4 w1) (n : Nat) (z : Raw) (hd : Nat → Nat) (c1 c2 : Array Value) :
    Bs w n z hd 0 0 0 ((w1.alloc (.cells (madeCells c1 (n * 7)) 39)).alloc (.cells (madeCells c2 (n * 6)) 43)) := by
  have hs := h.size
  have hB : Below w1.heap.size w1 ((w1.alloc (.cells (madeCells c1 (n * 7)) 39)).alloc (.cells (madeCells c2 (n * 6)) 43)) :=
    ((Below.refl _ _).alloc (Nat.le_refl _) _).alloc (by simp) _
  have c : ∀ {a : Addr} {u : Value}, w1.cell? a = some u → ((w1.alloc (.cells (madeCells c1 (n * 7)) 39)).alloc (.cells (madeCells c2 (n * 6)) 43)).cell? a = some u := fun {a u} hu => by rw [hB.cell (cell_lt hu)]; exact hu
  refine ⟨h.bel.trans (hB.mono (by omega)), by simp [hs], fun j hj => ?_, fun j hj => c (h.kc j hj), fun j hj => by rw [hB.frozen (cell_lt (h.kc j hj))]; exact h.kf j hj, ?_, ?_, fun j hj => by omega, fun j hj => by omega, fun j hj => by omega⟩
  · have := h.ptr j hj
    rw [if_pos hj] at this
    exact c this
  · intro j hj
    rw [Nat.zero_add]
    have e1 : w.heap.size + 1 + 4 = w1.heap.size := hs.symm
    rw [e1]
    refine ⟨?_, ?_⟩
    · rw [World.cell?_alloc_lt _ _ _ (by show w1.heap.size < _; simp), World.cell?_alloc_new]
      exact made_some _ hj
    · rw [World.frozen?_alloc_old _ _ _ (by show w1.heap.size ≠ _; simp), World.frozen?_alloc_new]
  · intro j hj
    rw [Nat.zero_add]
    have e1 : w.heap.size + 1 + 4 + 1 = (w1.alloc (.cells (madeCells c1 (n * 7)) 39)).heap.size := by simp [hs]
    rw [e1]
    refine ⟨?_, ?_⟩
    · rw [World.cell?_alloc_new]
      exact made_some _ hj
    · rw [World.frozen?_alloc_new]

def at_ (w w2 : World) (hd : Nat → Nat) : At := ⟨w2.heap.size + 1 + 1 + 1, w2.heap.size + 1 + 1, w2.heap.size, w2.heap.size + 1, w.heap.size + 1 + 4, w.heap.size + 1 + 4 + 1, w.heap.size, fun j => w.heap.size + 1 + j, hd⟩

theorem env_of {w : World} {n : Nat} {z : Raw} {hd : Nat → Nat} {w2 : World} {x : Nums} (h : Bs w n z hd n n n w2) (hz : z.Ok) (a b c d : Array Value) (ta tb tc td : TypeId)
    (a6 : a[6]? = some (.int .i64 x.mc)) (b0 : b[0]? = some (.int .i64 x.fh))
    (c0 : c[0]? = some (.pointer (some ⟨w2.heap.size, 0, none⟩))) (c3 : c[3]? = some (.slice (some ⟨w.heap.size + 1 + 4, 0, none⟩) n n)) (c5 : c[5]? = some (.int .i64 x.run)) (c53 : c[53]? = some (.pointer (some ⟨w2.heap.size + 1, 0, none⟩)))
    (d0 : d[0]? = some (.pointer (some ⟨w2.heap.size + 1 + 1, 0, none⟩))) (d2 : d[2]? = some (.int .i64 x.q)) (d3 : d[3]? = some (.map none)) (d4 : d[4]? = some (.slice (some ⟨w.heap.size + 1 + 4 + 1, 0, none⟩) n n))
    (d5 : d[5]? = some (.slice (some ⟨w.heap.size, 0, none⟩) 4 4)) (d6 : d[6]? = some (.int .i64 1)) :
    Env ((((w2.alloc (.cells a ta)).alloc (.cells b tb)).alloc (.cells c tc)).alloc (.cells d td)) (at_ w w2 hd) (vals n z) x (fun _ => false) := by
  have hb : Below w2.heap.size w2 ((((w2.alloc (.cells a ta)).alloc (.cells b tb)).alloc (.cells c tc)).alloc (.cells d td)) := ((((Below.refl _ _).alloc (Nat.le_refl _) _).alloc (by simp) _).alloc (by simp; omega) _).alloc (by simp; omega) _
  have H := h.grow hb
  have hs := h.size
  have xa : ∀ k, ((((w2.alloc (.cells a ta)).alloc (.cells b tb)).alloc (.cells c tc)).alloc (.cells d td)).cell? ⟨w2.heap.size, k, none⟩ = a[k]? := fun k => by
    rw [World.cell?_alloc_old _ _ _ (by show w2.heap.size ≠ _; simp; omega), World.cell?_alloc_old _ _ _ (by show w2.heap.size ≠ _; simp; omega), World.cell?_alloc_old _ _ _ (by show w2.heap.size ≠ _; simp), World.cell?_alloc_new]
  have xb : ∀ k, ((((w2.alloc (.cells a ta)).alloc (.cells b tb)).alloc (.cells c tc)).alloc (.cells d td)).cell? ⟨w2.heap.size + 1, k, none⟩ = b[k]? := fun k => by
    have e : w2.heap.size + 1 = (w2.alloc (.cells a ta)).heap.size := by simp
    rw [World.cell?_alloc_old _ _ _ (by show w2.heap.size + 1 ≠ _; simp), World.cell?_alloc_old _ _ _ (by show w2.heap.size + 1 ≠ _; simp), e, World.cell?_alloc_new]
  have xc : ∀ k, ((((w2.alloc (.cells a ta)).alloc (.cells b tb)).alloc (.cells c tc)).alloc (.cells d td)).cell? ⟨w2.heap.size + 1 + 1, k, none⟩ = c[k]? := fun k => by
    have e : w2.heap.size + 1 + 1 = ((w2.alloc (.cells a ta)).alloc (.cells b tb)).heap.size := by simp
    rw [World.cell?_alloc_old _ _ _ (by show w2.heap.size + 1 + 1 ≠ _; simp), e, World.cell?_alloc_new]
  have xd : ∀ k, ((((w2.alloc (.cells a ta)).alloc (.cells b tb)).alloc (.cells c tc)).alloc (.cells d td)).cell? ⟨w2.heap.size + 1 + 1 + 1, k, none⟩ = d[k]? := fun k => by
    have e : w2.heap.size + 1 + 1 + 1 = (((w2.alloc (.cells a ta)).alloc (.cells b tb)).alloc (.cells c tc)).heap.size := by simp
    rw [e, World.cell?_alloc_new]
  have R : ∀ i, ((((z.r i % 4).toNat : Nat) : Int)) = z.r i % 4 := fun i => by have := hz.r i; omega
  exact ⟨(xd 0).trans d0, (xd 2).trans d2, (xd 3).trans d3, (xd 4).trans d4, (xd 5).trans d5, (xd 6).trans d6, (xc 0).trans c0, (xc 3).trans c3, (xc 5).trans c5, (xc 53).trans c53, (xa 6).trans a6, (xb 0).trans b0,
    fun i hi => by show _ = some (Value.int .i64 (((z.r i % 4).toNat : Int) + 1)); rw [R]; exact H.ar i hi 0 _ rfl,
    fun i hi => H.ar i hi 1 _ rfl, fun i hi => H.ar i hi 2 _ rfl, fun i hi => H.ar i hi 3 _ rfl, fun i hi => H.ar i hi 4 _ rfl, fun i hi => H.ar i hi 5 _ rfl,
    fun i hi => H.vr i hi 0 _ rfl, fun i hi => H.vr i hi 1 _ rfl, fun i hi => H.vr i hi 2 _ rfl, fun i hi => H.vr i hi 3 _ rfl, fun i hi => H.vr i hi 4 _ rfl, fun i hi => H.vr i hi 5 _ rfl, fun i hi => H.vr i hi 6 _ rfl,
    fun i hi => (H.hh i hi).2, H.ptr, H.kc, H.kf,
    fun j hj => by show w.heap.size < w.heap.size + 1 + j ∧ w.heap.size + 1 + j < w.heap.size + 1 + 4; omega,
    fun i j _ _ e => by show w.heap.size + 1 + i ≠ w.heap.size + 1 + j; omega,
    ⟨by show w.heap.size + 1 + 4 < w.heap.size + 1 + 4 + 1; omega, by show w.heap.size + 1 + 4 < w2.heap.size + 1 + 1 + 1; omega, by show w.heap.size + 1 + 4 < w2.heap.size + 1 + 1; omega, by show w.heap.size + 1 + 4 < w2.heap.size; omega, by show w.heap.size + 1 + 4 < w2.heap.size + 1; omega,
      fun i hi => by have := (H.hh i hi).1; show w.heap.size + 1 + 4 < hd i; omega⟩⟩

end Go.Proofs.Ybulkavbi
