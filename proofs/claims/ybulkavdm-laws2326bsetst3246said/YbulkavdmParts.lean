/-
  The timers' map as the law lays it; the mobile's literal.
-/
import Derived.Test.YbulkavdmRows
import Derived.Test.YbulkavdmMaps
import Derived.Laws.EntriesVeiled
namespace Go.Proofs.Ybulkavdm
open Go Go.Maps Go.RowKit

theorem u34 : Yba.prog.underlying 34 = some .string := Yba.underlying34
theorem z22 (w : World) : (zeroValue 22).run Yba.prog w = .ok (.int .i64 0) w := by kernel_rfl

/-- The two keys. -/
def kA : ByteArray := ⟨#[84, 51, 50, 49, 48]⟩
def kB : ByteArray := ⟨#[84, 51, 50, 52, 54]⟩
theorem sA : kA.size ≤ maxLen := by show (5 : Nat) ≤ maxLen; decide
theorem sB : kB.size ≤ maxLen := by show (5 : Nat) ≤ maxLen; decide
theorem kAB : kA ≠ kB := fun h => by have := congrArg (fun x => x.data) h; revert this; decide
theorem dAB : kA.data.toList ≠ kB.data.toList := by decide

theorem setBlock_alloc (W : World) (o o' : Obj) : ChangeMaps.setBlock (W.alloc o) W.heap.size o' = W.alloc o' := by
  have h : ((W.heap.push o).setIfInBounds W.heap.size o') = W.heap.push o' := by
    apply Array.ext_getElem?
    intro i
    simp only [Array.getElem?_setIfInBounds, Array.getElem?_push, Array.size_push]
    split <;> split <;> simp_all
  show ({ (W.alloc o) with heap := (W.heap.push o).setIfInBounds W.heap.size o' } : World) = _
  rw [h]; rfl

theorem run_ins36 (W : World) (n : Nat) (v : Value) (hn : n = W.heap.size) : (Instr.mapUpdate 36 (.map (some n)) (.string ⟨#[84, 51, 50, 49, 48]⟩) v).run Yba.prog (W.alloc (.map #[] 0)) = .ok () (W.alloc (.map #[⟨.string ⟨#[84, 51, 50, 49, 48]⟩, v, 0⟩] 1)) := by
  subst hn
  have hb : (W.alloc (.map #[] 0)).heap[W.heap.size]? = some (.map #[] 0) := (MapKept.heap_alloc W _).1
  have hkey := WideMaps.keyOf_string_mk u34 sA
  have K := string_keyed u34
  show (Instr.mapUpdate 36 (.map (some W.heap.size)) (.string kA) v).run Yba.prog (W.alloc (.map #[] 0)) = .ok () (W.alloc (.map #[⟨.string kA, v, 0⟩] 1))
  rcases K.find (W.alloc (.map #[] 0)) hkey [] (by simp) with ⟨h1, _⟩ | ⟨j, e0, _, h2, _⟩
  · rw [← setBlock_alloc W (.map #[] 0) (.map #[⟨.string kA, v, 0⟩] 1)]
    simp [Instr.mapUpdate, run_underlying Yba.underlying36, MapKept.run_getObj_map hb, K.check _ false hkey, h1, MapKept.run_setObj_map _ hb, Result.andThen, ChangeMaps.setBlock]
  · simp at h2

theorem run_ins36b (W : World) (n : Nat) (v v' : Value) (hn : n = W.heap.size) :
    (Instr.mapUpdate 36 (.map (some n)) (.string ⟨#[84, 51, 50, 52, 54]⟩) v').run Yba.prog (W.alloc (.map #[⟨.string ⟨#[84, 51, 50, 49, 48]⟩, v, 0⟩] 1)) = .ok () (W.alloc (.map #[⟨.string ⟨#[84, 51, 50, 49, 48]⟩, v, 0⟩, ⟨.string ⟨#[84, 51, 50, 52, 54]⟩, v', 1⟩] 2)) := by
  subst hn
  show (Instr.mapUpdate 36 (.map (some W.heap.size)) (.string kB) v').run Yba.prog (W.alloc (.map #[⟨.string kA, v, 0⟩] 1)) = .ok () (W.alloc (.map #[⟨.string kA, v, 0⟩, ⟨.string kB, v', 1⟩] 2))
  have hb : (W.alloc (.map #[⟨.string kA, v, 0⟩] 1)).heap[W.heap.size]? = some (.map #[⟨.string kA, v, 0⟩] 1) := (MapKept.heap_alloc W _).1
  have hkey := WideMaps.keyOf_string_mk u34 sA
  have hkey' := WideMaps.keyOf_string_mk u34 sB
  have K := string_keyed u34
  rcases K.find (W.alloc (.map #[⟨.string kA, v, 0⟩] 1)) hkey' [⟨.string kA, v, 0⟩] (by intro e he; simp at he; subst he; exact ⟨_, hkey⟩) with ⟨h1, _⟩ | ⟨j, e0, _, h2, h3⟩
  · rw [← setBlock_alloc W (.map #[⟨.string kA, v, 0⟩] 1) (.map #[⟨.string kA, v, 0⟩, ⟨.string kB, v', 1⟩] 2)]
    simp [Instr.mapUpdate, run_underlying Yba.underlying36, MapKept.run_getObj_map hb, K.check _ false hkey', h1, MapKept.run_setObj_map _ hb, Result.andThen, ChangeMaps.setBlock]
  · cases j with
    | zero => simp at h2; subst h2; simp at h3; exact absurd h3 kAB
    | succ j => simp at h2

/-- The map's two entries. -/
def two (x y : Value) : List UInt8 → Option Value := upd (upd (fun _ => none) kA.data.toList x) kB.data.toList y
theorem two_A (x y : Value) : two x y kA.data.toList = some x := by unfold two upd; rw [if_neg dAB, if_pos rfl]
theorem two_B (x y : Value) : two x y kB.data.toList = some y := by unfold two upd; rw [if_pos rfl]
theorem two_upd (x y y' : Value) (s : List UInt8) : upd (two x y) kB.data.toList y' s = two x y' s := by
  unfold two upd
  by_cases h : s = kB.data.toList
  · rw [if_pos h, if_pos h]
  · rw [if_neg h, if_neg h, if_neg h]

theorem isM_two (W : World) (v v' : Value) :
    IsM Yba.prog 34 (W.alloc (.map #[⟨.string ⟨#[84, 51, 50, 49, 48]⟩, v, 0⟩, ⟨.string ⟨#[84, 51, 50, 52, 54]⟩, v', 1⟩] 2)) W.heap.size 2 (two v v') := by
  obtain ⟨w', hr, h1, _⟩ := (IsM.made Yba.prog 34 W).store (t := 36) u34 Yba.underlying36 (by decide) sA v
  rw [show kA = (⟨#[84, 51, 50, 49, 48]⟩ : ByteArray) from rfl, run_ins36 W _ v rfl] at hr
  cases hr
  obtain ⟨w', hr, h2, _⟩ := h1.store (t := 36) u34 Yba.underlying36 (by decide) sB v'
  rw [show kB = (⟨#[84, 51, 50, 52, 54]⟩ : ByteArray) from rfl, run_ins36b W _ v v' rfl] at hr
  cases hr
  have hd : kB.data.toList ≠ kA.data.toList := fun e => dAB e.symm
  exact h2.congr (by simp [upd, hd]) (fun _ => rfl)

theorem wp_build_to {P : Program} {o : Oper} {a : Act} {w : World} {K : Act → World → Prop} {Q : Exit → Act → World → Prop} (t : TypeId) (parts : Array (Nat × Operand)) (ho : o.op = .build t parts)
    (vs : Array (Nat × Value)) (hv : (parts.map fun (i, x) => (i, a.eval x)) = vs) (c : Array Value) (hb : P.built t vs.toList = some c)
    (h : K (a.put o.dst (.agg c)) w) : o.wp P a w K Q := by
  subst hv
  refine wp_build t parts ho (by rw [hb]; rfl) ?_
  rw [hb]
  exact h

theorem build73 (f s : ByteArray) (fn : Fn) (a1 a2 : Array Value) (at' : Int) (c : Option Addr) (m : Option Nat) :
    ∃ d : Array Value, Yba.prog.built 73 [(0, .string f), (2, .func fn a1 a2), (5, .string s), (8, .int .i64 at'), (16, .pointer c), (7, .map m)] = some d ∧
      d[0]? = some (.string f) ∧ d[5]? = some (.func fn a1 a2) ∧ d[18]? = some (.string s) ∧ d[20]? = some (.map m) ∧ d[21]? = some (.int .i64 at') ∧ d[46]? = some (.pointer c) := by
  have h : (Yba.prog.built 73 [(0, .string f), (2, .func fn a1 a2), (5, .string s), (8, .int .i64 at'), (16, .pointer c), (7, .map m)]).map (fun d => (d[0]?, d[5]?, d[18]?, d[20]?, d[21]?, d[46]?)) =
      some (some (.string f), some (.func fn a1 a2), some (.string s), some (.map m), some (.int .i64 at'), some (.pointer c)) := by kernel_rfl
  obtain ⟨d, hc, he⟩ := Option.map_eq_some_iff.1 h
  simp only [Prod.mk.injEq] at he
  exact ⟨d, hc, he.1, he.2.1, he.2.2.1, he.2.2.2.1, he.2.2.2.2.1, he.2.2.2.2.2⟩

end Go.Proofs.Ybulkavdm
