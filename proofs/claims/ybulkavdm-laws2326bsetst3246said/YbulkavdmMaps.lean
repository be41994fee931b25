/-
  A map keyed by strings whose elements are never read as data: block b of the world holds n entries, and at the key s the value 'f s'. A thin layer over the kit's 'World.ownsMap' and 'World.ranges', the elements' reader taken to be 'an element reads as itself'.
-/
import Derived.Maps.RangeWalk
import Derived.WalkKit
namespace Go.Proofs.Ybulkavdm
open Go Go.Maps Go.RowKit

/-- An element reads as itself. -/
def rawElem (v : Value) : Option (DataW Value × List MemPlace) := some (.held v, [])

/-- What the datum of such a map says, key by key. -/
def Says (D : DataW Value) (n : Nat) (f : List UInt8 → Option Value) : Prop :=
  Maps.size D = n ∧ (∀ s, Maps.has D (.string s) = (f s).isSome) ∧ ∀ s v, f s = some v → ∀ zd, D.atKey (.string s) zd = .held v

/-- Block b is a map of n entries that holds 'f s' at the key s. -/
def IsM (P : Program) (k : TypeId) (w : World) (b n : Nat) (f : List UInt8 → Option Value) : Prop :=
  ∃ D : DataW Value, w.ownsMap P k rawElem b n D ∧ Says D n f

/-- One key laid. -/
def upd (f : List UInt8 → Option Value) (s : List UInt8) (v : Value) : List UInt8 → Option Value := fun x => if x = s then some v else f x

section
variable {P : Program} {k : TypeId} {w : World} {b n : Nat} {f : List UInt8 → Option Value}

theorem IsM.congr (h : IsM P k w b n f) {g : List UInt8 → Option Value} {m : Nat} (hn : n = m) (hf : ∀ s, f s = g s) : IsM P k w b m g := by
  have : f = g := funext hf
  subst this; subst hn; exact h

theorem IsM.lt (h : IsM P k w b n f) : b < w.heap.size := by obtain ⟨D, h1, _⟩ := h; exact h1.lt

theorem IsM.made (P : Program) (k : TypeId) (w : World) : IsM P k (w.alloc (.map #[] 0)) w.heap.size 0 (fun _ => none) :=
  ⟨.map [], World.ownsMap_made w P k rawElem, rfl, fun _ => rfl, fun _ _ h => by cases h⟩

theorem IsM.kept {w' : World} {row : Option Nat} (h : IsM P k w b n f) (hg : w.grownBy w' row) (hne : some b ≠ row) : IsM P k w' b n f := by
  obtain ⟨D, h1, h2⟩ := h; exact ⟨D, h1.kept hg hne, h2⟩

theorem IsM.alloc (h : IsM P k w b n f) (o : Obj) : IsM P k (w.alloc o) b n f := h.kept (World.grownBy_alloc w o none) (by simp)

/-- Only the block matters. -/
theorem IsM.block {w' : World} (h : IsM P k w b n f) (hb : w'.heap[b]? = w.heap[b]?) : IsM P k w' b n f := by
  obtain ⟨D, ⟨es, clock, h1, h2⟩, h3⟩ := h; exact ⟨D, ⟨es, clock, hb.trans h1, h2⟩, h3⟩

theorem IsM.store {t e : TypeId} (h : IsM P k w b n f) (hk : P.underlying k = some .string) (ht : P.underlying t = some (.map k e)) (hn : n < maxLen) {s : ByteArray} (hs : s.size ≤ maxLen) (v : Value) :
    ∃ w', (Instr.mapUpdate t (.map (some b)) (.string s) v).run P w = .ok () w' ∧ IsM P k w' b (if (f s.data.toList).isSome then n else n + 1) (upd f s.data.toList v) ∧ w.mapTurned w' b := by
  obtain ⟨D, h1, hz, hh, ha⟩ := h
  have K := string_keyed hk
  have hkey := WideMaps.keyOf_string_mk hk hs
  obtain ⟨w', hrun, r1, r2⟩ := h1.store K ht hn hkey (R := rawElem) (val := v) (d := .held v) (ps := []) rfl
  have hT := h1.tidy K
  refine ⟨w', hrun, ⟨D.put (.string s.data.toList) (.held v), ?_, ?_, ?_, ?_⟩, r2⟩
  · have hle : Maps.size (D.put (.string s.data.toList) (.held v)) = if (f s.data.toList).isSome then n else n + 1 := by rw [size_put hT, hh, hz]
    obtain ⟨es, clock, e1, e2, e3, e4⟩ := r1
    refine ⟨es, clock, e1, e2, ?_, e4⟩
    have : Maps.size (D.put (.string s.data.toList) (.held v)) = es.size := by rw [e4]; simp [Maps.size, length_sorted]
    rw [← hle, this]; exact Nat.le_refl _
  · rw [size_put hT, hh, hz]
  · intro x
    by_cases hx : x = s.data.toList
    · subst hx; rw [has_put_same hT.isMap (K.key hkey)]; simp [upd]
    · rw [has_put_other (by simpa using hx), hh]; simp [upd, hx]
  · intro x u hu zd
    by_cases hx : x = s.data.toList
    · subst hx; rw [atKey_put_same hT.isMap (K.key hkey)]; simp [upd] at hu; rw [hu]
    · rw [atKey_put_other (by simpa using hx)]; simp [upd, hx] at hu; exact ha x u hu zd

theorem IsM.look {t e : TypeId} (h : IsM P k w b n f) (hk : P.underlying k = some .string) (ht : P.underlying t = some (.map k e)) {z : Value} (hz : (zeroValue e).run P w = .ok z w) {s : ByteArray} (hs : s.size ≤ maxLen) :
    (Instr.lookup t (.map (some b)) (.string s) false).run P w = .ok ((f s.data.toList).getD z) w := by
  obtain ⟨D, ⟨es, clock, hb, F, _, rfl⟩, _, hh, ha⟩ := h
  have K := string_keyed hk
  have hkey := WideMaps.keyOf_string_mk hk hs
  rcases Maps.fit_look false K ht hz hb F hkey with ⟨hrun, _, hat⟩ | ⟨e0, y, _, _, hrun, hRv, hat, _⟩
  · have h0 := Maps.has_false_of_atKey hat
    rw [hh] at h0
    cases hf : f s.data.toList with
    | none => simpa using hrun
    | some v => rw [hf] at h0; cases h0
  · have h0 := Maps.has_true_of_atKey hat
    rw [hh] at h0
    cases hf : f s.data.toList with
    | none => rw [hf] at h0; cases h0
    | some v =>
      have h1 := ha _ v hf (.held z)
      rw [hat] at h1
      cases hRv
      simp at h1
      simpa [h1] using hrun

theorem IsM.look_ok {t e : TypeId} (h : IsM P k w b n f) (hk : P.underlying k = some .string) (ht : P.underlying t = some (.map k e)) {z : Value} (hz : (zeroValue e).run P w = .ok z w) {s : ByteArray} (hs : s.size ≤ maxLen) :
    (Instr.lookup t (.map (some b)) (.string s) true).run P w = .ok (.tuple #[(f s.data.toList).getD z, .bool (f s.data.toList).isSome]) w := by
  obtain ⟨D, ⟨es, clock, hb, F, _, rfl⟩, _, hh, ha⟩ := h
  have K := string_keyed hk
  have hkey := WideMaps.keyOf_string_mk hk hs
  rcases Maps.fit_look true K ht hz hb F hkey with ⟨hrun, _, hat⟩ | ⟨e0, y, _, _, hrun, hRv, hat, _⟩
  · have h0 := Maps.has_false_of_atKey hat
    rw [hh] at h0
    cases hf : f s.data.toList with
    | none => simpa using hrun
    | some v => rw [hf] at h0; cases h0
  · have h0 := Maps.has_true_of_atKey hat
    rw [hh] at h0
    cases hf : f s.data.toList with
    | none => rw [hf] at h0; cases h0
    | some v =>
      have h1 := ha _ v hf (.held z)
      rw [hat] at h1
      cases hRv
      simp at h1
      simpa [h1] using hrun

theorem IsM.len {t e : TypeId} (h : IsM P k w b n f) (ht : P.underlying t = some (.map k e)) (ty : TypeId) : (Builtin.len_ #[t] ty #[.map (some b)]).run P w = .ok (.int .i64 n) w := by
  obtain ⟨D, h1, hz, _⟩ := h
  rw [h1.len ht ty, hz]

end

/-! ### what has turned: the blocks of a set, and new ones -/
structure Fr (S : Nat → Prop) (w w' : World) : Prop where
  os : w'.os = w.os
  tape : w'.tape = w.tape
  output : w'.output = w.output
  size : w.heap.size ≤ w'.heap.size
  block : ∀ i, i < w.heap.size → ¬ S i → w'.heap[i]? = w.heap[i]?

section
variable {S : Nat → Prop} {a b' c : World}
theorem Fr.refl (S : Nat → Prop) (w : World) : Fr S w w := ⟨rfl, rfl, rfl, Nat.le_refl _, fun _ _ _ => rfl⟩
theorem Fr.trans (h : Fr S a b') (k : Fr S b' c) : Fr S a c :=
  ⟨k.os.trans h.os, k.tape.trans h.tape, k.output.trans h.output, Nat.le_trans h.size k.size, fun i hi hS => (k.block i (Nat.lt_of_lt_of_le hi h.size) hS).trans (h.block i hi hS)⟩
/-- The second step may turn blocks that are new since the first. -/
theorem Fr.andThen {T : Nat → Prop} (h : Fr S a b') (k : Fr T b' c) (hT : ∀ i, T i → S i ∨ a.heap.size ≤ i) : Fr S a c :=
  ⟨k.os.trans h.os, k.tape.trans h.tape, k.output.trans h.output, Nat.le_trans h.size k.size, fun i hi hS =>
    (k.block i (Nat.lt_of_lt_of_le hi h.size) (fun e => by rcases hT i e with h1 | h1; exact hS h1; omega)).trans (h.block i hi hS)⟩
theorem Fr.mono {T : Nat → Prop} (h : Fr S a c) (hT : ∀ i, S i → T i) : Fr T a c := ⟨h.os, h.tape, h.output, h.size, fun i hi hn => h.block i hi (fun e => hn (hT i e))⟩
theorem Fr.grown {row : Option Nat} (h : a.grownBy c row) : Fr (fun i => some i = row) a c := ⟨h.os, h.tape, h.output, h.size, fun i hi hn => h.block i hi hn⟩
theorem Fr.turned {b : Nat} (h : a.mapTurned c b) : Fr (fun i => i = b) a c := (Fr.grown h.grown).mono (fun i e => by cases e; rfl)
theorem Fr.setCell (w : World) (p : Addr) (u : Value) : Fr (fun i => i = p.block) w (w.setCell p u) := ⟨rfl, rfl, rfl, by simp [World.setCell], fun i _ hn => Below.heap_setCell _ _ _ _ hn⟩
theorem Fr.alloc (w : World) (o : Obj) : Fr (fun _ => False) w (w.alloc o) := ⟨rfl, rfl, rfl, by simp, fun i hi _ => Below.heap_alloc _ _ _ hi⟩
theorem Fr.drew (w : World) : Fr (fun _ => False) w w.drew := ⟨rfl, rfl, rfl, Nat.le_refl _, fun _ _ _ => rfl⟩
theorem Fr.below {B : Nat} (h : Fr S a c) (hB : B ≤ a.heap.size) (hS : ∀ i, S i → B ≤ i) : Below B a c := ⟨h.os, h.tape, h.output, h.size, fun i hi => h.block i (by omega) (fun e => by have := hS i e; omega)⟩
theorem Fr.grownNone (h : Fr (fun _ => False) a c) : a.grownBy c none := ⟨h.os, h.tape, h.output, h.size, fun i hi _ => h.block i hi (fun e => e)⟩
theorem Fr.cell (h : Fr S a c) {p : Addr} (hp : p.block < a.heap.size) (hn : ¬ S p.block) : c.cell? p = a.cell? p := World.cell?_of_block (w := a) (h.block p.block hp hn)
theorem Fr.frozen (h : Fr S a c) {p : Addr} (hp : p.block < a.heap.size) (hn : ¬ S p.block) : c.frozen? p = a.frozen? p := World.frozen?_of_block (w := a) (h.block p.block hp hn)
theorem IsM.fr {P : Program} {k : TypeId} {b n : Nat} {f : List UInt8 → Option Value} (hm : IsM P k a b n f) (h : Fr S a c) (hn : ¬ S b) : IsM P k c b n f := hm.block (h.block b hm.lt hn)
end

end Go.Proofs.Ybulkavdm
