/-
  A map keyed by strings whose elements are never read as data: block b of the world holds n entries, and at the key s the value 'f s'. A thin layer over the kit's 'World.ownsMap' and 'World.ranges', the elements' reader taken to be 'an element reads as itself'.
-/
import Derived.Maps.RangeWalk
import Derived.WalkKit
namespace Go.Proofs.Ybulkauyc
open Go Go.Maps Go.RowKit

/-- An element reads as itself. -/
def rawElem (v : Value) : Option (DataW Value × List MemPlace) := some (.held v, [])

/-- What the datum of such a map says, key by key. -/
def Says (D : DataW Value) (n : Nat) (f : List UInt8 → Option Value) : Prop :=
  Maps.size D = n ∧ (∀ s, Maps.has D (.string s) = (f s).isSome) ∧ ∀ s v, f s = some v → ∀ zd, D.atKey (.string s) zd = .held v

/-- Block b is a map of n entries that holds 'f s' at the key s. -/
def IsM (P : Program) (k : TypeId) (w : World) (b n : Nat) (f : List UInt8 → Option Value) : Prop :=
  ∃ D : DataW Value, w.ownsMap P k rawElem b n D ∧ Says D n f

/-- One key laid. -/
def upd (f : List UInt8 → Option Value) (s : List UInt8) (v : Value) : List UInt8 → Option Value := fun x => if x = s then some v else f x
/-- One key struck. -/
def del (f : List UInt8 → Option Value) (s : List UInt8) : List UInt8 → Option Value := fun x => if x = s then none else f x

section
variable {P : Program} {k : TypeId} {w : World} {b n : Nat} {f : List UInt8 → Option Value}

theorem IsM.congr (h : IsM P k w b n f) {g : List UInt8 → Option Value} {m : Nat} (hn : n = m) (hf : ∀ s, f s = g s) : IsM P k w b m g := by
  have : f = g := funext hf
  subst this; subst hn; exact h

theorem IsM.lt (h : IsM P k w b n f) : b < w.heap.size := by obtain ⟨D, h1, _⟩ := h; exact h1.lt

theorem IsM.made (P : Program) (k : TypeId) (w : World) : IsM P k (w.alloc (.map #[] 0)) w.heap.size 0 (fun _ => none) :=
  ⟨.map [], World.ownsMap_made w P k rawElem, rfl, fun _ => rfl, fun _ _ h => by cases h⟩

theorem IsM.kept {w' : World} {row : Option Nat} (h : IsM P k w b n f) (hg : w.grownBy w' row) (hne : some b ≠ row) : IsM P k w' b n f := by
  obtain ⟨D, h1, h2⟩ := h; exact ⟨D, h1.kept hg hne, h2⟩

theorem IsM.alloc (h : IsM P k w b n f) (o : Obj) : IsM P k (w.alloc o) b n f := h.kept (World.grownBy_alloc w o none) (by simp)

/-- Only the block matters. -/
theorem IsM.block {w' : World} (h : IsM P k w b n f) (hb : w'.heap[b]? = w.heap[b]?) : IsM P k w' b n f := by
  obtain ⟨D, ⟨es, clock, h1, h2⟩, h3⟩ := h; exact ⟨D, ⟨es, clock, hb.trans h1, h2⟩, h3⟩

theorem IsM.store {t e : TypeId} (h : IsM P k w b n f) (hk : P.underlying k = some .string) (ht : P.underlying t = some (.map k e)) (hn : n < maxLen) {s : ByteArray} (hs : s.size ≤ maxLen) (v : Value) :
    ∃ w', (Instr.mapUpdate t (.map (some b)) (.string s) v).run P w = .ok () w' ∧ IsM P k w' b (if (f s.data.toList).isSome then n else n + 1) (upd f s.data.toList v) ∧ w.mapTurned w' b := by
  obtain ⟨D, h1, hz, hh, ha⟩ := h
  have K := string_keyed hk
  have hkey := WideMaps.keyOf_string_mk hk hs
  obtain ⟨w', hrun, r1, r2⟩ := h1.store K ht hn hkey (R := rawElem) (val := v) (d := .held v) (ps := []) rfl
  have hT := h1.tidy K
  refine ⟨w', hrun, ⟨D.put (.string s.data.toList) (.held v), ?_, ?_, ?_, ?_⟩, r2⟩
  · have hle : Maps.size (D.put (.string s.data.toList) (.held v)) = if (f s.data.toList).isSome then n else n + 1 := by rw [size_put hT, hh, hz]
    obtain ⟨es, clock, e1, e2, e3, e4⟩ := r1
    refine ⟨es, clock, e1, e2, ?_, e4⟩
    have : Maps.size (D.put (.string s.data.toList) (.held v)) = es.size := by rw [e4]; simp [Maps.size, length_sorted]
    rw [← hle, this]; exact Nat.le_refl _
  · rw [size_put hT, hh, hz]
  · intro x
    by_cases hx : x = s.data.toList
    · subst hx; rw [has_put_same hT.isMap (K.key hkey)]; simp [upd]
    · rw [has_put_other (by simpa using hx), hh]; simp [upd, hx]
  · intro x u hu zd
    by_cases hx : x = s.data.toList
    · subst hx; rw [atKey_put_same hT.isMap (K.key hkey)]; simp [upd] at hu; rw [hu]
    · rw [atKey_put_other (by simpa using hx)]; simp [upd, hx] at hu; exact ha x u hu zd

theorem IsM.look {t e : TypeId} (h : IsM P k w b n f) (hk : P.underlying k = some .string) (ht : P.underlying t = some (.map k e)) {z : Value} (hz : (zeroValue e).run P w = .ok z w) {s : ByteArray} (hs : s.size ≤ maxLen) :
    (Instr.lookup t (.map (some b)) (.string s) false).run P w = .ok ((f s.data.toList).getD z) w := by
  obtain ⟨D, ⟨es, clock, hb, F, _, rfl⟩, _, hh, ha⟩ := h
  have K := string_keyed hk
  have hkey := WideMaps.keyOf_string_mk hk hs
  rcases Maps.fit_look false K ht hz hb F hkey with ⟨hrun, _, hat⟩ | ⟨e0, y, _, _, hrun, hRv, hat, _⟩
  · have h0 := Maps.has_false_of_atKey hat
    rw [hh] at h0
    cases hf : f s.data.toList with
    | none => simpa using hrun
    | some v => rw [hf] at h0; cases h0
  · have h0 := Maps.has_true_of_atKey hat
    rw [hh] at h0
    cases hf : f s.data.toList with
    | none => rw [hf] at h0; cases h0
    | some v =>
      have h1 := ha _ v hf (.held z)
      rw [hat] at h1
      cases hRv
      simp at h1
      simpa [h1] using hrun

theorem IsM.look_ok {t e : TypeId} (h : IsM P k w b n f) (hk : P.underlying k = some .string) (ht : P.underlying t = some (.map k e)) {z : Value} (hz : (zeroValue e).run P w = .ok z w) {s : ByteArray} (hs : s.size ≤ maxLen) :
    (Instr.lookup t (.map (some b)) (.string s) true).run P w = .ok (.tuple #[(f s.data.toList).getD z, .bool (f s.data.toList).isSome]) w := by
  obtain ⟨D, ⟨es, clock, hb, F, _, rfl⟩, _, hh, ha⟩ := h
  have K := string_keyed hk
  have hkey := WideMaps.keyOf_string_mk hk hs
  rcases Maps.fit_look true K ht hz hb F hkey with ⟨hrun, _, hat⟩ | ⟨e0, y, _, _, hrun, hRv, hat, _⟩
  · have h0 := Maps.has_false_of_atKey hat
    rw [hh] at h0
    cases hf : f s.data.toList with
    | none => simpa using hrun
    | some v => rw [hf] at h0; cases h0
  · have h0 := Maps.has_true_of_atKey hat
    rw [hh] at h0
    cases hf : f s.data.toList with
    | none => rw [hf] at h0; cases h0
    | some v =>
      have h1 := ha _ v hf (.held z)
      rw [hat] at h1
      cases hRv
      simp at h1
      simpa [h1] using hrun

theorem IsM.len {t e : TypeId} (h : IsM P k w b n f) (ht : P.underlying t = some (.map k e)) (ty : TypeId) : (Builtin.len_ #[t] ty #[.map (some b)]).run P w = .ok (.int .i64 n) w := by
  obtain ⟨D, h1, hz, _⟩ := h
  rw [h1.len ht ty, hz]

theorem IsM.drop {t e : TypeId} (h : IsM P k w b n f) (hk : P.underlying k = some .string) (ht : P.underlying t = some (.map k e)) {s : ByteArray} (hs : s.size ≤ maxLen) (ty : TypeId) :
    ∃ w', (Builtin.delete_ #[t, k] ty #[.map (some b), .string s]).run P w = .ok (.tuple #[]) w' ∧ IsM P k w' b (if (f s.data.toList).isSome then n - 1 else n) (del f s.data.toList) ∧ w.mapTurned w' b := by
  obtain ⟨D, h1, hz, hh, ha⟩ := h
  have K := string_keyed hk
  have hkey := WideMaps.keyOf_string_mk hk hs
  obtain ⟨w', hrun, r1, r2⟩ := h1.drop K ht hkey ty
  have hT := h1.tidy K
  have hsz : Maps.size (D.del (.string s.data.toList)) = if (f s.data.toList).isSome then n - 1 else n := by
    have := size_del (k := .string s.data.toList) hT
    rw [hh, hz] at this
    split at this <;> simp_all <;> omega
  refine ⟨w', hrun, ⟨D.del (.string s.data.toList), ?_, hsz, ?_, ?_⟩, r2⟩
  · obtain ⟨es, clock, e1, e2, e3, e4⟩ := r1
    refine ⟨es, clock, e1, e2, ?_, e4⟩
    have : Maps.size (D.del (.string s.data.toList)) = es.size := by rw [e4]; simp [Maps.size, length_sorted]
    rw [← hsz, this]; exact Nat.le_refl _
  · intro x
    by_cases hx : x = s.data.toList
    · subst hx; rw [has_del_same]; simp [del]
    · rw [has_del_other (by simpa using hx), hh]; simp [del, hx]
  · intro x u hu zd
    by_cases hx : x = s.data.toList
    · subst hx; simp [del] at hu
    · rw [atKey_del_other (by simpa using hx)]; simp [del, hx] at hu; exact ha x u hu zd

/-- 'for k, v := range m' under way: r the iterator's block; 'left s': the entry at s is still to come; cnt of them are. -/
def IsR (P : Program) (k : TypeId) (w : World) (b r n : Nat) (f : List UInt8 → Option Value) (left : List UInt8 → Bool) (cnt : Nat) : Prop :=
  ∃ (D : DataW Value) (lf : Lit → Bool), w.ranges P k rawElem b r n D lf cnt ∧ Says D n f ∧ ∀ s, lf (.string s) = left s

theorem IsR.isM {r cnt : Nat} {left : List UInt8 → Bool} (h : IsR P k w b r n f left cnt) : IsM P k w b n f := by
  obtain ⟨D, lf, h1, h2, _⟩ := h; exact ⟨D, h1.owns, h2⟩

theorem IsR.left_eq {r cnt : Nat} {left : List UInt8 → Bool} (h : IsR P k w b r n f left cnt) : w.rangeLeft b r = cnt := by
  obtain ⟨D, lf, h1, _⟩ := h; exact h1.left_eq

theorem IsR.lt {r cnt : Nat} {left : List UInt8 → Bool} (h : IsR P k w b r n f left cnt) : r < w.heap.size := by
  obtain ⟨D, lf, h1, _⟩ := h; exact h1.lt

theorem IsR.kept {w' : World} {row : Option Nat} {r cnt : Nat} {left : List UInt8 → Bool} (h : IsR P k w b r n f left cnt) (hg : w.grownBy w' row) (hb' : some b ≠ row) (hr' : some r ≠ row) : IsR P k w' b r n f left cnt := by
  obtain ⟨D, lf, h1, h2⟩ := h; exact ⟨D, lf, h1.kept hg hb' hr', h2⟩

theorem IsM.range {t e : TypeId} (h : IsM P k w b n f) (hk : P.underlying k = some .string) (ht : P.underlying t = some (.map k e)) :
    ∃ w', (Instr.range t (.map (some b))).run P w = .ok (.pointer (some ⟨w.heap.size, 0, none⟩)) w' ∧ IsR P k w' b w.heap.size n f (fun s => (f s).isSome) n ∧ w.grownBy w' none ∧ w'.heap.size = w.heap.size + 1 := by
  obtain ⟨D, h1, hz, hh, ha⟩ := h
  obtain ⟨w', hrun, r1, r2, r3⟩ := h1.range (string_keyed hk) ht
  exact ⟨w', hrun, ⟨D, _, by rw [hz] at r1; exact r1, ⟨hz, hh, ha⟩, hh⟩, r2, r3⟩

/-- What reads as a key of a string's type is a string. -/
theorem keyOf_string_inv (hk : P.underlying k = some .string) {key : Value} {kl : Lit} (h : keyOf P k key = some kl) : ∃ s : ByteArray, key = .string s ∧ kl = .string s.data.toList ∧ s.size ≤ maxLen := by
  cases key <;> simp [keyOf, hk, mapKey] at h
  obtain ⟨hw, rfl⟩ := h
  exact ⟨_, rfl, rfl, hw⟩

theorem IsR.next {r cnt : Nat} {left : List UInt8 → Bool} (h : IsR P k w b r n f left cnt) (hk : P.underlying k = some .string) (ty : TypeId) :
    (cnt = 0 ∧ (∀ s, left s = false) ∧ (Instr.next (.pointer (some ⟨r, 0, none⟩)) false ty).run P w = .ok (.tuple #[.bool false]) w) ∨
    ∃ (s : ByteArray) (v : Value) (w' : World) (cnt' : Nat), s.size ≤ maxLen ∧ left s.data.toList = true ∧ f s.data.toList = some v ∧ (Instr.next (.pointer (some ⟨r, 0, none⟩)) false ty).run P w = .ok (.tuple #[.bool true, .string s, v]) w' ∧
      IsR P k w' b r n f (fun x => left x && !decide (x = s.data.toList)) cnt' ∧ cnt' < cnt ∧ w.grownBy w' (some r) ∧ w'.heap.size = w.heap.size ∧ (Instr.entry (.pointer (some ⟨r, 0, none⟩))).run P w' = .ok (.tuple #[.string s, v]) w' := by
  obtain ⟨D, lf, h1, h2, h3⟩ := h
  obtain ⟨hz, hh, ha⟩ := h2
  rcases h1.next (string_keyed hk) ty with ⟨c0, hl, hrun⟩ | ⟨key, v, kl, y, w', cnt', hkey, hlk, hv, hat, hrun, hrg, hlt, hgr, hsz, hen⟩
  · exact Or.inl ⟨c0, fun s => by rw [← h3]; exact hl _, hrun⟩
  · obtain ⟨s, rfl, rfl, hs⟩ := keyOf_string_inv hk hkey
    cases hv
    refine Or.inr ⟨s, v, w', cnt', hs, by rw [← h3]; exact hlk, ?_, hrun, ⟨D, _, hrg, ⟨hz, hh, ha⟩, fun x => ?_⟩, hlt, hgr, hsz, hen⟩
    · have h0 := Maps.has_true_of_atKey hat
      rw [hh] at h0
      cases hf : f s.data.toList with
      | none => rw [hf] at h0; cases h0
      | some u =>
        have h4 := ha _ u hf (.held v)
        rw [hat] at h4
        simp at h4
        rw [h4]
    · rw [h3]
      have : (Lit.string x).sameKey (.string s.data.toList) = decide (x = s.data.toList) := by
        by_cases hx : x = s.data.toList
        · subst hx
          rw [WideAt.sameKey_self ((string_keyed hk).key hkey)]
          simp
        · rw [Maps.sameKey_ne (by simpa using hx)]; simp [hx]
      rw [this]

end

/-! ### at the operation, for the walk -/
section
variable {P : Program} (w : World) {ops : Array Oper} {rest : List Oper} {o : Oper} {a : Act} {Q : Exit → Act → World → Prop}

theorem wpList_look (hg : o.guard = none) (m x : Operand) (t : TypeId) (hop : o.op = Op.lookup t m x false) (k e : TypeId) (hk : P.underlying k = some .string) (ht : P.underlying t = some (.map k e)) (z : Value) (hz : (zeroValue e).run P w = .ok z w)
    (b n : Nat) (f : List UInt8 → Option Value) (hm : a.eval m = .map (some b)) (h : IsM P k w b n f) (s : ByteArray) (hx : a.eval x = .string s) (hs : s.size ≤ maxLen) (r : Value) (hr : (f s.data.toList).getD z = r)
    (hK : wpList P ops Q rest (a.put o.dst r) w) : wpList P ops Q (o :: rest) a w := by
  refine wpList_plain hg fun K' hK' => ?_
  have hrun := h.look hk ht hz hs
  rw [hr] at hrun
  unfold Oper.wp
  simp [execOp, hop, hm, hx, hrun, Result.andThen]
  exact hK' _ _ hK

theorem wpList_look_ok (hg : o.guard = none) (m x : Operand) (t : TypeId) (hop : o.op = Op.lookup t m x true) (k e : TypeId) (hk : P.underlying k = some .string) (ht : P.underlying t = some (.map k e)) (z : Value) (hz : (zeroValue e).run P w = .ok z w)
    (b n : Nat) (f : List UInt8 → Option Value) (hm : a.eval m = .map (some b)) (h : IsM P k w b n f) (s : ByteArray) (hx : a.eval x = .string s) (hs : s.size ≤ maxLen) (r : Value) (hr : (f s.data.toList).getD z = r) (q : Bool) (hq : (f s.data.toList).isSome = q)
    (hK : wpList P ops Q rest (a.put o.dst (.tuple #[r, .bool q])) w) : wpList P ops Q (o :: rest) a w := by
  refine wpList_plain hg fun K' hK' => ?_
  have hrun := h.look_ok hk ht hz hs
  rw [hr, hq] at hrun
  unfold Oper.wp
  simp [execOp, hop, hm, hx, hrun, Result.andThen]
  exact hK' _ _ hK

theorem wpList_storeM (hg : o.guard = none) (m x v : Operand) (t : TypeId) (hop : o.op = Op.mapUpdate t m x v) (k e : TypeId) (hk : P.underlying k = some .string) (ht : P.underlying t = some (.map k e))
    (b n : Nat) (f : List UInt8 → Option Value) (hm : a.eval m = .map (some b)) (h : IsM P k w b n f) (hn : n < maxLen) (s : ByteArray) (val : Value) (hx : a.eval x = .string s) (hv : a.eval v = val) (hs : s.size ≤ maxLen)
    (hK : ∀ w', IsM P k w' b (if (f s.data.toList).isSome then n else n + 1) (upd f s.data.toList val) → w.mapTurned w' b → wpList P ops Q rest (a.put o.dst undef) w') : wpList P ops Q (o :: rest) a w := by
  refine wpList_plain hg fun K' hK' => ?_
  obtain ⟨w', hrun, r1, r2⟩ := h.store hk ht hn hs val
  unfold Oper.wp
  simp [execOp, hop, hm, hx, hv, hrun, Result.andThen]
  exact hK' _ _ (hK w' r1 r2)

theorem wpList_dropM (hg : o.guard = none) (m x : Operand) (t k : TypeId) (hop : o.op = Op.call { callee := Callee.builtin Builtin.delete, args := #[m, x], argTypes := #[t, k] }) (e : TypeId) (hk : P.underlying k = some .string) (ht : P.underlying t = some (.map k e))
    (b n : Nat) (f : List UInt8 → Option Value) (hm : a.eval m = .map (some b)) (h : IsM P k w b n f) (s : ByteArray) (hx : a.eval x = .string s) (hs : s.size ≤ maxLen)
    (hK : ∀ w', IsM P k w' b (if (f s.data.toList).isSome then n - 1 else n) (del f s.data.toList) → w.mapTurned w' b → wpList P ops Q rest (a.put o.dst (.tuple #[])) w') : wpList P ops Q (o :: rest) a w := by
  refine wpList_plain hg fun K' hK' => ?_
  obtain ⟨w', hrun, r1, r2⟩ := h.drop hk ht hs o.type
  unfold Oper.wp
  simp [execOp, hop, resolve, invoke, builtin, hm, hx, hrun, Result.andThen]
  exact hK' _ _ (hK w' r1 r2)

theorem wpList_lenM (hg : o.guard = none) (m : Operand) (t : TypeId) (hop : o.op = Op.call { callee := Callee.builtin Builtin.len, args := #[m], argTypes := #[t] }) (k e : TypeId) (ht : P.underlying t = some (.map k e))
    (b n : Nat) (f : List UInt8 → Option Value) (hm : a.eval m = .map (some b)) (h : IsM P k w b n f)
    (hK : wpList P ops Q rest (a.put o.dst (.int .i64 n)) w) : wpList P ops Q (o :: rest) a w := by
  refine wpList_plain hg fun K' hK' => ?_
  unfold Oper.wp
  simp [execOp, hop, resolve, invoke, builtin, hm, h.len ht o.type, Result.andThen]
  exact hK' _ _ hK

theorem wpList_rangeM (hg : o.guard = none) (m : Operand) (t : TypeId) (hop : o.op = Op.range t m) (k e : TypeId) (hk : P.underlying k = some .string) (ht : P.underlying t = some (.map k e)) (b n : Nat) (f : List UInt8 → Option Value)
    (hm : a.eval m = .map (some b)) (h : IsM P k w b n f)
    (hK : ∀ w', IsR P k w' b w.heap.size n f (fun s => (f s).isSome) n → w.grownBy w' none → w'.heap.size = w.heap.size + 1 → wpList P ops Q rest (a.put o.dst (.pointer (some ⟨w.heap.size, 0, none⟩))) w') : wpList P ops Q (o :: rest) a w := by
  refine wpList_plain hg fun K' hK' => ?_
  obtain ⟨w', hrun, r1, r2, r3⟩ := h.range hk ht
  unfold Oper.wp
  simp [execOp, hop, hm, hrun, Result.andThen]
  exact hK' _ _ (hK w' r1 r2 r3)

/-- The step: 'mkV' says the elements' shape. -/
theorem wpList_nextM {β : Type} (hg : o.guard = none) (it : Operand) (hop : o.op = Op.next it false) (k : TypeId) (hk : P.underlying k = some .string) (mkV : β → Value) (b r n : Nat) (f : List UInt8 → Option Value) (left : List UInt8 → Bool) (cnt : Nat)
    (invV : ∀ s v, f s = some v → ∃ c, v = mkV c) (hit : a.eval it = .pointer (some ⟨r, 0, none⟩)) (h : IsR P k w b r n f left cnt)
    (hDone : cnt = 0 → (∀ s, left s = false) → wpList P ops Q rest (a.put o.dst (.tuple #[.bool false])) w)
    (hMore : ∀ (s : ByteArray) (c : β) (w' : World) (cnt' : Nat), s.size ≤ maxLen → left s.data.toList = true → f s.data.toList = some (mkV c) → IsR P k w' b r n f (fun x => left x && !decide (x = s.data.toList)) cnt' → cnt' < cnt →
      w.grownBy w' (some r) → w'.heap.size = w.heap.size → (Instr.entry (.pointer (some ⟨r, 0, none⟩))).run P w' = .ok (.tuple #[.string s, mkV c]) w' → wpList P ops Q rest (a.put o.dst (.tuple #[.bool true, .string s, mkV c])) w') :
    wpList P ops Q (o :: rest) a w := by
  refine wpList_plain hg fun K' hK' => ?_
  unfold Oper.wp
  rcases h.next hk o.type with ⟨h0, hl, hrun⟩ | ⟨s, v, w', cnt', hs, hlk, hv, hrun, hrg, hlt, hgr, hsz, hen⟩
  · simp [execOp, hop, hit, hrun, Result.andThen]
    exact hK' _ _ (hDone h0 hl)
  · obtain ⟨c, rfl⟩ := invV _ v hv
    simp [execOp, hop, hit, hrun, Result.andThen]
    exact hK' _ _ (hMore s c w' cnt' hs hlk hv hrg hlt hgr hsz hen)
end

/-! ### what has turned: the blocks of a set, and new ones -/
structure Fr (S : Nat → Prop) (w w' : World) : Prop where
  os : w'.os = w.os
  tape : w'.tape = w.tape
  output : w'.output = w.output
  size : w.heap.size ≤ w'.heap.size
  block : ∀ i, i < w.heap.size → ¬ S i → w'.heap[i]? = w.heap[i]?

section
variable {S : Nat → Prop} {a b' c : World}
theorem Fr.refl (S : Nat → Prop) (w : World) : Fr S w w := ⟨rfl, rfl, rfl, Nat.le_refl _, fun _ _ _ => rfl⟩
theorem Fr.trans (h : Fr S a b') (k : Fr S b' c) : Fr S a c :=
  ⟨k.os.trans h.os, k.tape.trans h.tape, k.output.trans h.output, Nat.le_trans h.size k.size, fun i hi hS => (k.block i (Nat.lt_of_lt_of_le hi h.size) hS).trans (h.block i hi hS)⟩
/-- The second step may turn blocks that are new since the first. -/
theorem Fr.andThen {T : Nat → Prop} (h : Fr S a b') (k : Fr T b' c) (hT : ∀ i, T i → S i ∨ a.heap.size ≤ i) : Fr S a c :=
  ⟨k.os.trans h.os, k.tape.trans h.tape, k.output.trans h.output, Nat.le_trans h.size k.size, fun i hi hS =>
    (k.block i (Nat.lt_of_lt_of_le hi h.size) (fun e => by rcases hT i e with h1 | h1; exact hS h1; omega)).trans (h.block i hi hS)⟩
theorem Fr.mono {T : Nat → Prop} (h : Fr S a c) (hT : ∀ i, S i → T i) : Fr T a c := ⟨h.os, h.tape, h.output, h.size, fun i hi hn => h.block i hi (fun e => hn (hT i e))⟩
theorem Fr.grown {row : Option Nat} (h : a.grownBy c row) : Fr (fun i => some i = row) a c := ⟨h.os, h.tape, h.output, h.size, fun i hi hn => h.block i hi hn⟩
theorem Fr.turned {b : Nat} (h : a.mapTurned c b) : Fr (fun i => i = b) a c := (Fr.grown h.grown).mono (fun i e => by cases e; rfl)
theorem Fr.setCell (w : World) (p : Addr) (u : Value) : Fr (fun i => i = p.block) w (w.setCell p u) := ⟨rfl, rfl, rfl, by simp [World.setCell], fun i _ hn => Below.heap_setCell _ _ _ _ hn⟩
theorem Fr.alloc (w : World) (o : Obj) : Fr (fun _ => False) w (w.alloc o) := ⟨rfl, rfl, rfl, by simp, fun i hi _ => Below.heap_alloc _ _ _ hi⟩
theorem Fr.drew (w : World) : Fr (fun _ => False) w w.drew := ⟨rfl, rfl, rfl, Nat.le_refl _, fun _ _ _ => rfl⟩
theorem Fr.below {B : Nat} (h : Fr S a c) (hB : B ≤ a.heap.size) (hS : ∀ i, S i → B ≤ i) : Below B a c := ⟨h.os, h.tape, h.output, h.size, fun i hi => h.block i (by omega) (fun e => by have := hS i e; omega)⟩
theorem Fr.grownNone (h : Fr (fun _ => False) a c) : a.grownBy c none := ⟨h.os, h.tape, h.output, h.size, fun i hi _ => h.block i hi (fun e => e)⟩
theorem Fr.cell (h : Fr S a c) {p : Addr} (hp : p.block < a.heap.size) (hn : ¬ S p.block) : c.cell? p = a.cell? p := World.cell?_of_block (w := a) (h.block p.block hp hn)
theorem Fr.frozen (h : Fr S a c) {p : Addr} (hp : p.block < a.heap.size) (hn : ¬ S p.block) : c.frozen? p = a.frozen? p := World.frozen?_of_block (w := a) (h.block p.block hp hn)
theorem IsM.fr {P : Program} {k : TypeId} {b n : Nat} {f : List UInt8 → Option Value} (hm : IsM P k a b n f) (h : Fr S a c) (hn : ¬ S b) : IsM P k c b n f := hm.block (h.block b hm.lt hn)
theorem IsR.fr {P : Program} {k : TypeId} {b r n cnt : Nat} {f : List UInt8 → Option Value} {left : List UInt8 → Bool} (hm : IsR P k a b r n f left cnt) (h : Fr S a c) (hn : ¬ S b) (hr : ¬ S r) : IsR P k c b r n f left cnt := by
  have h1 := hm.isM.lt
  have h2 := hm.lt
  obtain ⟨D, lf, ⟨es, clock, since, seen, c0, hb, F, hs, hD, hr', rest⟩, r2⟩ := hm
  exact ⟨D, lf, ⟨es, clock, since, seen, c0, (h.block b h1 hn).trans hb, F, hs, hD, (h.block r h2 hr).trans hr', rest⟩, r2⟩
end

end Go.Proofs.Ybulkauyc
