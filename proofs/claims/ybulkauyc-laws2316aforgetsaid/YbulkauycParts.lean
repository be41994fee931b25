/-
  What the law's walk carries: the series of the first i masks; the shard, the policy and the measurement as the law lays them.
-/
import Derived.Test.YbulkauycBits
import Derived.LaidEqlPtr
import Derived.WalkSpells
import Derived.Deep.Draws
namespace Go.Proofs.Ybulkauyc
open Go Go.Maps Go.RowKit

/-- The type that the law gives to the k-th key. -/
def vT (k : Nat) : Value := .int .u8 ((k : Int) + 1)

/-- Which fields the series at the key s has: it is the series of the mask that the key's byte counts. -/
def hsZ (z : List Int) (s x : List UInt8) : Bool := match s with | [c] => inK (bt (z.getD c.toNat 0)) 4 x | _ => false

/-- The series of the first i masks, laid since w1: the map in the first new block. -/
def Masks (w1 : World) (z : List Int) (i : Nat) (wr : World) : Prop :=
  ∃ fS, Ser wr w1.heap.size wr.heap.size w1.heap.size i fS (hsZ z) ∧ (∀ s, (fS s).isSome = true ↔ ∃ j, j < i ∧ s = [UInt8.ofNat j]) ∧ Fr (fun _ => False) w1 wr

theorem ite_le1 {c : Prop} [Decidable c] {n k : Nat} (h : n ≤ k) : (if c then n else n + 1) ≤ k + 1 := by split <;> omega

theorem inK_step {p : Nat → Bool} {k : Nat} (hp : p k = true) {g : List UInt8 → Option Value} (hg : ∀ x, (g x).isSome = inK p k x) (v : Value) (x : List UInt8) : (upd g [kb k] v x).isSome = inK p (k + 1) x := by
  unfold upd inK
  by_cases h : x = [kb k]
  · simp [h, hp]
  · simp [h, hg x]

theorem cell_lt {w : World} {a : Addr} {v : Value} (h : w.cell? a = some v) : a.block < w.heap.size := by
  by_cases hb : a.block < w.heap.size
  · exact hb
  · have : w.heap[a.block]? = none := Array.getElem?_eq_none (by omega)
    simp [World.cell?, this] at h

theorem masks_start (w1 : World) (z : List Int) : Masks w1 z 0 (w1.alloc (.map #[] 0)) :=
  ⟨fun _ => none, ⟨IsM.made _ _ _, Nat.le_refl _, by simp, Nat.le_refl _, fun _ _ h => by cases h⟩, fun s => by simp, Fr.alloc _ _⟩

/-- The one-byte key of the i-th series. -/
def byteS (i : Nat) : ByteArray := ⟨#[UInt8.ofNat i]⟩
theorem byteS_data (i : Nat) : (byteS i).data.toList = [UInt8.ofNat i] := rfl
theorem byteS_size (i : Nat) : (byteS i).size ≤ maxLen := by show (1 : Nat) ≤ maxLen; decide

theorem run_conv (i : Nat) (W : World) : (convert 22 9 (.slice (some ⟨W.heap.size, 0, none⟩) 1 1)).run Yba.prog (W.alloc (.cells #[.int .u8 (i : Int)] 5)) = .ok (.string (byteS i)) (W.alloc (.cells #[.int .u8 (i : Int)] 5)) := by
  rw [run_convert_bytes_string _ 22 9 5 _ _ _ Yba.underlying22 Yba.underlying5 Yba.underlying9, run_bytesToString _ _ _ _ [(i : Int)] ?_]
  · simp [byteS, ByteArray.push, ByteArray.empty, ByteArray.emptyWithCapacity]
    rfl
  · exact run_loadCells_list (P := Yba.prog) _ _ [Value.int .u8 (i : Int)] (fun j v h => by
      cases j with
      | zero => simp at h; subst h; go_simp
      | succ j => simp at h)

theorem ofNat_inj {i j : Nat} (hi : i < 256) (hj : j < 256) (h : UInt8.ofNat i = UInt8.ofNat j) : i = j := by
  have := congrArg UInt8.toNat h
  simpa [Nat.mod_eq_of_lt hi, Nat.mod_eq_of_lt hj] using this

/-- One series more. -/
theorem masks_step {w1 w2 w3 w4 : World} {z : List Int} {i nf : Nat} {mi : Int} {g fS : List UInt8 → Option Value} (hser : Ser w2 w1.heap.size w2.heap.size w1.heap.size i fS (hsZ z)) (hkeys : ∀ s, (fS s).isSome = true ↔ ∃ j, j < i ∧ s = [UInt8.ofNat j])
    (hf : Fr (fun _ => False) w1 w2) (hi : i < 256) (hmi : z.getD i 0 = mi) (hf3 : Fr (fun _ => False) w2 w3) (hG : IsM Yba.prog 9 w3 w2.heap.size nf g) (hgs : ∀ x, (g x).isSome = inK (bt mi) 4 x) (o : Obj)
    (hM4 : IsM Yba.prog 9 w4 w1.heap.size (if (fS [UInt8.ofNat i]).isSome then i else i + 1) (upd fS [UInt8.ofNat i] (.pointer (some ⟨w3.heap.size + 1, 0, none⟩))))
    (hturn : ((w3.alloc o).alloc (.cells #[.slice none 0 0, .map (some w2.heap.size)] 37)).mapTurned w4 w1.heap.size) : Masks w1 z (i + 1) w4 := by
  have hnew : (fS [UInt8.ofNat i]).isSome = false := by
    cases h : (fS [UInt8.ofNat i]).isSome
    · rfl
    · obtain ⟨j, hj, e⟩ := (hkeys _).1 h
      have e' : UInt8.ofNat i = UInt8.ofNat j := (List.cons.inj e).1
      have := ofNat_inj hi (by omega) e'
      omega
  have hs2 : w1.heap.size < w2.heap.size := hser.1.lt
  have hs3 : w2.heap.size < w3.heap.size := hG.lt
  have hW : Fr (fun _ => False) w3 ((w3.alloc o).alloc (.cells #[.slice none 0 0, .map (some w2.heap.size)] 37)) := (Fr.alloc _ _).trans (Fr.alloc _ _)
  have hT := Fr.turned hturn
  have h24 : Fr (fun i => i = w1.heap.size) w2 w4 := ((hf3.trans hW).mono (fun i e => False.elim e)).trans hT
  have h34 : Fr (fun i => i = w1.heap.size) w3 w4 := (hW.mono (fun i e => False.elim e)).trans hT
  have hsz : w3.heap.size + 2 ≤ w4.heap.size := by have := hT.size; simpa using this
  refine ⟨_, ⟨hM4.congr (by rw [if_neg (by rw [hnew]; exact Bool.false_ne_true)]) (fun _ => rfl), Nat.le_refl _, by omega, Nat.le_refl _, ?_⟩, ?_, ?_⟩
  · intro s v hv
    unfold upd at hv
    by_cases hs : s = [UInt8.ofNat i]
    · rw [if_pos hs] at hv
      cases hv
      refine ⟨w3.heap.size + 1, w2.heap.size, nf, g, rfl, by omega, by omega, by omega, by omega, ?_, hG.fr h34 (by omega), fun x => ?_⟩
      · rw [hT.cell (p := ⟨w3.heap.size + 1, 1, none⟩) (by simp) (by show ¬ w3.heap.size + 1 = _; omega)]
        go_simp
      · rw [hgs x, hs]
        show _ = inK (bt (z.getD (UInt8.ofNat i).toNat 0)) 4 x
        rw [UInt8.toNat_ofNat_of_lt' hi, hmi]
    · rw [if_neg hs] at hv
      obtain ⟨S', F, nf', g', rfl, a1, a2, a3, a4, a5, a6, a7⟩ := hser.2.2.2.2 s v hv
      have nS : S' ≠ w1.heap.size := fun e => by
        subst e
        obtain ⟨D, ⟨es, clock, hb, _⟩, _⟩ := hser.1
        simp [World.cell?, hb] at a5
      exact ⟨S', F, nf', g', rfl, a1, by omega, a3, by omega, by rw [h24.cell (p := ⟨S', 1, none⟩) a2 nS]; exact a5, a6.fr h24 (by omega), a7⟩
  · intro s
    unfold upd
    by_cases hs : s = [UInt8.ofNat i]
    · simp only [hs, if_true, Option.isSome_some, true_iff]
      exact ⟨i, by omega, rfl⟩
    · rw [if_neg hs, hkeys s]
      constructor
      · rintro ⟨j, hj, e⟩
        exact ⟨j, by omega, e⟩
      · rintro ⟨j, hj, e⟩
        refine ⟨j, ?_, e⟩
        have : j ≠ i := fun e' => hs (by rw [e, e'])
        omega
  · exact hf.andThen h24 (fun j e => Or.inr (by omega))

theorem setBlock_alloc (W : World) (o o' : Obj) : ChangeMaps.setBlock (W.alloc o) W.heap.size o' = W.alloc o' := by
  have h : ((W.heap.push o).setIfInBounds W.heap.size o') = W.heap.push o' := by
    apply Array.ext_getElem?
    intro i
    simp only [Array.getElem?_setIfInBounds, Array.getElem?_push, Array.size_push]
    split <;> split <;> simp_all
  show ({ (W.alloc o) with heap := (W.heap.push o).setIfInBounds W.heap.size o' } : World) = _
  rw [h]; rfl

/-- The key of the one entry that the policy's types are laid with. -/
def qa : Value := .agg #[.string ⟨#[113]⟩, .string ⟨#[97]⟩]

theorem run_ins44 (W : World) (n : Nat) (hn : n = W.heap.size) : (Instr.mapUpdate 44 (.map (some n)) (.agg #[.string ⟨#[113]⟩, .string ⟨#[97]⟩]) (.int .u8 1)).run Yba.prog (W.alloc (.map #[] 0)) = .ok () (W.alloc (.map #[⟨qa, .int .u8 1, 0⟩] 1)) := by
  subst hn
  have hb : (W.alloc (.map #[] 0)).heap[W.heap.size]? = some (.map #[] 0) := (MapKept.heap_alloc W _).1
  have hck : ∀ w : World, (Instr.checkKey false 10000 43 (.agg #[.string ⟨#[113]⟩, .string ⟨#[97]⟩])).run Yba.prog w = .ok () w := fun _ => by kernel_rfl
  have hfk : ∀ w : World, (Instr.findKey 43 (.agg #[.string ⟨#[113]⟩, .string ⟨#[97]⟩]) []).run Yba.prog w = .ok none w := fun _ => by kernel_rfl
  rw [← setBlock_alloc W (.map #[] 0) (.map #[⟨qa, .int .u8 1, 0⟩] 1)]
  simp [Instr.mapUpdate, run_underlying Yba.underlying44, MapKept.run_getObj_map hb, hck, hfk, MapKept.run_setObj_map _ hb, Result.andThen, qa, ChangeMaps.setBlock]

theorem run_ins52 (W : World) (n : Nat) (s : ByteArray) (v : Value) (hs : s.size ≤ maxLen) (hn : n = W.heap.size) : (Instr.mapUpdate 52 (.map (some n)) (.string s) v).run Yba.prog (W.alloc (.map #[] 0)) = .ok () (W.alloc (.map #[⟨.string s, v, 0⟩] 1)) := by
  subst hn
  have hb : (W.alloc (.map #[] 0)).heap[W.heap.size]? = some (.map #[] 0) := (MapKept.heap_alloc W _).1
  have hkey := WideMaps.keyOf_string_mk u9 hs
  have K := string_keyed u9
  rcases K.find (W.alloc (.map #[] 0)) hkey [] (by simp) with ⟨h1, _⟩ | ⟨j, e0, _, h2, _⟩
  · rw [← setBlock_alloc W (.map #[] 0) (.map #[⟨.string s, v, 0⟩] 1)]
    simp [Instr.mapUpdate, run_underlying Yba.underlying52, MapKept.run_getObj_map hb, K.check _ false hkey, h1, MapKept.run_setObj_map _ hb, Result.andThen, ChangeMaps.setBlock]
  · simp at h2

theorem run_ins52b (W : World) (n : Nat) (s s' : ByteArray) (v v' : Value) (hs : s.size ≤ maxLen) (hs' : s'.size ≤ maxLen) (hne : s ≠ s') (hn : n = W.heap.size) :
    (Instr.mapUpdate 52 (.map (some n)) (.string s') v').run Yba.prog (W.alloc (.map #[⟨.string s, v, 0⟩] 1)) = .ok () (W.alloc (.map #[⟨.string s, v, 0⟩, ⟨.string s', v', 1⟩] 2)) := by
  subst hn
  have hb : (W.alloc (.map #[⟨.string s, v, 0⟩] 1)).heap[W.heap.size]? = some (.map #[⟨.string s, v, 0⟩] 1) := (MapKept.heap_alloc W _).1
  have hkey := WideMaps.keyOf_string_mk u9 hs
  have hkey' := WideMaps.keyOf_string_mk u9 hs'
  have K := string_keyed u9
  rcases K.find (W.alloc (.map #[⟨.string s, v, 0⟩] 1)) hkey' [⟨.string s, v, 0⟩] (by intro e he; simp at he; subst he; exact ⟨_, hkey⟩) with ⟨h1, _⟩ | ⟨j, e0, _, h2, h3⟩
  · rw [← setBlock_alloc W (.map #[⟨.string s, v, 0⟩] 1) (.map #[⟨.string s, v, 0⟩, ⟨.string s', v', 1⟩] 2)]
    simp [Instr.mapUpdate, run_underlying Yba.underlying52, MapKept.run_getObj_map hb, K.check _ false hkey', h1, MapKept.run_setObj_map _ hb, Result.andThen, ChangeMaps.setBlock]
  · cases j with
    | zero => simp at h2; subst h2; simp at h3; exact absurd h3 hne
    | succ j => simp at h2

theorem isM_two (W : World) (s s' : ByteArray) (v v' : Value) (hs : s.size ≤ maxLen) (hs' : s'.size ≤ maxLen) (hne : s ≠ s') :
    IsM Yba.prog 9 (W.alloc (.map #[⟨.string s, v, 0⟩, ⟨.string s', v', 1⟩] 2)) W.heap.size 2 (upd (upd (fun _ => none) s.data.toList v) s'.data.toList v') := by
  obtain ⟨w', hr, h1, _⟩ := (IsM.made Yba.prog 9 W).store (t := 52) u9 Yba.underlying52 (by decide) hs v
  rw [run_ins52 W _ s v hs rfl] at hr
  cases hr
  obtain ⟨w', hr, h2, _⟩ := h1.store (t := 52) u9 Yba.underlying52 (by decide) hs' v'
  rw [run_ins52b W _ s s' v v' hs hs' hne rfl] at hr
  cases hr
  have hd : s'.data.toList ≠ s.data.toList := fun e => hne (ByteArray.ext (Array.toList_inj.1 e.symm))
  exact h2.congr (by simp [upd, hd]) (fun _ => rfl)

/-- The shard, the policy and the measurement, as the law lays them. -/
structure Built (wx : World) (name : ByteArray) (ftB sB mB omB pB mbB shB : Nat) (tv : Value) : Prop where
  hM : ∃ fM, IsM Yba.prog 9 wx mbB 2 fM ∧ fM name.data.toList = some (.pointer (some ⟨mB, 0, none⟩)) ∧ fM (name ++ ⟨#[35]⟩).data.toList = some (.pointer (some ⟨omB, 0, none⟩))
  c1 : wx.cell? ⟨shB, 2, none⟩ = some (.pointer (some ⟨pB, 0, none⟩))
  c2 : wx.cell? ⟨shB, 4, none⟩ = some (.map (some mbB))
  c3 : wx.cell? ⟨mB, 0, none⟩ = some (.map (some ftB))
  c4 : wx.cell? ⟨mB, 1, none⟩ = some (.map (some sB))
  c5 : wx.cell? ⟨pB, 5, none⟩ = some tv
  f5 : wx.frozen? ⟨pB, 5, none⟩ = false

theorem Built.fr {S : Nat → Prop} {wx wy : World} {name : ByteArray} {ftB sB mB omB pB mbB shB : Nat} {tv : Value} (h : Built wx name ftB sB mB omB pB mbB shB tv) (hf : Fr S wx wy) (hS : ∀ i, S i → i < mB ∨ shB < i) (o1 : mB < omB) (o2 : omB < pB) (o3 : pB < mbB) (o4 : mbB < shB) (o5 : shB < wx.heap.size) :
    Built wy name ftB sB mB omB pB mbB shB tv := by
  have hn : ∀ i, mB ≤ i → i ≤ shB → ¬ S i := fun i a b e => by have := hS i e; omega
  obtain ⟨⟨fM, m1, m2, m3⟩, c1, c2, c3, c4, c5, f5⟩ := h
  refine ⟨⟨fM, m1.fr hf (hn _ (by omega) (by omega)), m2, m3⟩, ?_, ?_, ?_, ?_, ?_, ?_⟩
  · rw [hf.cell (p := ⟨shB, 2, none⟩) o5 (hn shB (by omega) (by omega))]; exact c1
  · rw [hf.cell (p := ⟨shB, 4, none⟩) o5 (hn shB (by omega) (by omega))]; exact c2
  · rw [hf.cell (p := ⟨mB, 0, none⟩) (by show mB < _; omega) (hn mB (by omega) (by omega))]; exact c3
  · rw [hf.cell (p := ⟨mB, 1, none⟩) (by show mB < _; omega) (hn mB (by omega) (by omega))]; exact c4
  · rw [hf.cell (p := ⟨pB, 5, none⟩) (by show pB < _; omega) (hn pB (by omega) (by omega))]; exact c5
  · rw [hf.frozen (p := ⟨pB, 5, none⟩) (by show pB < _; omega) (hn pB (by omega) (by omega))]; exact f5

/-- The blocks that the law lays behind the series, as far as the policy. -/
def lay6 (w2 : World) (ftB sB : Nat) : World :=
  (((((w2.alloc (.cells #[.map (some ftB), .map (some sB)] 40)).alloc (.map #[] 0)).alloc (.map #[] 0)).alloc (.cells #[.map (some (w2.heap.size + 1)), .map (some (w2.heap.size + 1 + 1))] 40)).alloc (.map #[⟨qa, .int .u8 1, 0⟩] 1)).alloc
    (.cells #[.string ⟨#[]⟩, .int .i64 0, .int .i64 0, .string ⟨#[]⟩, .slice none 0 0, .map (some (w2.heap.size + 1 + 1 + 1 + 1))] 50)
/-- The shard's block. -/
def shO (pB mbB : Nat) : Obj :=
  .cells #[.int .i64 0, .int .i64 0, .pointer (some ⟨pB, 0, none⟩), .string ⟨#[]⟩, .map (some mbB), .slice none 0 0, .int .u64 0, .int .u64 0, .int .i64 0, .pointer none, .nilIface, .nilIface, .pointer none, .int .u32 0] 69

theorem lay6_size (w2 : World) (ftB sB : Nat) : (lay6 w2 ftB sB).heap.size = w2.heap.size + 1 + 1 + 1 + 1 + 1 + 1 := by simp [lay6]

theorem lay6_fr (w2 : World) (ftB sB : Nat) : Fr (fun _ => False) w2 (lay6 w2 ftB sB) := (((((Fr.alloc _ _).trans (Fr.alloc _ _)).trans (Fr.alloc _ _)).trans (Fr.alloc _ _)).trans (Fr.alloc _ _)).trans (Fr.alloc _ _)

theorem built_mk (w2 : World) (name : ByteArray) (ftB sB : Nat) (o : Obj) (fM : List UInt8 → Option Value) (hM : IsM Yba.prog 9 ((lay6 w2 ftB sB).alloc o) (lay6 w2 ftB sB).heap.size 2 fM)
    (m2 : fM name.data.toList = some (.pointer (some ⟨w2.heap.size, 0, none⟩))) (m3 : fM (name ++ ⟨#[35]⟩).data.toList = some (.pointer (some ⟨w2.heap.size + 1 + 1 + 1, 0, none⟩))) :
    Built (((lay6 w2 ftB sB).alloc o).alloc (shO (w2.heap.size + 1 + 1 + 1 + 1 + 1) (w2.heap.size + 1 + 1 + 1 + 1 + 1 + 1))).drew name ftB sB w2.heap.size (w2.heap.size + 1 + 1 + 1) (w2.heap.size + 1 + 1 + 1 + 1 + 1) (w2.heap.size + 1 + 1 + 1 + 1 + 1 + 1) (w2.heap.size + 1 + 1 + 1 + 1 + 1 + 1 + 1) (.map (some (w2.heap.size + 1 + 1 + 1 + 1))) := by
  have h6 := (hM.alloc (shO (w2.heap.size + 1 + 1 + 1 + 1 + 1) (w2.heap.size + 1 + 1 + 1 + 1 + 1 + 1)))
  rw [lay6_size] at h6
  exact ⟨⟨fM, h6, m2, m3⟩, by unfold shO lay6; go_simp, by unfold shO lay6; go_simp, by unfold shO lay6; go_simp, by unfold shO lay6; go_simp, by unfold shO lay6; go_simp, by unfold shO lay6; go_simp⟩

theorem built_fr (w2 : World) (ftB sB : Nat) (o o' : Obj) : Fr (fun _ => False) w2 (((lay6 w2 ftB sB).alloc o).alloc o').drew := (((lay6_fr w2 ftB sB).trans (Fr.alloc _ _)).trans (Fr.alloc _ _)).trans (Fr.drew _)

theorem built_a (w2 : World) (name : ByteArray) (ftB sB : Nat) (hsa : name.size ≤ maxLen) (hsb : (name ++ ⟨#[35]⟩).size ≤ maxLen) (hne : name ≠ name ++ ⟨#[35]⟩) :
    Built (((lay6 w2 ftB sB).alloc (.map #[⟨.string name, .pointer (some ⟨w2.heap.size, 0, none⟩), 0⟩, ⟨.string (name ++ ⟨#[35]⟩), .pointer (some ⟨w2.heap.size + 1 + 1 + 1, 0, none⟩), 1⟩] 2)).alloc (shO (w2.heap.size + 1 + 1 + 1 + 1 + 1) (w2.heap.size + 1 + 1 + 1 + 1 + 1 + 1))).drew
      name ftB sB w2.heap.size (w2.heap.size + 1 + 1 + 1) (w2.heap.size + 1 + 1 + 1 + 1 + 1) (w2.heap.size + 1 + 1 + 1 + 1 + 1 + 1) (w2.heap.size + 1 + 1 + 1 + 1 + 1 + 1 + 1) (.map (some (w2.heap.size + 1 + 1 + 1 + 1))) := by
  have hd : name.data.toList ≠ (name ++ ⟨#[35]⟩ : ByteArray).data.toList := fun e => hne (ByteArray.ext (Array.toList_inj.1 e))
  exact built_mk w2 name ftB sB _ _ (isM_two _ name (name ++ ⟨#[35]⟩) _ _ hsa hsb hne) (by unfold upd; rw [if_neg hd, if_pos rfl]) (by unfold upd; rw [if_pos rfl])

theorem built_b (w2 : World) (name : ByteArray) (ftB sB : Nat) (hsa : name.size ≤ maxLen) (hsb : (name ++ ⟨#[35]⟩).size ≤ maxLen) (hne : name ≠ name ++ ⟨#[35]⟩) :
    Built (((lay6 w2 ftB sB).alloc (.map #[⟨.string (name ++ ⟨#[35]⟩), .pointer (some ⟨w2.heap.size + 1 + 1 + 1, 0, none⟩), 0⟩, ⟨.string name, .pointer (some ⟨w2.heap.size, 0, none⟩), 1⟩] 2)).alloc (shO (w2.heap.size + 1 + 1 + 1 + 1 + 1) (w2.heap.size + 1 + 1 + 1 + 1 + 1 + 1))).drew
      name ftB sB w2.heap.size (w2.heap.size + 1 + 1 + 1) (w2.heap.size + 1 + 1 + 1 + 1 + 1) (w2.heap.size + 1 + 1 + 1 + 1 + 1 + 1) (w2.heap.size + 1 + 1 + 1 + 1 + 1 + 1 + 1) (.map (some (w2.heap.size + 1 + 1 + 1 + 1))) := by
  have hd : (name ++ ⟨#[35]⟩ : ByteArray).data.toList ≠ name.data.toList := fun e => hne (ByteArray.ext (Array.toList_inj.1 e.symm))
  exact built_mk w2 name ftB sB _ _ (isM_two _ (name ++ ⟨#[35]⟩) name _ _ hsb hsa (Ne.symm hne)) (by unfold upd; rw [if_pos rfl]) (by unfold upd; rw [if_neg hd, if_pos rfl])

theorem hne_other (name : ByteArray) : name ≠ name ++ ⟨#[35]⟩ := fun e => by
  have h1 := congrArg ByteArray.size e
  rw [ByteArray.size_append] at h1
  have h2 : (⟨#[35]⟩ : ByteArray).size = 1 := rfl
  omega

/-- Which field some series of the first i masks has. -/
def unK (z : List Int) (i : Nat) (x : List UInt8) : Bool := inK (bt (un z i)) 4 x

theorem unK_iff {z : List Int} (hz : ∀ i, 0 ≤ z.getD i 0 ∧ z.getD i 0 ≤ 255) {i : Nat} (hi : i ≤ 256) {fS : List UInt8 → Option Value} (hk : ∀ s, (fS s).isSome = true ↔ ∃ j, j < i ∧ s = [UInt8.ofNat j]) (x : List UInt8) :
    unK z i x = true ↔ ∃ s, (fS s).isSome = true ∧ hsZ z s x = true := by
  unfold unK
  rw [inK_iff]
  constructor
  · rintro ⟨k, h1, h2, h3⟩
    obtain ⟨j, h4, h5⟩ := (un_bt hz k i).1 h2
    refine ⟨[UInt8.ofNat j], (hk _).2 ⟨j, h4, rfl⟩, ?_⟩
    show inK (bt (z.getD (UInt8.ofNat j).toNat 0)) 4 x = true
    rw [UInt8.toNat_ofNat_of_lt' (show j < UInt8.size by show j < 256; omega), inK_iff]
    exact ⟨k, h1, h5, h3⟩
  · rintro ⟨s, h1, h2⟩
    obtain ⟨j, h4, rfl⟩ := (hk s).1 h1
    have h2' : inK (bt (z.getD (UInt8.ofNat j).toNat 0)) 4 x = true := h2
    rw [UInt8.toNat_ofNat_of_lt' (show j < UInt8.size by show j < 256; omega), inK_iff] at h2'
    obtain ⟨k, g1, g2, g3⟩ := h2'
    exact ⟨k, g1, (un_bt hz k i).2 ⟨j, h4, g2⟩, g3⟩

/-- The values of the emptied keys. -/
def vE (ev : Int) (k : Nat) : Value := .bool (bt ev k)

/-- What the types hold behind forget, key by key. -/
theorem final_key (fm em ev : Int) (z : List Int) (i : Nat) {k : Nat} (hk : k < 4) :
    struck (fill (bt em) (vE ev) 4) (unK z i) (fun _ => false) (fill (bt fm) vT 4) [kb k] = if bt em k && !bt (un z i) k then none else if bt fm k then some (vT k) else none := by
  unfold struck
  rw [fill_isSome, inK_key _ hk, show unK z i [kb k] = bt (un z i) k from inK_key _ hk]
  have e : fill (bt fm) vT 4 [kb k] = if bt fm k then some (vT k) else none := by
    cases h : bt fm k
    · have h1 := fill_isSome (bt fm) vT [kb k] 4
      rw [inK_key _ hk, h] at h1
      cases h2 : fill (bt fm) vT 4 [kb k] with
      | none => rfl
      | some v => rw [h2] at h1; cases h1
    · rw [fill_key _ _ 4 hk (by omega) h]; rfl
  rw [e]
  simp

/-- Has one of the first k keys been forgotten? -/
def fg (em u : Int) : Nat → Bool
  | 0 => false
  | k + 1 => fg em u k || (bt em k && !bt u k)

theorem fg_iff (em u : Int) : ∀ k, fg em u k = true ↔ ∃ j, j < k ∧ bt em j = true ∧ bt u j = false
  | 0 => by simp [fg]
  | k + 1 => by
    simp only [fg, Bool.or_eq_true, Bool.and_eq_true, Bool.not_eq_true', fg_iff em u k]
    constructor
    · rintro (⟨j, h1, h2⟩ | h2)
      · exact ⟨j, by omega, h2⟩
      · exact ⟨k, by omega, h2⟩
    · rintro ⟨j, h1, h2⟩
      by_cases e : j = k
      · subst e; exact Or.inr h2
      · exact Or.inl ⟨j, by omega, h2⟩

theorem gone_fg (em ev : Int) (z : List Int) (i : Nat) : (∃ s, (fill (bt em) (vE ev) 4 s).isSome = true ∧ unK z i s = false) ↔ fg em (un z i) 4 = true := by
  rw [fg_iff]
  constructor
  · rintro ⟨s, h1, h2⟩
    rw [fill_isSome, inK_iff] at h1
    obtain ⟨j, g1, g2, rfl⟩ := h1
    exact ⟨j, g1, g2, (inK_key _ g1).symm.trans h2⟩
  · rintro ⟨j, h1, h2, h3⟩
    exact ⟨[kb j], by rw [fill_isSome, inK_key _ h1]; exact h2, (inK_key _ h1).trans h3⟩

theorem info40 : (Yba.prog.info? 40).isSome = true := by kernel_rfl

theorem run_neq38 (a : Addr) (w : World) : (binOp .neq 38 (.pointer (some a)) (.pointer (some a))).run Yba.prog w = .ok (.bool false) w := by
  obtain ⟨j, hj⟩ := Option.isSome_iff_exists.1 info40
  have h : ∀ d : Nat, (Op.equalIn (d + 1) 38 (.pointer (some a)) (.pointer (some a))).run Yba.prog w = .ok true w := fun d => by
    simp [Op.equalIn, run_underlying Yba.underlying38, sizeOf, typeInfo, hj, run_sameAddr_same]
  simp only [binOp]
  simp [Op.equal, Op.maxDepth, h 9999]

theorem run_eql44 (r : Option Nat) (w : World) : (binOp .eql 44 (.map r) (.map none)).run Yba.prog w = .ok (.bool r.isNone) w := run_eql_map_nil w 44 43 25 r Yba.underlying44

/-- What the policy's types are behind forget. -/
theorem types_of {q : Bool} {em ev : Int} {z : List Int} {i tB : Nat} {o : Option Value} (h : o = some (if q then .map none else .map (some tB))) (hq : q = true ↔ ∃ s, (fill (bt em) (vE ev) 4 s).isSome = true ∧ unK z i s = false) :
    ∃ tv : Option Nat, o = some (.map tv) ∧ tv.isNone = fg em (un z i) 4 := by
  rw [gone_fg] at hq
  cases q with
  | true => exact ⟨none, h, by rw [hq.1 rfl]; rfl⟩
  | false =>
    refine ⟨some tB, h, ?_⟩
    cases hf : fg em (un z i) 4
    · rfl
    · exact absurd (hq.2 hf) Bool.false_ne_true

theorem Fr.drewN (w : World) (n : Nat) : Fr (fun _ => False) w (w.drewN n) := ⟨rfl, rfl, rfl, Nat.le_refl _, fun _ _ _ => rfl⟩

end Go.Proofs.Ybulkauyc
