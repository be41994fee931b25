/-
  (*shard).forget.
-/
import Derived.Test.YbulkauycSmall
namespace Go.Proofs.Ybulkauyc
open Go Go.Maps Go.RowKit

theorem u9 : Yba.prog.underlying 9 = some .string := Yba.underlying9
theorem z38 (w : World) : (zeroValue 38).run Yba.prog w = .ok (.pointer none) w := by kernel_rfl
theorem z29 (w : World) : (zeroValue 29).run Yba.prog w = .ok (.pointer none) w := by kernel_rfl
theorem z25 (w : World) : (zeroValue 25).run Yba.prog w = .ok (.int .u8 0) w := by kernel_rfl

/-- The series: the map in block sB; each element leads to a struct whose second cell is the map of its fields; 'hs s x': the series at s has the field x. All of it lies in the blocks from lo to hi. -/
def Ser (w : World) (lo hi sB n : Nat) (fS : List UInt8 → Option Value) (hs : List UInt8 → List UInt8 → Bool) : Prop :=
  IsM Yba.prog 9 w sB n fS ∧ lo ≤ sB ∧ sB < hi ∧ hi ≤ w.heap.size ∧
  ∀ s v, fS s = some v → ∃ S F nf g, v = .pointer (some ⟨S, 0, none⟩) ∧ lo ≤ S ∧ S < hi ∧ lo < F ∧ F < hi ∧ w.cell? ⟨S, 1, none⟩ = some (.map (some F)) ∧ IsM Yba.prog 9 w F nf g ∧ ∀ x, (g x).isSome = hs s x

theorem Ser.fr {S : Nat → Prop} {w w' : World} {lo hi sB n : Nat} {fS : List UInt8 → Option Value} {hs : List UInt8 → List UInt8 → Bool} (h : Ser w lo hi sB n fS hs) (hf : Fr S w w') (hS : ∀ i, S i → i < lo ∨ hi ≤ i) : Ser w' lo hi sB n fS hs := by
  obtain ⟨h1, h2, h3, h4, h5⟩ := h
  have hn : ∀ i, lo ≤ i → i < hi → ¬ S i := fun i a b e => by have := hS i e; omega
  refine ⟨h1.fr hf (hn _ h2 h3), h2, h3, Nat.le_trans h4 hf.size, fun s v hv => ?_⟩
  obtain ⟨S', F, nf, g, rfl, a1, a2, a3, a4, a5, a6, a7⟩ := h5 s v hv
  exact ⟨S', F, nf, g, rfl, a1, a2, a3, a4, by rw [hf.cell (p := ⟨S', 1, none⟩) (Nat.lt_of_lt_of_le a2 h4) (hn _ a1 a2)]; exact a5, a6.fr hf (hn _ (Nat.le_of_lt a3) a4), a7⟩

/-- What forget leaves of the types. -/
def struck (fE : List UInt8 → Option Value) (U left : List UInt8 → Bool) (fT : List UInt8 → Option Value) : List UInt8 → Option Value :=
  fun s => if (fE s).isSome && !left s && !U s then none else fT s

theorem struck_start (fE : List UInt8 → Option Value) (U : List UInt8 → Bool) (fT : List UInt8 → Option Value) (s : List UInt8) : fT s = struck fE U (fun s => (fE s).isSome) fT s := by
  unfold struck
  cases h : fE s <;> simp [h]

theorem struck_end {fE : List UInt8 → Option Value} {U left : List UInt8 → Bool} (h : ∀ s, left s = false) (fT : List UInt8 → Option Value) (s : List UInt8) : struck fE U left fT s = struck fE U (fun _ => false) fT s := by
  unfold struck
  rw [h s]

theorem struck_kept {fE : List UInt8 → Option Value} {U left : List UInt8 → Bool} {x : List UInt8} (hx : left x = true) (hU : U x = true) (fT : List UInt8 → Option Value) (s : List UInt8) :
    struck fE U left fT s = struck fE U (fun y => left y && !decide (y = x)) fT s := by
  unfold struck
  by_cases h : s = x
  · subst h; simp [hU]
  · simp [h]

theorem struck_del {fE : List UInt8 → Option Value} {U left : List UInt8 → Bool} {x : List UInt8} {v : Value} (hE : fE x = some v) (hU : U x = false) (fT : List UInt8 → Option Value) (s : List UInt8) :
    del (struck fE U left fT) x s = struck fE U (fun y => left y && !decide (y = x)) fT s := by
  unfold struck del
  by_cases h : s = x
  · subst h; simp [hU, hE]
  · simp [h]

/-- Some key that was handed in as emptied, and has come up, is held by no series. -/
def Gone (fE : List UInt8 → Option Value) (U left : List UInt8 → Bool) : Prop := ∃ s, (fE s).isSome = true ∧ left s = false ∧ U s = false

theorem gone_start (fE : List UInt8 → Option Value) (U : List UInt8 → Bool) : ¬ Gone fE U (fun s => (fE s).isSome) := by
  rintro ⟨s, h1, h2, _⟩
  dsimp only at h2
  rw [h1] at h2
  cases h2

theorem gone_kept {fE : List UInt8 → Option Value} {U left : List UInt8 → Bool} {x : List UInt8} (hU : U x = true) : Gone fE U (fun y => left y && !decide (y = x)) ↔ Gone fE U left := by
  constructor
  · rintro ⟨s, h1, h2, h3⟩
    refine ⟨s, h1, ?_, h3⟩
    by_cases h : s = x
    · subst h; rw [hU] at h3; cases h3
    · simpa [h] using h2
  · rintro ⟨s, h1, h2, h3⟩
    exact ⟨s, h1, by simp [h2], h3⟩

theorem gone_del {fE : List UInt8 → Option Value} {U left : List UInt8 → Bool} {x : List UInt8} {v : Value} (hE : fE x = some v) (hU : U x = false) : Gone fE U (fun y => left y && !decide (y = x)) :=
  ⟨x, by rw [hE]; rfl, by simp, hU⟩

theorem gone_end {fE : List UInt8 → Option Value} {U left : List UInt8 → Bool} (h : ∀ s, left s = false) : Gone fE U left ↔ ∃ s, (fE s).isSome = true ∧ U s = false :=
  ⟨fun ⟨s, h1, _, h3⟩ => ⟨s, h1, h3⟩, fun ⟨s, h1, h3⟩ => ⟨s, h1, h s, h3⟩⟩

set_option maxHeartbeats 400000 in
theorem forget_some (sh pB mB mbB ftB eB lo hi sB n nM nT nE : Nat) (name : ByteArray) (fM fS fT fE : List UInt8 → Option Value) (hs : List UInt8 → List UInt8 → Bool) (U : List UInt8 → Bool) (tv : Value) (w : World)
    (hname : name.size ≤ maxLen)
    (c1 : w.cell? ⟨sh, 2, none⟩ = some (.pointer (some ⟨pB, 0, none⟩))) (c2 : w.cell? ⟨sh, 4, none⟩ = some (.map (some mbB)))
    (hM : IsM Yba.prog 9 w mbB nM fM) (hMn : fM name.data.toList = some (.pointer (some ⟨mB, 0, none⟩)))
    (c3 : w.cell? ⟨mB, 0, none⟩ = some (.map (some ftB))) (c4 : w.cell? ⟨mB, 1, none⟩ = some (.map (some sB)))
    (c5 : w.cell? ⟨pB, 5, none⟩ = some tv) (f5 : w.frozen? ⟨pB, 5, none⟩ = false)
    (hS : Ser w lo hi sB n fS hs) (hT : IsM Yba.prog 9 w ftB nT fT) (hE : IsM Yba.prog 9 w eB nE fE)
    (hU : ∀ x, U x = true ↔ ∃ s, (fS s).isSome = true ∧ hs s x = true) (hn0 : 0 < n)
    (d1 : sh ≠ pB) (d2 : sh ≠ ftB) (d3 : mB ≠ pB) (d4 : mB ≠ ftB) (d5 : eB ≠ ftB) (d6 : eB ≠ pB) (d7 : pB < lo ∨ hi ≤ pB) (d8 : ftB < lo ∨ hi ≤ ftB) (d9 : pB ≠ ftB) (l1 : sh < w.heap.size) (l2 : mB < w.heap.size) (l3 : pB < w.heap.size) :
    Calls Yba.prog 7 #[.pointer (some ⟨sh, 0, none⟩), .string name, .map (some eB)] w fun e w' => e = .returned (.tuple #[]) ∧ ∃ nT', nT' ≤ nT ∧ IsM Yba.prog 9 w' ftB nT' (struck fE U (fun _ => false) fT) ∧
      (∃ q : Bool, w'.cell? ⟨pB, 5, none⟩ = some (if q then .map none else tv) ∧ (q = true ↔ ∃ s, (fE s).isSome = true ∧ U s = false)) ∧ Fr (fun i => i = ftB ∨ i = pB) w w' := by
  have hlenS : ∀ ty, (Builtin.len_ #[27] ty #[.map (some sB)]).run Yba.prog w = .ok (.int .i64 n) w := fun ty => hS.1.len Yba.underlying27 ty
  have hn0' : ((n : Int) == 0) = false := by simp; omega
  go_enter Yba.func7, Yba.ntmps7
  go_wp2_with (first
    | (at_lookup; refine wpList_look _ rfl _ _ 52 rfl 9 38 u9 Yba.underlying52 _ (z38 _) mbB nM fM rfl hM name rfl hname (.pointer (some ⟨mB, 0, none⟩)) (by rw [hMn]; rfl) ?_)
    | (at_range; refine wpList_rangeM _ rfl _ 70 rfl 9 4 u9 Yba.underlying70 eB nE fE rfl hE ?_; intro w0 hrg0 hg0 hs0)
    | go_in)
  go_frame
  have hlo : hi ≤ w.heap.size := hS.2.2.2.1
  clear hlenS
  go_loopw [7, 8] (fun _ _ wr => ∃ (left : List UInt8 → Bool) (cnt nT' : Nat) (q : Bool), IsR Yba.prog 9 wr eB w.heap.size nE fE left cnt ∧ nT' ≤ nT ∧ IsM Yba.prog 9 wr ftB nT' (struck fE U left fT) ∧
      wr.cell? ⟨pB, 5, none⟩ = some (if q then .map none else tv) ∧ (q = true ↔ Gone fE U left) ∧ Fr (fun i => i = ftB ∨ i = pB) w wr ∧ wr.frozen? ⟨pB, 5, none⟩ = false)
    (fun _ _ wr => wr.rangeLeft eB w.heap.size)
  case atStart =>
    have hf0 : Fr (fun i => i = ftB ∨ i = pB) w w0 := (Fr.grown hg0).mono (fun i e => by cases e)
    refine ⟨_, nE, nT, false, hrg0, Nat.le_refl _, (hT.fr (Fr.grown hg0) (fun e => by cases e)).congr rfl (struck_start fE U fT), ?_, ?_, hf0, ?_⟩
    · rw [(Fr.grown hg0).cell (p := ⟨pB, 5, none⟩) l3 (fun e => by cases e)]; exact c5
    · exact ⟨fun e => (by cases e), fun e => absurd e (gone_start fE U)⟩
    · rw [(Fr.grown hg0).frozen (p := ⟨pB, 5, none⟩) l3 (fun e => by cases e)]; exact f5
  case round =>
    obtain ⟨left, cnt, nT', q, hrg, hnT, hTr, hcp, hq, hfr, hfz⟩ := hrel
    rename World => wo
    have Hq : Hid (q = true ↔ Gone fE U left) := hq
    clear hq
    go_wp2_with (first
      | (at_next; refine wpList_nextM (β := Value) _ rfl _ rfl 9 u9 (fun v => v) eB w.heap.size nE fE left cnt (fun _ v _ => ⟨v, rfl⟩) rfl hrg ?_ ?_)
      | go_in)
    · intro _ hl0
      go_wp2
      go_end0
      exact ⟨rfl, nT', hnT, hTr.congr rfl (struck_end hl0 fT), ⟨q, hcp, Hq.out.trans (gone_end hl0)⟩, hfr⟩
    · intro s ev w1 cnt1 hsz hls hEs hrg1 hlt hg1 hs1 hen
      have hf1 : Fr (fun i => i = ftB ∨ i = pB) w w1 := hfr.andThen (Fr.grown hg1) (fun i e => by cases e; exact Or.inr (Nat.le_refl _))
      have k4 : w1.cell? ⟨mB, 1, none⟩ = some (.map (some sB)) := by rw [hf1.cell (p := ⟨mB, 1, none⟩) l2 (by simp; omega)]; exact c4
      have hS1 : Ser w1 lo hi sB n fS hs := hS.fr hf1 (fun i e => by omega)
      have hsM := hS1.1
      have hwr : w.heap.size < w1.heap.size := hrg1.lt
      clear hs1
      have Hrg1 : Hid (IsR Yba.prog 9 w1 eB w.heap.size nE fE (fun x => left x && !decide (x = s.data.toList)) cnt1) := hrg1
      clear hrg1
      go_wp2_with (first
        | (at_range; refine wpList_rangeM _ rfl _ 27 rfl 9 34 u9 Yba.underlying27 sB n fS rfl hsM ?_; intro w2 hrg2 hg2 hs2)
        | go_in)
      go_frame
      go_loopw [8, 10] (fun had _ wq => ∃ (left2 : List UInt8 → Bool) (cnt2 : Nat), had = .bool false ∧ IsR Yba.prog 9 wq sB w1.heap.size n fS left2 cnt2 ∧ (∀ y, (fS y).isSome = true → left2 y = false → hs y s.data.toList = false) ∧ Fr (fun _ => False) w1 wq)
        (fun _ _ wq => wq.rangeLeft sB w1.heap.size)
      case atStart =>
        exact ⟨_, n, rfl, hrg2, fun y h1 h2 => (by rw [h1] at h2; cases h2), (Fr.grown hg2).mono (fun i e => by cases e)⟩
      case round =>
        obtain ⟨left2, cnt2, rfl, hr2, hn2, hf2⟩ := hrel
        rename World => wq
        have HN : Hid (∀ y, (fS y).isSome = true → left2 y = false → hs y s.data.toList = false) := hn2
        clear hn2
        go_wp2_with (first
          | (at_next; refine wpList_nextM (β := Nat) _ rfl _ rfl 9 u9 (fun S => .pointer (some ⟨S, 0, none⟩)) sB w1.heap.size n fS left2 cnt2 (fun s' v hv => by obtain ⟨S, _, _, _, h, _⟩ := hS.2.2.2.2 s' v hv; exact ⟨S, h⟩) rfl hr2 ?_ ?_)
          | go_in)
        · intro _ hl2
          have hU0 : U s.data.toList = false := by
            cases h : U s.data.toList
            · rfl
            · obtain ⟨y, h1, h2⟩ := (hU _).1 h
              rw [HN.out y h1 (hl2 y)] at h2; cases h2
          have hf3 : Fr (fun i => i = ftB ∨ i = pB) w wq := hf1.andThen hf2 (fun i e => False.elim e)
          have k3 : wq.cell? ⟨mB, 0, none⟩ = some (.map (some ftB)) := by rw [hf3.cell (p := ⟨mB, 0, none⟩) l2 (by simp; omega)]; exact c3
          have hTq : IsM Yba.prog 9 wq ftB nT' (struck fE U left fT) := (hTr.fr (Fr.grown hg1) (by have := hT.lt; simp; omega)).fr hf2 (fun e => e)
          have HTq : Hid (IsM Yba.prog 9 wq ftB nT' (struck fE U left fT)) := hTq
          go_wp2_with (first
            | (at_delete; refine wpList_dropM _ rfl _ _ 23 9 rfl 25 u9 Yba.underlying23 ftB nT' _ rfl hTq s rfl hsz ?_; intro w4 hT4 hturn
               have hf4 : Fr (fun i => i = ftB ∨ i = pB) w w4 := hf3.andThen (Fr.turned hturn) (fun i e => Or.inl (Or.inl e))
               have j1 : w4.cell? ⟨sh, 2, none⟩ = some (.pointer (some ⟨pB, 0, none⟩)) := by rw [hf4.cell (p := ⟨sh, 2, none⟩) l1 (by simp; omega)]; exact c1
               have hlq : pB < wq.heap.size := Nat.lt_of_lt_of_le l3 hf3.size
               have j2 : w4.cell? ⟨pB, 5, none⟩ = some (if q then .map none else tv) := by
                 rw [(Fr.turned hturn).cell (p := ⟨pB, 5, none⟩) hlq d9, hf2.cell (p := ⟨pB, 5, none⟩) (Nat.lt_of_lt_of_le l3 hf1.size) (fun e => e), (Fr.grown hg1).cell (p := ⟨pB, 5, none⟩) (Nat.lt_of_lt_of_le l3 hfr.size) (by simp; omega)]
                 exact hcp
               have j3 : w4.frozen? ⟨pB, 5, none⟩ = false := by
                 rw [(Fr.turned hturn).frozen (p := ⟨pB, 5, none⟩) hlq d9, hf2.frozen (p := ⟨pB, 5, none⟩) (Nat.lt_of_lt_of_le l3 hf1.size) (fun e => e), (Fr.grown hg1).frozen (p := ⟨pB, 5, none⟩) (Nat.lt_of_lt_of_le l3 hfr.size) (by simp; omega)]
                 exact hfz)
            | (go_at_call 12; refine (forgetTypes_any pB _ _ j2 j3).mono ?_; rintro e w5 ⟨rfl, rfl⟩)
            | go_in)
          go_roundw
          case rel =>
            have hR4 : IsR Yba.prog 9 w4 eB w.heap.size nE fE (fun x => left x && !decide (x = s.data.toList)) cnt1 := (Hrg1.out.fr hf2 (fun e => e) (fun e => e)).fr (Fr.turned hturn) d5 (by have := hT.lt; omega)
            have hsc := Fr.setCell w4 ⟨pB, 5, none⟩ (.map none)
            refine ⟨_, cnt1, _, true, hR4.fr hsc d6 (by simp; omega), ?_, (hT4.fr hsc (fun e => d9 e.symm)).congr rfl (struck_del hEs hU0 fT), ?_, ?_, hf4.andThen hsc (fun i e => Or.inl (Or.inr e)), ?_⟩
            · split <;> omega
            · rw [if_pos rfl]; exact World.cell?_setCell_same _ _ _ j2
            · exact ⟨fun _ => gone_del hEs hU0, fun _ => rfl⟩
            · rw [World.frozen?_setCell]; exact j3
          case measure =>
            have hR4 : IsR Yba.prog 9 w4 eB w.heap.size nE fE (fun x => left x && !decide (x = s.data.toList)) cnt1 := (Hrg1.out.fr hf2 (fun e => e) (fun e => e)).fr (Fr.turned hturn) d5 (by have := hT.lt; omega)
            have hsc := Fr.setCell w4 ⟨pB, 5, none⟩ (.map none)
            rw [(hR4.fr hsc d6 (by simp; omega)).left_eq, hrg.left_eq]
            exact hlt
        · intro s2 S w3 cnt3 hsz3 hls3 hEs3 hrg3 hlt3 hg3 hs3 hen3
          have hf5 : Fr (fun _ => False) w1 w3 := hf2.andThen (Fr.grown hg3) (fun i e => by cases e; exact Or.inr (by omega))
          obtain ⟨S', F, nf, g, hp, q1, q2, q3, q4, q5, q6, q7⟩ := (hS1.fr hf5 (fun i e => False.elim e)).2.2.2.2 _ _ hEs3
          cases hp
          cases hhs : hs s2.data.toList s.data.toList
          · go_wp2_with (first
              | (at_lookup; refine wpList_look_ok _ rfl _ _ 28 rfl 9 29 u9 Yba.underlying28 _ (z29 _) F nf g rfl q6 s rfl hsz _ rfl false ((q7 _).trans hhs) ?_)
              | go_in)
            go_roundw
            case rel => exact ⟨_, cnt3, rfl, hrg3, fun y h1 h2 => (by
              by_cases hy : y = s2.data.toList
              · rw [hy]; exact hhs
              · exact HN.out y h1 (by simpa [hy] using h2)), hf5⟩
            case measure => rw [hrg3.left_eq, hr2.left_eq]; exact hlt3
          · have hU1 : U s.data.toList = true := (hU _).2 ⟨s2.data.toList, by rw [hEs3]; rfl, hhs⟩
            go_wp2_with (first
              | (at_lookup; refine wpList_look_ok _ rfl _ _ 28 rfl 9 29 u9 Yba.underlying28 _ (z29 _) F nf g rfl q6 s rfl hsz _ rfl true ((q7 _).trans hhs) ?_)
              | go_in)
            go_roundw
            case rel =>
              have hf6 : Fr (fun i => i = ftB ∨ i = pB) w w3 := hf1.andThen hf5 (fun i e => False.elim e)
              have hwl : pB < w1.heap.size := Nat.lt_of_lt_of_le l3 hf1.size
              have hwo : pB < wo.heap.size := Nat.lt_of_lt_of_le l3 hfr.size
              refine ⟨_, cnt1, nT', q, Hrg1.out.fr hf5 (fun e => e) (fun e => e), hnT, ((hTr.fr (Fr.grown hg1) (by have := hT.lt; simp; omega)).fr hf5 (fun e => e)).congr rfl (struck_kept hls hU1 fT), ?_, Hq.out.trans (gone_kept hU1).symm, hf6, ?_⟩
              · rw [hf5.cell (p := ⟨pB, 5, none⟩) hwl (fun e => e), (Fr.grown hg1).cell (p := ⟨pB, 5, none⟩) hwo (by simp; omega)]; exact hcp
              · rw [hf5.frozen (p := ⟨pB, 5, none⟩) hwl (fun e => e), (Fr.grown hg1).frozen (p := ⟨pB, 5, none⟩) hwo (by simp; omega)]; exact hfz
            case measure => rw [(Hrg1.out.fr hf5 (fun e => e) (fun e => e)).left_eq, hrg.left_eq]; exact hlt

theorem forget_none (sh pB mB mbB eB sB nM : Nat) (name : ByteArray) (fM fS : List UInt8 → Option Value) (tv : Value) (w : World)
    (hname : name.size ≤ maxLen)
    (c1 : w.cell? ⟨sh, 2, none⟩ = some (.pointer (some ⟨pB, 0, none⟩))) (c2 : w.cell? ⟨sh, 4, none⟩ = some (.map (some mbB)))
    (hM : IsM Yba.prog 9 w mbB nM fM) (hMn : fM name.data.toList = some (.pointer (some ⟨mB, 0, none⟩)))
    (c4 : w.cell? ⟨mB, 1, none⟩ = some (.map (some sB)))
    (c5 : w.cell? ⟨pB, 5, none⟩ = some tv) (f5 : w.frozen? ⟨pB, 5, none⟩ = false)
    (hS : IsM Yba.prog 9 w sB 0 fS) (d1 : sh ≠ mbB) (d2 : pB ≠ mbB) (l1 : sh < w.heap.size) (l3 : pB < w.heap.size) :
    Calls Yba.prog 7 #[.pointer (some ⟨sh, 0, none⟩), .string name, .map (some eB)] w fun e w' => e = .returned (.tuple #[]) ∧ IsM Yba.prog 9 w' mbB (nM - 1) (del fM name.data.toList) ∧
      w'.cell? ⟨pB, 5, none⟩ = some (.map none) ∧ Fr (fun i => i = mbB ∨ i = pB) w w' := by
  have hlenS : ∀ ty, (Builtin.len_ #[27] ty #[.map (some sB)]).run Yba.prog w = .ok (.int .i64 (0 : Nat)) w := fun ty => hS.len Yba.underlying27 ty
  go_enter Yba.func7, Yba.ntmps7
  go_wp2_with (first
    | (at_lookup; refine wpList_look _ rfl _ _ 52 rfl 9 38 u9 Yba.underlying52 _ (z38 _) mbB nM fM rfl hM name rfl hname (.pointer (some ⟨mB, 0, none⟩)) (by rw [hMn]; rfl) ?_)
    | (at_delete; refine wpList_dropM _ rfl _ _ 52 9 rfl 38 u9 Yba.underlying52 mbB nM fM rfl hM name rfl hname ?_; intro w1 hM1 hturn
       have j1 : w1.cell? ⟨sh, 2, none⟩ = some (.pointer (some ⟨pB, 0, none⟩)) := by rw [(Fr.turned hturn).cell (p := ⟨sh, 2, none⟩) l1 d1]; exact c1
       have j2 : w1.cell? ⟨pB, 5, none⟩ = some tv := by rw [(Fr.turned hturn).cell (p := ⟨pB, 5, none⟩) l3 d2]; exact c5
       have j3 : w1.frozen? ⟨pB, 5, none⟩ = false := by rw [(Fr.turned hturn).frozen (p := ⟨pB, 5, none⟩) l3 d2]; exact f5)
    | (go_at_call 12; refine (forgetTypes_any pB _ _ j2 j3).mono ?_; rintro e w5 ⟨rfl, rfl⟩)
    | go_in)
  refine bodyPost_ret (results_none rfl _ _ _) rfl ?_
  have hsc := Fr.setCell w1 ⟨pB, 5, none⟩ (.map none)
  refine ⟨rfl, (hM1.fr hsc (fun e => d2 e.symm)).congr (by rw [hMn]; rfl) (fun _ => rfl), World.cell?_setCell_same _ _ _ j2, ?_⟩
  exact ((Fr.turned hturn).mono (fun i e => Or.inl e)).andThen hsc (fun i e => Or.inl (Or.inr e))

end Go.Proofs.Ybulkauyc
