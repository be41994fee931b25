/-
  The proof of Rows.LawS2322ABackingSaid. The frame is the kit's shell for such rows, turned by hand to a slice of structs.
-/
import Derived.Test.YbulkavbiRows
import Derived.WalkKit
import Derived.ProofKit
import Derived.OpenShut
import Derived.ChangeOld
import Derived.Below
import Derived.SizedLaws
import Derived.Deep.Slices
import Derived.Test.YbulkavbiLaw
namespace Go.Proofs.Ybulkavbi.lawS2322ABacking
open Go.ChangeShapes Go.WideShapes Go.ChangeAt Go.RowKit Go.Deep
set_option linter.unusedVariables false

theorem own : ownKnob Yba.prog.godebug = none := by kernel_rfl
theorem laidOut : laidOutB Yba.prog = true := by kernel_rfl
theorem cells32 : Yba.prog.cellsOf 32 = 4 := by kernel_rfl
theorem cells30 : Yba.prog.cellsOf 30 = 1 := by kernel_rfl
theorem cells4 : Yba.prog.cellsOf 4 = 1 := by kernel_rfl
theorem cells5 : Yba.prog.cellsOf 5 = 1 := by kernel_rfl
theorem cells21 : Yba.prog.cellsOf 21 = 1 := by kernel_rfl

set_option maxRecDepth 100000 in
theorem law_big (ad : Option Addr) (len cap : Nat) (q run mc fh : Int) (w : World) (hl : 1024 < len) :
    Calls Yba.prog 3 #[.slice ad len cap, .int .i64 q, .int .i64 run, .int .i32 mc, .int .i32 fh] w fun e w' => e = .returned (.bool true) ∧ Below w.heap.size w w' := by
  have hd : decide ((1024 : Int) < (len : Int)) = true := by simp; omega
  go_enter Yba.func3, Yba.ntmps3
  go_wp2_with fail
  go_ret
  exact ⟨rfl, Below.refl _ _⟩

set_option maxRecDepth 100000 in
/-- One element's cells. -/
theorem elem32 {H : Type} {enc : TypeId × Value → H} {w : World} {base : Nat} {spare : Nat → Bool} {held : Bool} {fuel : Nat} {cs : List Value} {y : DataW H × List MemPlace} (h : DataW.trod enc Yba.prog w base spare held fuel 32 cs = some y) :
    ∃ s c r x, cs = [.int .u32 s, .bool c, .int .u8 r, .int .i32 x] ∧ (Lit.int .u32 s).wf = true ∧ (Lit.int .u8 r).wf = true ∧ (Lit.int .i32 x).wf = true := by
  obtain ⟨xs, n, _, _, hl, hlen, hf⟩ := DataW.trod_struct Yba.underlying32 h
  rw [cells32] at hl
  match cs, hl, xs, hlen with
  | [c0, c1, c2, c3], _, [y0, y1, y2, y3], _ =>
    have f0 : DataW.trod enc Yba.prog w base spare held n 30 (([c0, c1, c2, c3].drop 0).take (Yba.prog.cellsOf 30)) = some y0 := hf 0 _ rfl
    have f1 : DataW.trod enc Yba.prog w base spare held n 4 (([c0, c1, c2, c3].drop 1).take (Yba.prog.cellsOf 4)) = some y1 := hf 1 _ rfl
    have f2 : DataW.trod enc Yba.prog w base spare held n 5 (([c0, c1, c2, c3].drop 2).take (Yba.prog.cellsOf 5)) = some y2 := hf 2 _ rfl
    have f3 : DataW.trod enc Yba.prog w base spare held n 21 (([c0, c1, c2, c3].drop 3).take (Yba.prog.cellsOf 21)) = some y3 := hf 3 _ rfl
    rw [cells30] at f0
    rw [cells4] at f1
    rw [cells5] at f2
    rw [cells21] at f3
    obtain ⟨s, e0, _, w0⟩ := DataW.trod_int Yba.underlying30 f0
    obtain ⟨c, e1, _⟩ := DataW.trod_bool Yba.underlying4 f1
    obtain ⟨r, e2, _, w2⟩ := DataW.trod_int Yba.underlying5 f2
    obtain ⟨x, e3, _, w3⟩ := DataW.trod_int Yba.underlying21 f3
    simp at e0 e1 e2 e3
    subst e0 e1 e2 e3
    exact ⟨s, c, r, x, rfl, w0, w2, w3⟩

set_option maxRecDepth 100000 in
/-- WHAT THE WALK IS TOLD OF THE SLICE. -/
theorem arg_at {H : Type} {enc : TypeId × Value → H} {w : World} {base : Nat} {spare : Nat → Bool} {held : Bool} {fuel : Nat} {a : Option Addr} {len cap : Nat} {x : DataW H × List MemPlace}
    (h : DataW.trod enc Yba.prog w base spare held fuel 22 [.slice a len cap] = some x) : ∃ z : Raw, z.Ok ∧ ArgAt w a len z := by
  rcases open_slice Yba.underlying22 h with ⟨hcs, _⟩ | ⟨ad, l, c, m, n, D, Pl, hcs, _, hlc, _, hm, _, hel⟩
  · simp at hcs
    obtain ⟨rfl, rfl, rfl⟩ := hcs
    exact ⟨⟨fun _ => 0, fun _ => false, fun _ => 0, fun _ => 0⟩, ⟨fun _ => (by decide : (0 : Int) ≤ 0 ∧ (0 : Int) ≤ 4294967295), fun _ => (by decide : (0 : Int) ≤ 0 ∧ (0 : Int) ≤ 255), fun _ => (by decide : (-2147483648 : Int) ≤ 0 ∧ (0 : Int) ≤ 2147483647)⟩, fun i hi => by omega⟩
  · simp at hcs
    obtain ⟨rfl, rfl, rfl⟩ := hcs
    have hlm : len ≤ m := by rw [hm]; split <;> omega
    have hall : ∀ i, i < len → ∃ p : Int × Bool × Int × Int, (∃ b off, ad = ⟨b, off, none⟩ ∧ w.cell? ⟨b, off + i * 4, none⟩ = some (.int .u32 p.1) ∧ w.cell? ⟨b, off + i * 4 + 1, none⟩ = some (.bool p.2.1) ∧ w.cell? ⟨b, off + i * 4 + 2, none⟩ = some (.int .u8 p.2.2.1) ∧ w.cell? ⟨b, off + i * 4 + 3, none⟩ = some (.int .i32 p.2.2.2)) ∧
        (Lit.int .u32 p.1).wf = true ∧ (Lit.int .u8 p.2.2.1).wf = true ∧ (Lit.int .i32 p.2.2.2).wf = true := by
      intro i hi
      obtain ⟨cs', h1, h2⟩ := hel i (by omega)
      obtain ⟨s, c, r, x, rfl, w0, w2, w3⟩ := elem32 h2
      rw [cells32] at h1
      obtain ⟨_, _, hc⟩ := World.cells?_some h1
      have hspot0 : ad.spot = none := by
        obtain ⟨cs0, h10, h20⟩ := hel 0 (by omega)
        obtain ⟨s0, c0, r0, x0, rfl, _, _, _⟩ := elem32 h20
        rw [cells32] at h10
        obtain ⟨_, _, hc0⟩ := World.cells?_some h10
        simpa [Addr.add] using World.cell?_spot (hc0 0 (by omega))
      obtain ⟨b, off, spot⟩ := ad
      have hspot : spot = none := hspot0
      subst hspot
      have e : ∀ j, ((⟨b, off, none⟩ : Addr).add (i * 4)).add j = ⟨b, off + i * 4 + j, none⟩ := fun j => by rw [Go.WideShapes.add_plain, Go.WideShapes.add_plain]
      have q0 := hc 0 (by omega)
      have q1 := hc 1 (by omega)
      have q2 := hc 2 (by omega)
      have q3 := hc 3 (by omega)
      rw [e] at q0 q1 q2 q3
      exact ⟨(s, c, r, x), ⟨b, off, rfl, q0, q1, q2, q3⟩, w0, w2, w3⟩
    obtain ⟨V, hV⟩ := choose_lt hall
    refine ⟨⟨fun i => if i < len then (V i).1 else 0, fun i => (V i).2.1, fun i => if i < len then (V i).2.2.1 else 0, fun i => if i < len then (V i).2.2.2 else 0⟩, ⟨?_, ?_, ?_⟩, ?_⟩
    · intro i
      show 0 ≤ (if i < len then (V i).1 else 0) ∧ (if i < len then (V i).1 else 0) ≤ 4294967295
      split
      · rename_i hi
        exact bounds_u32 (hV i hi).2.1
      · omega
    · intro i
      show 0 ≤ (if i < len then (V i).2.2.1 else 0) ∧ (if i < len then (V i).2.2.1 else 0) ≤ 255
      split
      · rename_i hi
        exact bounds_u8 (hV i hi).2.2.1
      · omega
    · intro i
      show -2147483648 ≤ (if i < len then (V i).2.2.2 else 0) ∧ (if i < len then (V i).2.2.2 else 0) ≤ 2147483647
      split
      · rename_i hi
        exact bounds_i32 (hV i hi).2.2.2
      · omega
    · intro i hi
      obtain ⟨⟨b, off, rfl, q0, q1, q2, q3⟩, _⟩ := hV i hi
      refine ⟨b, off, rfl, ?_, q1, ?_, ?_⟩
      · simp only [hi, if_true]
        exact q0
      · simp only [hi, if_true]
        exact q2
      · simp only [hi, if_true]
        exact q3

theorem walk (a0 : Option Addr) (len cap : Nat) (z : Raw) (q run mc fh : Int) (w : World) (hz : z.Ok) (hA : ArgAt w a0 len z) (w2 : (Lit.int .i64 run).wf = true) (w3 : (Lit.int .i32 mc).wf = true) (w4 : (Lit.int .i32 fh).wf = true) :
    Calls Yba.prog 3 #[.slice a0 len cap, .int .i64 q, .int .i64 run, .int .i32 mc, .int .i32 fh] w fun e w' => e = .returned (.bool true) ∧ Below w.heap.size w w' := by
  by_cases hbig : 1024 < len
  · exact law_big a0 len cap q run mc fh w hbig
  · exact law_any a0 len cap z q run mc fh w hz hA (by omega) (bounds_i64 w2) (bounds_i32 w3) (bounds_i32 w4)

set_option maxRecDepth 100000 in
theorem lifted (os : Os) (started : os.Started) (H : Type) (enc : TypeId × Value → H) :
    ReturnsInHanded {} Yba.checked os 3 .any (Rows.lawS2322ABackingSpec.pre6 enc Yba.prog Yba.f3 Rows.lawS2322ABackingRow.domain false) (Rows.lawS2322ABackingSpec.post enc Yba.prog Yba.f3 false true false false) := by
  refine returnsInHanded_of_change_sized (C := Yba.checked) own started (by kernel_rfl) Yba.func3
    (ChangeSpec.witness6 (enc := enc) (C := Yba.checked) false ⟨#[], #[.slice none 0 0, .int .i64 0, .int .i64 0, .int .i32 0, .int .i32 0], []⟩ 8 (by kernel_rfl) (by kernel_rfl) (by kernel_rfl) (by kernel_rfl)) ?_
  intro W base args ds gs before hval0 hW hcnd hsz _
  have hval : ∀ (j : Nat) t v, Yba.f3.params[j]? = some t → args[j]? = some v → Value.okWide Yba.prog W .any base t v := hval0
  have hW' := hW
  obtain ⟨p, q, hA0, hV, rfl, hfz, hnd⟩ := hW
  have hA : DataW.TrodAll enc Yba.prog W 0 (fun _ => true) true Yba.f3.params.toList args.toList ds p := hA0
  rw [Yba.params3] at hA hval
  obtain ⟨v0, vs0, d0, ds0, p0, q0, hargs, rfl, rfl, h0, r0⟩ := trodAll_cons hA
  obtain ⟨v1, vs1, d1, ds1, p1, q1, rfl, rfl, rfl, h1, r1⟩ := trodAll_cons r0
  obtain ⟨v2, vs2, d2, ds2, p2, q2, rfl, rfl, rfl, h2, r2⟩ := trodAll_cons r1
  obtain ⟨v3, vs3, d3, ds3, p3, q3, rfl, rfl, rfl, h3, r3⟩ := trodAll_cons r2
  obtain ⟨v4, vs4, d4, ds4, p4, q4, rfl, rfl, rfl, h4, r4⟩ := trodAll_cons r3
  obtain ⟨rfl, rfl, rfl⟩ := trodAll_nil r4
  obtain rfl : args = #[v0, v1, v2, v3, v4] := by cases args; simp_all
  obtain ⟨rfl, rfl⟩ := trodVars_none hV
  obtain ⟨a0, len, cap, rfl⟩ := okWide_slice Yba.underlying22 (hval 0 22 v0 rfl rfl)
  have k0 := h0
  have lt0 : ∀ x ∈ p0, x.block < W.heap.size := by obtain ⟨m, hm⟩ := k0; exact DataW.trod_lt m _ _ _ hm
  obtain ⟨z, hz, hAr⟩ : ∃ z : Raw, z.Ok ∧ ArgAt W a0 len z := by
    obtain ⟨fuel, hf⟩ := h0
    exact arg_at hf
  obtain ⟨a1, rfl, rfl, rfl, w1⟩ := open_int Yba.underlying2 (hval 1 2 v1 rfl rfl) h1
  obtain ⟨a2, rfl, rfl, rfl, w2⟩ := open_int Yba.underlying2 (hval 2 2 v2 rfl rfl) h2
  obtain ⟨a3, rfl, rfl, rfl, w3⟩ := open_int Yba.underlying21 (hval 3 21 v3 rfl rfl) h3
  obtain ⟨a4, rfl, rfl, rfl, w4⟩ := open_int Yba.underlying21 (hval 4 21 v4 rfl rfl) h4
  clear hA0 hval0
  refine (walk a0 len cap z a1 a2 a3 a4 W hz hAr w2 w3 w4).mono fun e W' ⟨he, bel⟩ => ?_
  subst he
  exact ⟨_, rfl, _, _, _, [], _, [], hW', trodAll_mk1 (shut_bool Yba.underlying4 _), (trodAll_cons_mk (Below.trod laidOut (by kernel_rfl) (of_decide_eq_true (by kernel_rfl)) k0 bel lt0) (trodAll_cons_mk (shut_int Yba.underlying2 w1) (trodAll_cons_mk (shut_int Yba.underlying2 w2) (trodAll_cons_mk (shut_int Yba.underlying21 w3) (trodAll_cons_mk (shut_int Yba.underlying21 w4) trodAll_mk0))))), rfl, bel.frame _, fun h => by cases h⟩

theorem over : Rows.lawS2322ABackingRow.holds Yba.pinned (OpenSpec.ofChange Rows.lawS2322ABackingSpec) :=
  OpenClaim.holds_of_wide 3 Yba.f3 rfl rfl rfl rfl rfl rfl rfl ⟨rfl, rfl, rfl, rfl, rfl⟩ rfl rfl rfl rfl rfl (by kernel_rfl) Yba.func3 (by kernel_rfl)
    (of_decide_eq_true (by kernel_rfl)) (by unfold Func.isWrapper; first | (rw [if_pos (by decide +kernel)]; kernel_rfl) | (rw [if_neg (by decide +kernel)]; exact ⟨rfl, rfl⟩))
    (fun os started H enc _ => lifted os started H enc)

/-- THE STATEMENT. -/
theorem proved : Rows.LawS2322ABackingSaid := over
end Go.Proofs.Ybulkavbi.lawS2322ABacking
