/-
  The proof of Rows.LawS2321AReformToldSaid: the row's step after the kit's worked texts for two sentinels (errors.Is) and for a row that tells fmt's texts; the walk is reform_any. The card is closed by the builder for a told and tied row.
-/
import Derived.Test.YbulkavauFmtCheck3
import Derived.Test.YbulkavauFmtTie
import Derived.Test.YbulkavauFmtCards
import Derived.ProofKit
import Derived.Stop.JoinedAt
import Derived.Stop.Texts
import Derived.Stop.LaidErr
import Derived.Stop.LaidTwo
import Derived.Stop.JoinedTold
import Derived.SevenTiedAt
import Derived.WalkSmall
import Derived.OpenShut
namespace Go.Proofs.YbulkavauFmt.lawS2321AReform
open Go.ChangeShapes Go.WideShapes Go.ChangeAt Go.RowKit Go.Kit
open Go.Extern.Stop Go.Stop Go.Extern

theorem own : ownKnob Ybaf.prog.godebug = none := by kernel_rfl
theorem laidOut : laidOutB Ybaf.pinned.checked.prog = true := by kernel_rfl
theorem stops : Ybaf.pinned.checked.prog.stops = Rows.lawS2321AReformRow.stops := by kernel_rfl
theorem stopKnobs : Ybaf.pinned.checked.prog.stopKnobs = [] := by kernel_rfl
theorem quiet (os : Os) : Stop.quiet Ybaf.pinned.checked.prog os := by
  intro k hk
  rw [stopKnobs] at hk
  cases hk
/-- The names of the two variables. -/
def n0 : String := Rows.lawS2321AReformSpec.vars.getD 0 ""
def n1 : String := Rows.lawS2321AReformSpec.vars.getD 1 ""
theorem gN : Ybaf.prog.globalNamed n0 = some 0 := by kernel_rfl
theorem gH : Ybaf.prog.globalNamed n1 = some 1 := by kernel_rfl
theorem gNType : (Ybaf.prog.globals[0]?).map (·.type) = some 32 := by kernel_rfl
theorem gHType : (Ybaf.prog.globals[1]?).map (·.type) = some 32 := by kernel_rfl
theorem cells67 : Ybaf.prog.cellsOf 67 = 1 := by kernel_rfl
theorem cells9 : Ybaf.prog.cellsOf 9 = 1 := by kernel_rfl
theorem row65 (u : TypeId) (h : Ybaf.prog.typeName? 3 u = some Ybaf.t65.str) : u = 65 :=
  typeName_ptr_named (nm := "errors.errorString") (by kernel_rfl) (by kernel_rfl) (by decide) u (h.trans (by kernel_rfl))

theorem laid_met (os : Os) (args : Array Value) : laidMet Ybaf.prog Rows.lawS2321AReformRow.laid (({ (World.holding Ybaf.prog os ⟨#[.cells #[.string ⟨#[118, 97, 108, 117, 101, 32, 111, 117, 116, 32, 111, 102, 32, 114, 97, 110, 103, 101]⟩] 67, .cells #[.string ⟨#[100, 97, 116, 101, 32, 100, 111, 101, 115, 32, 110, 111, 116, 32, 101, 120, 105, 115, 116, 32, 105, 110, 32, 105, 116, 115, 32, 99, 97, 108, 101, 110, 100, 97, 114]⟩] 67], #[], []⟩) with heap := (((World.holding Ybaf.prog os ⟨#[.cells #[.string ⟨#[118, 97, 108, 117, 101, 32, 111, 117, 116, 32, 111, 102, 32, 114, 97, 110, 103, 101]⟩] 67, .cells #[.string ⟨#[100, 97, 116, 101, 32, 100, 111, 101, 115, 32, 110, 111, 116, 32, 101, 120, 105, 115, 116, 32, 105, 110, 32, 105, 116, 115, 32, 99, 97, 108, 101, 110, 100, 97, 114]⟩] 67], #[], []⟩).heap.modify 0 fun
      | .cells _ t frozen => .cells #[.iface 65 (.pointer (some ⟨(World.holding Ybaf.prog default ⟨#[], #[], []⟩).heap.size, 0, none⟩))] t frozen
      | o => o).modify 1 fun
      | .cells _ t frozen => .cells #[.iface 65 (.pointer (some ⟨(World.holding Ybaf.prog default ⟨#[], #[], []⟩).heap.size + 1, 0, none⟩))] t frozen
      | o => o) } : World).forCall (fun _ _ => 0) ⟨#[], args, []⟩).memory :=
  laidMet_of_run (ps := [.cell 0 0, .cell (World.holding Ybaf.prog default ⟨#[], #[], []⟩).heap.size 0, .cell 1 0, .cell ((World.holding Ybaf.prog default ⟨#[], #[], []⟩).heap.size + 1) 0]) 8 (by kernel_rfl) (by kernel_rfl) (by kernel_rfl)

set_option maxRecDepth 100000 in
theorem lifted (os : Os) (started : os.Started) (H : Type) (enc : TypeId × Value → H) :
    ReturnsInTold none {} Ybaf.checked os 4 .any Input.okWide ((OpenSpec.ofChange Rows.lawS2321AReformSpec).preRow enc Ybaf.prog Ybaf.f4 Rows.lawS2321AReformRow.domain false Rows.lawS2321AReformRow.laid) (fun F => ((OpenSpec.ofChange Rows.lawS2321AReformSpec).at F).post enc Ybaf.prog Ybaf.f4 false true false false) (aloneAtReturn Ybaf.prog) nothingAlways := by
  refine returnsInTold_of_row (C := Ybaf.checked) (s := OpenSpec.ofChange Rows.lawS2321AReformSpec) (by kernel_rfl) own started (by kernel_rfl) Ybaf.func4
    (OpenSpec.witness_stopped_at (enc := enc) (C := Ybaf.checked) false ({ (World.holding Ybaf.prog os ⟨#[.cells #[.string ⟨#[118, 97, 108, 117, 101, 32, 111, 117, 116, 32, 111, 102, 32, 114, 97, 110, 103, 101]⟩] 67, .cells #[.string ⟨#[100, 97, 116, 101, 32, 100, 111, 101, 115, 32, 110, 111, 116, 32, 101, 120, 105, 115, 116, 32, 105, 110, 32, 105, 116, 115, 32, 99, 97, 108, 101, 110, 100, 97, 114]⟩] 67], #[], []⟩) with heap := (((World.holding Ybaf.prog os ⟨#[.cells #[.string ⟨#[118, 97, 108, 117, 101, 32, 111, 117, 116, 32, 111, 102, 32, 114, 97, 110, 103, 101]⟩] 67, .cells #[.string ⟨#[100, 97, 116, 101, 32, 100, 111, 101, 115, 32, 110, 111, 116, 32, 101, 120, 105, 115, 116, 32, 105, 110, 32, 105, 116, 115, 32, 99, 97, 108, 101, 110, 100, 97, 114]⟩] 67], #[], []⟩).heap.modify 0 fun
      | .cells _ t frozen => .cells #[.iface 65 (.pointer (some ⟨(World.holding Ybaf.prog default ⟨#[], #[], []⟩).heap.size, 0, none⟩))] t frozen
      | o => o).modify 1 fun
      | .cells _ t frozen => .cells #[.iface 65 (.pointer (some ⟨(World.holding Ybaf.prog default ⟨#[], #[], []⟩).heap.size + 1, 0, none⟩))] t frozen
      | o => o) } : World) #[.int .i8 0, .int .u16 0, .int .u8 0] rfl (by kernel_rfl) (by kernel_rfl) (by kernel_rfl)
      (OpenSpec.preRow_of_B rfl 8 (by kernel_rfl) (by kernel_rfl) (laid_met os _))) ?_
  intro F W base args ds gs before _ hF hval0 hW _ _ _ hL _
  have hval : ∀ (j : Nat) t v, Ybaf.f4.params[j]? = some t → args[j]? = some v → Value.okWide Ybaf.prog W .any base t v := hval0
  have hW' := hW
  obtain ⟨p, q, hA0, hV0, rfl, hfz, hnd⟩ := hW
  have hA : DataW.TrodAll enc Ybaf.prog W 0 (fun _ => true) true Ybaf.f4.params.toList args.toList ds p := hA0
  have hV : DataW.TrodVars enc Ybaf.prog W (fun _ => true) [n0, n1] gs q := hV0
  rw [Ybaf.params4] at hA hval
  obtain ⟨v0, v1, v2, d0, d1, d2, p0, p1, p2, rfl, rfl, rfl, h0, h1, h2⟩ := trodAll_three hA
  obtain ⟨x0, rfl, rfl, rfl, w0⟩ := open_int Ybaf.underlying23 (hval 0 23 v0 rfl rfl) h0
  obtain ⟨x1, rfl, rfl, rfl, w1⟩ := open_int Ybaf.underlying22 (hval 1 22 v1 rfl rfl) h1
  obtain ⟨x2, rfl, rfl, rfl, w2⟩ := open_int Ybaf.underlying5 (hval 2 5 v2 rfl rfl) h2
  have hL' : laidMet Ybaf.prog Rows.lawS2321AReformRow.laid W := hL
  obtain ⟨a0, a1, s0, s1, c0, c1, t0, t1, hv0, hv1, hc0, hs0, hz0, hc1, hs1, hz1, hne, hb0, hb1⟩ := laid_sentinels2 (n0 := n0) (n1 := n1) hL' gN gNType gH gHType Ybaf.underlying32 row65 Ybaf.underlying65 Ybaf.underlying67 rfl rfl Ybaf.underlying9 cells67 cells9
  have vr : ∀ {X : World}, X.var? Ybaf.prog n0 = some #[.iface 65 (.pointer (some a0))] → X.var? Ybaf.prog n1 = some #[.iface 65 (.pointer (some a1))] → ∀ sp : Nat → Bool,
      DataW.TrodVars enc Ybaf.prog X sp [n0, n1] [tok enc (.iface 65 (.pointer (some a0))), tok enc (.iface 65 (.pointer (some a1)))] [.cell 0 0, .cell 1 0] :=
    fun y0 y1 sp => vars_read2 enc gN gNType Ybaf.underlying32 y0 trivial gH gHType Ybaf.underlying32 y1 trivial sp
  obtain ⟨rfl, rfl⟩ := hV.unique (vr hv0 hv1 _)
  clear hA0 hV0 hval0
  have hg0 : W.cell? ⟨0, 0, none⟩ = some (.iface 65 (.pointer (some a0))) := by simpa using World.var?_cell gN hv0 0
  have hg1 : W.cell? ⟨1, 0, none⟩ = some (.iface 65 (.pointer (some a1))) := by simpa using World.var?_cell gH hv1 0
  have b0 := bounds_i8 w0
  have b1 := bounds_u16 w1
  have b2 := bounds_u8 w2
  refine (reform_any F.told x0 x1 x2 a0 a1 s0 s1 W hF ⟨hg0, hg1, hc0, hc1⟩ b1.1 b1.2 b2.1 b2.2 b0.1 b0.2).mono fun e W' ⟨he, bel⟩ => ?_
  subst he
  have hB0 : 0 < W.heap.size := cell_lt hg0
  have hB1 : 1 < W.heap.size := cell_lt hg1
  exact ⟨_, rfl, _, _, _, [], [], [.cell 0 0, .cell 1 0], hW', trodAll_mk1 (shut_bool Ybaf.underlying4 _), trodAll_mk3 (shut_int Ybaf.underlying23 w0) (shut_int Ybaf.underlying22 w1) (shut_int Ybaf.underlying5 w2), vr (var?_below bel gN hB0 hv0) (var?_below bel gH hB1 hv1) _, bel.frame _, fun h => by cases h⟩

/-- THE STATEMENT. -/
theorem proved : Rows.LawS2321AReformToldSaid :=
  Claim7.holds_of_told_tied_any_at .later 4 Ybaf.f4 _ _ [] _ _ _ _ _ (by kernel_rfl) rfl rfl rfl laidOut (by kernel_rfl) rfl ⟨rfl, rfl, rfl, rfl, rfl, rfl, rfl⟩ rfl rfl (by kernel_rfl) (by kernel_rfl) Ybaf.func4 (by kernel_rfl)
    (of_decide_eq_true (by kernel_rfl)) (of_decide_eq_true (by kernel_rfl)) stops.symm rfl stopKnobs.symm (by kernel_rfl)
    (by kernel_rfl) (by kernel_rfl) (by kernel_rfl) (by kernel_rfl) (by kernel_rfl) (by kernel_rfl) (by kernel_rfl) (by kernel_rfl) (by kernel_rfl) rfl (by kernel_rfl) rfl rfl
    rfl rfl
    rfl (by kernel_rfl) (by kernel_rfl) (by kernel_rfl) (by decide) (by kernel_rfl) lawS2321AReform_row_tie
    (OpenClaim.moreEntering_of (by kernel_rfl) (by kernel_rfl) (by kernel_rfl) (by kernel_rfl) (by kernel_rfl) (by kernel_rfl) (by kernel_rfl) (by kernel_rfl) (by kernel_rfl) (by kernel_rfl))
    ⟨_, WideRow.started_initial, quiet _⟩
    (fun os started _ H enc _ => lifted os started H enc)

end Go.Proofs.YbulkavauFmt.lawS2321AReform
