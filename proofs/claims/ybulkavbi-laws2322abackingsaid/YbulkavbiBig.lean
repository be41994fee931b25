/-
  The engine's literal: a struct of many cells, of which the law reads four.
-/
import Derived.Test.YbulkavbiParts
namespace Go.Proofs.Ybulkavbi
open Go Go.RowKit

theorem wp_build_to {P : Program} {o : Oper} {a : Act} {w : World} {K : Act → World → Prop} {Q : Exit → Act → World → Prop} (t : TypeId) (parts : Array (Nat × Operand)) (ho : o.op = .build t parts)
    (vs : Array (Nat × Value)) (hv : (parts.map fun (i, x) => (i, a.eval x)) = vs) (c : Array Value) (hb : P.built t vs.toList = some c)
    (h : K (a.put o.dst (.agg c)) w) : o.wp P a w K Q := by
  subst hv
  refine wp_build t parts ho (by rw [hb]; rfl) ?_
  rw [hb]
  exact h

theorem build99 (pa qa fa : Addr) (n m : Nat) (run : Int) :
    ∃ c : Array Value, Yba.prog.built 99 [(0, .pointer (some pa)), (3, .slice (some qa) n m), (5, .int .i64 run), (37, .agg #[.pointer (some fa), .int .i64 0, .int .i64 0])] = some c ∧
      c[0]? = some (.pointer (some pa)) ∧ c[3]? = some (.slice (some qa) n m) ∧ c[5]? = some (.int .i64 run) ∧ c[53]? = some (.pointer (some fa)) := by
  have h : (Yba.prog.built 99 [(0, .pointer (some pa)), (3, .slice (some qa) n m), (5, .int .i64 run), (37, .agg #[.pointer (some fa), .int .i64 0, .int .i64 0])]).map (fun c => (c[0]?, c[3]?, c[5]?, c[53]?)) =
      some (some (.pointer (some pa)), some (.slice (some qa) n m), some (.int .i64 run), some (.pointer (some fa))) := by kernel_rfl
  obtain ⟨c, hc, he⟩ := Option.map_eq_some_iff.1 h
  simp only [Prod.mk.injEq] at he
  exact ⟨c, hc, he.1, he.2.1, he.2.2.1, he.2.2.2⟩

end Go.Proofs.Ybulkavbi
