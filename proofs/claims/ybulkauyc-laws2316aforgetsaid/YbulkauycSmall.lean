/-
  The two leaves: zzs2316akey and forgetTypes.
-/
import Derived.Test.YbulkauycRows
import Derived.Test.YbulkauycMaps
namespace Go.Proofs.Ybulkauyc
open Go Go.Maps Go.RowKit

/-- The key's one byte. -/
def kb (k : Nat) : UInt8 := if k = 0 then 97 else if k = 1 then 98 else if k = 2 then 99 else 100
def keyS (k : Nat) : ByteArray := ⟨#[kb k]⟩
theorem keyS_data (k : Nat) : (keyS k).data.toList = [kb k] := rfl
theorem keyS_size (k : Nat) : (keyS k).size ≤ maxLen := by show (1 : Nat) ≤ maxLen; decide
theorem kb_inj {i j : Nat} (hi : i < 4) (hj : j < 4) (h : kb i = kb j) : i = j := by
  have : ∀ i < 4, ∀ j < 4, kb i = kb j → i = j := by decide
  exact this i hi j hj h

theorem key_any (k : Nat) (hk : k < 4) (w : World) : Calls Yba.prog 6 #[.int .i64 k] w fun e w' => e = .returned (.string (keyS k)) ∧ w' = w := by
  have h4 : k = 0 ∨ k = 1 ∨ k = 2 ∨ k = 3 := by omega
  rcases h4 with rfl | rfl | rfl | rfl
  all_goals
    go_enter Yba.func6, Yba.ntmps6
    go_wp2
    go_ret
    exact ⟨rfl, rfl⟩

theorem forgetTypes_any (pB : Nat) (v : Value) (w : World) (hc : w.cell? ⟨pB, 5, none⟩ = some v) (hf : w.frozen? ⟨pB, 5, none⟩ = false) :
    Calls Yba.prog 12 #[.pointer (some ⟨pB, 0, none⟩)] w fun e w' => e = .returned (.tuple #[]) ∧ w' = w.setCell ⟨pB, 5, none⟩ (.map none) := by
  go_enter Yba.func12, Yba.ntmps12
  go_wp2
  go_end0
  exact ⟨rfl, rfl⟩

end Go.Proofs.Ybulkauyc
