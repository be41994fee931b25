/-
  fmt.Errorf at this program's four formats, fmt.Sprintf at its one, by their contracts: the closed facts are stated as the kit's generated texts state them for a walk over fmt's stopped fronts, at this dump's numbers.
-/
import Derived.Test.YbulkavauFmtRows
import Derived.Stop.CallBack
import Derived.Stop.IfaceNil
import Derived.WalkKit
import Derived.WalkSpells
import Derived.BigCall
namespace Go.Proofs.YbulkavauFmt
open Go Go.RowKit Go.Extern.Stop Go.Stop Go.Extern

theorem call18 (args : Array Value) (w : World) : (callFunc 18 args).run Ybaf.prog w = (FmtCalls.errorf #[9, 49] #[32] args).run Ybaf.prog w :=
  run_callFunc_next Ybaf.func18 (by kernel_rfl) (by kernel_rfl) (by kernel_rfl) args w
theorem call23 (args : Array Value) (w : World) : (callFunc 23 args).run Ybaf.prog w = ((FmtStop.sprintf #[9, 49] #[9] args).run Ybaf.prog w).andThen fun v w' => .ok (.value v) w' :=
  run_callFunc_extern Ybaf.func23 (by kernel_rfl) (by kernel_rfl) (by kernel_rfl) (by kernel_rfl) args w
theorem fguard (name : String) (w : World) : (FmtStop.guard name).run Ybaf.prog w = .ok () w := by kernel_rfl
theorem nextTurns : Extern.next FmtCalls.turnsRow = some (FmtCalls.begun #[] #[]) := by kernel_rfl
theorem nextReturned : Extern.next FmtCalls.returnedRow = some (FmtCalls.returned #[] #[]) := by kernel_rfl
theorem fmt1 : FmtStop.printed? ⟨#[99, 97, 108, 101, 110, 100, 97, 114, 32, 37, 100, 32, 117, 110, 107, 110, 111, 119, 110, 58, 32, 37, 119]⟩ 2 = some [(0, 100, false), (1, 119, false)] := by kernel_rfl
theorem fmt1r (w : World) : (FmtDoors.printed ⟨#[99, 97, 108, 101, 110, 100, 97, 114, 32, 37, 100, 32, 117, 110, 107, 110, 111, 119, 110, 58, 32, 37, 119]⟩ 2).run Ybaf.prog w = .ok [(0, 100, false), (1, 119, false)] w := by kernel_rfl
theorem fmt2 : FmtStop.printed? ⟨#[121, 101, 97, 114, 32, 37, 100, 32, 109, 97, 103, 110, 105, 116, 117, 100, 101, 32, 97, 116, 32, 108, 101, 97, 115, 116, 32, 37, 100, 58, 32, 37, 119]⟩ 3 = some [(0, 100, false), (1, 100, false), (2, 119, false)] := by kernel_rfl
theorem fmt2r (w : World) : (FmtDoors.printed ⟨#[121, 101, 97, 114, 32, 37, 100, 32, 109, 97, 103, 110, 105, 116, 117, 100, 101, 32, 97, 116, 32, 108, 101, 97, 115, 116, 32, 37, 100, 58, 32, 37, 119]⟩ 3).run Ybaf.prog w = .ok [(0, 100, false), (1, 100, false), (2, 119, false)] w := by kernel_rfl
theorem fmt3 : FmtStop.printed? ⟨#[100, 97, 121, 32, 37, 100, 32, 110, 111, 116, 32, 105, 110, 32, 49, 46, 46, 37, 100, 58, 32, 37, 119]⟩ 3 = some [(0, 100, false), (1, 100, false), (2, 119, false)] := by kernel_rfl
theorem fmt3r (w : World) : (FmtDoors.printed ⟨#[100, 97, 121, 32, 37, 100, 32, 110, 111, 116, 32, 105, 110, 32, 49, 46, 46, 37, 100, 58, 32, 37, 119]⟩ 3).run Ybaf.prog w = .ok [(0, 100, false), (1, 100, false), (2, 119, false)] w := by kernel_rfl
theorem fmt4 : FmtStop.printed? ⟨#[97, 114, 109, 105, 108, 108, 97, 114, 121, 58, 32, 100, 97, 121, 32, 37, 100, 32, 111, 102, 32, 37, 118, 32, 121, 101, 97, 114, 32, 37, 100, 58, 32, 37, 119]⟩ 4 = some [(0, 100, false), (1, 118, false), (2, 100, false), (3, 119, false)] := by kernel_rfl
theorem fmt4r (w : World) : (FmtDoors.printed ⟨#[97, 114, 109, 105, 108, 108, 97, 114, 121, 58, 32, 100, 97, 121, 32, 37, 100, 32, 111, 102, 32, 37, 118, 32, 121, 101, 97, 114, 32, 37, 100, 58, 32, 37, 119]⟩ 4).run Ybaf.prog w = .ok [(0, 100, false), (1, 118, false), (2, 100, false), (3, 119, false)] w := by kernel_rfl
theorem fmt5 : FmtStop.printed? ⟨#[67, 97, 108, 101, 110, 100, 97, 114, 40, 37, 100, 41]⟩ 1 = some [(0, 100, false)] := by kernel_rfl
theorem fmt5r (w : World) : (FmtDoors.printed ⟨#[67, 97, 108, 101, 110, 100, 97, 114, 40, 37, 100, 41]⟩ 1).run Ybaf.prog w = .ok [(0, 100, false)] w := by kernel_rfl

def shape3 : List UInt8 := [5, 3, 0, 0, 0, 0, 0, 0, 0, 105, 110, 116]
def shape2 : List UInt8 := [5, 5, 0, 0, 0, 0, 0, 0, 0, 105, 110, 116, 54, 52]
theorem act3_100 (name : String) (x : Value) (w : World) : (FmtCalls.act name false 100 false (.iface 3 x)).run Ybaf.prog w = .ok (.closed false) w := by kernel_rfl
theorem op3_100 (name : String) (x : Int) (w : World) : (FmtStop.operand name false 100 false (.iface 3 (.int .i64 x))).run Ybaf.prog w = .ok (shape3, Go.Extern.Stop.digits 8 (x % 2 ^ 64).toNat) w := by kernel_rfl
theorem act3_100w (name : String) (x : Value) (w : World) : (FmtCalls.act name true 100 false (.iface 3 x)).run Ybaf.prog w = .ok (.closed true) w := by kernel_rfl
theorem op3_100w (name : String) (x : Int) (w : World) : (FmtStop.operand name true 100 false (.iface 3 (.int .i64 x))).run Ybaf.prog w = .ok (shape3, Go.Extern.Stop.digits 8 (x % 2 ^ 64).toNat) w := by kernel_rfl
theorem strict3 (name : String) (x : Int) (w : World) : (FmtStop.strict name (.iface 3 (.int .i64 x))).run Ybaf.prog w = .ok (shape3, Go.Extern.Stop.digits 8 (x % 2 ^ 64).toNat) w := by kernel_rfl
theorem act2_100w (name : String) (x : Value) (w : World) : (FmtCalls.act name true 100 false (.iface 2 x)).run Ybaf.prog w = .ok (.closed true) w := by kernel_rfl
theorem op2_100w (name : String) (x : Int) (w : World) : (FmtStop.operand name true 100 false (.iface 2 (.int .i64 x))).run Ybaf.prog w = .ok (shape2, Go.Extern.Stop.digits 8 (x % 2 ^ 64).toNat) w := by kernel_rfl
theorem act25_118w (name : String) (x : Value) (w : World) : (FmtCalls.act name true 118 false (.iface 25 x)).run Ybaf.prog w = .ok (.call false) w := by kernel_rfl
theorem isString25 (w : World) : (FmtDoors.textMethod 25 "String").run Ybaf.prog w = .ok true w := by kernel_rfl
theorem invokeString25 (x : Value) (w : World) : (invoke (.fn (.method "String") #[]) #[.iface 25 x]).run Ybaf.prog w = .ok (.enter 20 #[x]) w := by kernel_rfl
theorem str25 (w : World) : (typeStr 25).run Ybaf.prog w = .ok "armillary.Calendar" w := by kernel_rfl
theorem act65_119w (name : String) (x : Value) (w : World) : (FmtCalls.act name true 119 false (.iface 65 x)).run Ybaf.prog w = .ok (.closed true) w := by kernel_rfl
theorem act51_119w (name : String) (x : Value) (w : World) : (FmtCalls.act name true 119 false (.iface 51 x)).run Ybaf.prog w = .ok (.closed true) w := by kernel_rfl
theorem ptr51 (w : World) : (FmtStop.ptrTo "fmt.wrapError").run Ybaf.prog w = .ok 51 w := by kernel_rfl
theorem elem51 (w : World) : (elemOf 51).run Ybaf.prog w = .ok 94 w := by kernel_rfl
theorem isError51 (w : World) : (FmtDoors.textMethod 51 "Error").run Ybaf.prog w = .ok true w := by kernel_rfl
theorem isError65 (w : World) : (FmtDoors.textMethod 65 "Error").run Ybaf.prog w = .ok true w := by kernel_rfl
theorem opPlain65 (name : String) (a : Addr) (s : ByteArray) (w : World) (hc : w.cell? a = some (.string s)) :
    (FmtStop.operand name true 119 false (.iface 65 (.pointer (some a)))).run Ybaf.prog w = .ok (14 :: FmtStop.pack Ybaf.t65.str.toUTF8.data.toList, s.data.toList) w := by
  have h1 : (typeStr 65).run Ybaf.prog w = .ok Ybaf.t65.str w := by kernel_rfl
  have d2 : Ybaf.t65.desc = .pointer 67 := rfl
  have d3 : Ybaf.t67.desc = .named "errors.errorString" 66 := rfl
  simp [FmtStop.operand, h1, d2, d3, run_load, hc]
theorem opPlain51 (name : String) (a : Addr) (s : ByteArray) (w : World) (hc : w.cell? a = some (.string s)) :
    (FmtStop.operand name true 119 false (.iface 51 (.pointer (some a)))).run Ybaf.prog w = .ok (14 :: FmtStop.pack Ybaf.t51.str.toUTF8.data.toList, s.data.toList) w := by
  have h1 : (typeStr 51).run Ybaf.prog w = .ok Ybaf.t51.str w := by kernel_rfl
  have d2 : Ybaf.t51.desc = .pointer 94 := rfl
  have d3 : Ybaf.t94.desc = .named "fmt.wrapError" 93 := rfl
  simp [FmtStop.operand, h1, d2, d3, run_load, hc]

attribute [local go_sem] call18 call23 fguard fmt1 fmt1r fmt2 fmt2r fmt3 fmt3r fmt4 fmt4r fmt5 fmt5r act3_100 op3_100 act3_100w op3_100w strict3 act2_100w op2_100w act25_118w isString25 str25 act65_119w act51_119w ptr51 elem51 isError51 isError65

/-- fmt.Errorf at the format of checkCalendar: a number, and the error at a wrapped. -/
theorem errorf1 (F : Interp) (n : Int) (s : ByteArray) (blk : Nat) (a : Addr) (w : World) (hF : F.answers w.tape)
    (hc0 : w.cell? ⟨blk, 0, none⟩ = some (.iface 3 (.int .i64 n))) (hc1 : w.cell? ⟨blk, 1, none⟩ = some (.iface 65 (.pointer (some a)))) (ha : w.cell? a = some (.string s)) :
    Calls Ybaf.prog 10 #[.string ⟨#[99, 97, 108, 101, 110, 100, 97, 114, 32, 37, 100, 32, 117, 110, 107, 110, 111, 119, 110, 58, 32, 37, 119]⟩, .slice (some ⟨blk, 0, none⟩) 2 2] w fun e w' =>
      ∃ t : ByteArray, e = .returned (.iface 51 (.pointer (some ⟨w.heap.size, 0, none⟩))) ∧ w' = (w.alloc (.cells #[.string t, .iface 65 (.pointer (some a))] 94)).drew := by
  have hF' := answers_open hF
  have hop := opPlain65 "fmt.errorf" a s _ ha
  go_enter Ybaf.func10, Ybaf.ntmps10
  go_wp2
  apply rows_value nextTurns
  case hr => go_simp; exact ⟨rfl, rfl⟩
  case h =>
    go_wp2
    go_ret
    exact ⟨_, rfl, rfl⟩

/-- fmt.Errorf at the format of checkYear: two numbers, and the error at a wrapped. -/
theorem errorf2 (F : Interp) (n m : Int) (s : ByteArray) (blk : Nat) (a : Addr) (w : World) (hF : F.answers w.tape)
    (hc0 : w.cell? ⟨blk, 0, none⟩ = some (.iface 3 (.int .i64 n))) (hc1 : w.cell? ⟨blk, 1, none⟩ = some (.iface 2 (.int .i64 m))) (hc2 : w.cell? ⟨blk, 2, none⟩ = some (.iface 65 (.pointer (some a)))) (ha : w.cell? a = some (.string s)) :
    Calls Ybaf.prog 10 #[.string ⟨#[121, 101, 97, 114, 32, 37, 100, 32, 109, 97, 103, 110, 105, 116, 117, 100, 101, 32, 97, 116, 32, 108, 101, 97, 115, 116, 32, 37, 100, 58, 32, 37, 119]⟩, .slice (some ⟨blk, 0, none⟩) 3 3] w fun e w' =>
      ∃ t : ByteArray, e = .returned (.iface 51 (.pointer (some ⟨w.heap.size, 0, none⟩))) ∧ w' = (w.alloc (.cells #[.string t, .iface 65 (.pointer (some a))] 94)).drew := by
  have hF' := answers_open hF
  have hop := opPlain65 "fmt.errorf" a s _ ha
  go_enter Ybaf.func10, Ybaf.ntmps10
  go_wp2
  apply rows_value nextTurns
  case hr => go_simp; exact ⟨rfl, rfl⟩
  case h =>
    go_wp2
    go_ret
    exact ⟨_, rfl, rfl⟩

/-- fmt.Errorf at the format of dateOfYearDay: two numbers, and the error at a wrapped. -/
theorem errorf3 (F : Interp) (n m : Int) (s : ByteArray) (blk : Nat) (a : Addr) (w : World) (hF : F.answers w.tape)
    (hc0 : w.cell? ⟨blk, 0, none⟩ = some (.iface 3 (.int .i64 n))) (hc1 : w.cell? ⟨blk, 1, none⟩ = some (.iface 2 (.int .i64 m))) (hc2 : w.cell? ⟨blk, 2, none⟩ = some (.iface 65 (.pointer (some a)))) (ha : w.cell? a = some (.string s)) :
    Calls Ybaf.prog 10 #[.string ⟨#[100, 97, 121, 32, 37, 100, 32, 110, 111, 116, 32, 105, 110, 32, 49, 46, 46, 37, 100, 58, 32, 37, 119]⟩, .slice (some ⟨blk, 0, none⟩) 3 3] w fun e w' =>
      ∃ t : ByteArray, e = .returned (.iface 51 (.pointer (some ⟨w.heap.size, 0, none⟩))) ∧ w' = (w.alloc (.cells #[.string t, .iface 65 (.pointer (some a))] 94)).drew := by
  have hF' := answers_open hF
  have hop := opPlain65 "fmt.errorf" a s _ ha
  go_enter Ybaf.func10, Ybaf.ntmps10
  go_wp2
  apply rows_value nextTurns
  case hr => go_simp; exact ⟨rfl, rfl⟩
  case h =>
    go_wp2
    go_ret
    exact ⟨_, rfl, rfl⟩

/-- (Calendar).String: some text. -/
theorem string_any (F : Interp) (c : Int) (w : World) (hF : F.answers w.tape) :
    Calls Ybaf.prog 20 #[.int .i64 c] w fun e w' => ∃ s : ByteArray, e = .returned (.string s) ∧ Below w.heap.size w w' := by
  have hF' := answers_open hF
  by_cases h0 : c = 0
  · subst h0
    go_enter Ybaf.func20, Ybaf.ntmps20
    go_wp2
    go_ret
    exact ⟨_, rfl, Below.refl _ _⟩
  by_cases h1 : c = 1
  · subst h1
    go_enter Ybaf.func20, Ybaf.ntmps20
    go_wp2
    go_ret
    exact ⟨_, rfl, Below.refl _ _⟩
  by_cases h2 : c = 2
  · subst h2
    go_enter Ybaf.func20, Ybaf.ntmps20
    go_wp2
    go_ret
    exact ⟨_, rfl, Below.refl _ _⟩
  have e0 : (c == 0) = false := by simp [h0]
  have e1 : (c == 1) = false := by simp [h1]
  have e2 : (c == 2) = false := by simp [h2]
  clear h0 h1 h2
  go_enter Ybaf.func20, Ybaf.ntmps20
  go_wp2
  go_ret
  exact ⟨_, rfl, ((Below.refl _ _).alloc (Nat.le_refl _) _).drew⟩

/-- fmt.Errorf at the format of DateOfYearDay: a number, a calendar, a number, and the error at a wrapped. -/
theorem errorf4 (F : Interp) (yd c y : Int) (s : ByteArray) (blk : Nat) (a : Addr) (w : World) (hF : F.answers w.tape)
    (hc0 : w.cell? ⟨blk, 0, none⟩ = some (.iface 3 (.int .i64 yd))) (hc1 : w.cell? ⟨blk, 1, none⟩ = some (.iface 25 (.int .i64 c))) (hc2 : w.cell? ⟨blk, 2, none⟩ = some (.iface 3 (.int .i64 y)))
    (hc3 : w.cell? ⟨blk, 3, none⟩ = some (.iface 51 (.pointer (some a)))) (ha : w.cell? a = some (.string s)) :
    Calls Ybaf.prog 10 #[.string ⟨#[97, 114, 109, 105, 108, 108, 97, 114, 121, 58, 32, 100, 97, 121, 32, 37, 100, 32, 111, 102, 32, 37, 118, 32, 121, 101, 97, 114, 32, 37, 100, 58, 32, 37, 119]⟩, .slice (some ⟨blk, 0, none⟩) 4 4] w fun e w' =>
      ∃ (t : ByteArray) (w3 : World), Below w.heap.size w w3 ∧ e = .returned (.iface 51 (.pointer (some ⟨w3.heap.size, 0, none⟩))) ∧ w' = (w3.alloc (.cells #[.string t, .iface 51 (.pointer (some a))] 94)).drew := by
  have hF' := answers_open hF
  have hb : blk < w.heap.size := World.block_lt_of_cell? _ _ hc0
  have hab : a.block < w.heap.size := World.block_lt_of_cell? _ _ ha
  go_enter Ybaf.func10, Ybaf.ntmps10
  go_wp2
  apply rows_call nextTurns
  case hr =>
    go_simp
    exact ⟨⟨rfl, rfl, rfl⟩, rfl⟩
  case hi => exact invokeString25 _ _
  case hc =>
    refine (string_any F c _ (by exact hF)).mono fun e w3 ⟨s1, he, hx⟩ => ?_
    subst he
    have hF3 : F.answers w3.tape := by rw [hx.tape]; exact hF
    have hF3' := answers_open hF3
    have k0 : w3.cell? ⟨blk, 0, none⟩ = some (.iface 3 (.int .i64 yd)) := by rw [hx.cell hb]; exact hc0
    have k1 : w3.cell? ⟨blk, 1, none⟩ = some (.iface 25 (.int .i64 c)) := by rw [hx.cell hb]; exact hc1
    have k2 : w3.cell? ⟨blk, 2, none⟩ = some (.iface 3 (.int .i64 y)) := by rw [hx.cell hb]; exact hc2
    have k3 : w3.cell? ⟨blk, 3, none⟩ = some (.iface 51 (.pointer (some a))) := by rw [hx.cell hb]; exact hc3
    have ka : w3.cell? a = some (.string s) := by rw [hx.cell hab]; exact ha
    have hop := opPlain51 "fmt.errorf" a s _ ka
    apply rows_value nextReturned
    case hr =>
      go_simp
      exact ⟨rfl, rfl⟩
    case h =>
      go_wp2
      go_ret
      exact ⟨_, w3, hx, rfl, rfl⟩

end Go.Proofs.YbulkavauFmt
