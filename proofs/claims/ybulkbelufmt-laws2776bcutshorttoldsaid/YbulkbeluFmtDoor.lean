/-
  fmt.Errorf("record %d is cut short: %w", n, e), e of errors.New's make, BY ITS CONTRACT, for every F: the guide's worked SentryFmt.lean and HexbadFmt.lean (a stop that calls) turned to this dump's numbers. 3: int, 20: interface{}, 62: []interface{}, 134: fmt.wrapError. Functions: 9 fmt.Errorf, 16 fmt.errorf (stopped).
-/
import Derived.Test.YbulkbeluFmtChecked
import Derived.Stop.CallBack
import Derived.Stop.IfaceNil
import GoSem.ClaimData
import Derived.WalkKit
import Derived.WalkSpells
namespace Go.Proofs.YbulkbeluFmt
open Go.RowKit Go.Extern.Stop Go.Stop Go.Extern

theorem call16 (args : Array Value) (w : World) : (callFunc 16 args).run Ybaf.prog w = (FmtCalls.errorf #[9, 62] #[33] args).run Ybaf.prog w :=
  run_callFunc_next Ybaf.func16 (by kernel_rfl) (by kernel_rfl) (by kernel_rfl) args w
theorem guard (name : String) (w : World) : (FmtStop.guard name).run Ybaf.prog w = .ok () w := by kernel_rfl
theorem nextTurns : Extern.next FmtCalls.turnsRow = some (FmtCalls.begun #[] #[]) := by kernel_rfl
-- "record %d is cut short: %w"
abbrev fmtB : ByteArray := ⟨#[114, 101, 99, 111, 114, 100, 32, 37, 100, 32, 105, 115, 32, 99, 117, 116, 32, 115, 104, 111, 114, 116, 58, 32, 37, 119]⟩
theorem fmt0 : FmtStop.printed? ⟨#[114, 101, 99, 111, 114, 100, 32, 37, 100, 32, 105, 115, 32, 99, 117, 116, 32, 115, 104, 111, 114, 116, 58, 32, 37, 119]⟩ 2 = some [(0, 100, false), (1, 119, false)] := by kernel_rfl
theorem fmt0r (w : World) : (FmtDoors.printed ⟨#[114, 101, 99, 111, 114, 100, 32, 37, 100, 32, 105, 115, 32, 99, 117, 116, 32, 115, 104, 111, 114, 116, 58, 32, 37, 119]⟩ 2).run Ybaf.prog w = .ok [(0, 100, false), (1, 119, false)] w := by kernel_rfl
theorem fmt1 : FmtStop.printed? ⟨#[114, 101, 99, 111, 114, 100, 32, 37, 100, 32, 105, 115, 32, 99, 117, 116, 32, 115, 104, 111, 114, 116, 58, 32, 37, 119]⟩ 0 = some [] := by kernel_rfl
theorem fmt1r (w : World) : (FmtDoors.printed ⟨#[114, 101, 99, 111, 114, 100, 32, 37, 100, 32, 105, 115, 32, 99, 117, 116, 32, 115, 104, 111, 114, 116, 58, 32, 37, 119]⟩ 0).run Ybaf.prog w = .ok [] w := by kernel_rfl
def shape3 : List UInt8 := [5, 3, 0, 0, 0, 0, 0, 0, 0, 105, 110, 116]
theorem act3_100w (name : String) (x : Value) (w : World) : (FmtCalls.act name true 100 false (.iface 3 x)).run Ybaf.prog w = .ok (.closed true) w := by kernel_rfl
theorem op3_100w (name : String) (x : Int) (w : World) : (FmtStop.operand name true 100 false (.iface 3 (.int .i64 x))).run Ybaf.prog w = .ok (shape3, Go.Extern.Stop.digits 8 (x % 2 ^ 64).toNat) w := by kernel_rfl
theorem strict3 (name : String) (x : Int) (w : World) : (FmtStop.strict name (.iface 3 (.int .i64 x))).run Ybaf.prog w = .ok (shape3, Go.Extern.Stop.digits 8 (x % 2 ^ 64).toNat) w := by kernel_rfl
theorem str3 (w : World) : (typeStr 3).run Ybaf.prog w = .ok "int" w := by kernel_rfl
theorem ptr79 (w : World) : (FmtStop.ptrTo "errors.errorString").run Ybaf.prog w = .ok 79 w := by kernel_rfl
theorem elem79 (w : World) : (elemOf 79).run Ybaf.prog w = .ok 81 w := by kernel_rfl
theorem isError79 (w : World) : (FmtDoors.textMethod 79 "Error").run Ybaf.prog w = .ok true w := by kernel_rfl
theorem str79 (w : World) : (typeStr 79).run Ybaf.prog w = .ok "*errors.errorString" w := by kernel_rfl
def plain79 : List UInt8 := 14 :: FmtStop.pack "*errors.errorString".toUTF8.data.toList
theorem actPlain79_119w (name : String) (x : Value) (w : World) : (FmtCalls.act name true 119 false (.iface 79 x)).run Ybaf.prog w = .ok (.closed true) w := by kernel_rfl
theorem opPlain79_119w (name : String) (a : Addr) (s : ByteArray) (w : World) (hc : w.cell? a = some (.string s)) :
    (FmtStop.operand name true 119 false (.iface 79 (.pointer (some a)))).run Ybaf.prog w = .ok (plain79, s.data.toList) w := by
  have h1 : (typeStr 79).run Ybaf.prog w = .ok "*errors.errorString" w := by kernel_rfl
  have d2 : Ybaf.t79.desc = .pointer 81 := rfl
  have d3 : Ybaf.t81.desc = .named "errors.errorString" 80 := rfl
  simp [FmtStop.operand, h1, d2, d3, run_load, hc, plain79]
theorem ptr64 (w : World) : (FmtStop.ptrTo "fmt.wrapError").run Ybaf.prog w = .ok 64 w := by kernel_rfl
theorem elem64 (w : World) : (elemOf 64).run Ybaf.prog w = .ok 134 w := by kernel_rfl
theorem isError64 (w : World) : (FmtDoors.textMethod 64 "Error").run Ybaf.prog w = .ok true w := by kernel_rfl

attribute [local go_sem] call16 guard fmt0 fmt0r fmt1 fmt1r act3_100w op3_100w strict3 str3 ptr79 elem79 isError79 str79 actPlain79_119w ptr64 elem64 isError64

set_option maxHeartbeats 800000 in
theorem errorf9 (F : Interp) (n : Int) (a : Addr) (s : ByteArray) (vb : Nat) (w : World) (hF : F.answers w.tape)
    (h0 : w.cell? ⟨vb, 0, none⟩ = some (.iface 3 (.int .i64 n))) (h1 : w.cell? ⟨vb, 1, none⟩ = some (.iface 79 (.pointer (some a)))) (hs : w.cell? a = some (.string s)) :
    Calls Ybaf.prog 9 #[.string fmtB, .slice (some ⟨vb, 0, none⟩) 2 2] w fun e w' => e = .returned (.iface 64 (.pointer (some ⟨w.heap.size, 0, none⟩))) ∧
      ∃ t, w' = (w.alloc (.cells #[.string t, .iface 79 (.pointer (some a))] 134)).drew := by
  have hF' := answers_open hF
  have hop := opPlain79_119w "fmt.errorf" a s w hs
  go_enter Ybaf.func9, Ybaf.ntmps9
  go_wp2
  apply rows_value nextTurns
  case hr =>
    go_simp
    exact ⟨rfl, rfl⟩
  case h =>
    go_wp2
    go_ret
    exact ⟨rfl, _, rfl⟩

end Go.Proofs.YbulkbeluFmt
