/-
  fmt.Errorf (9) at its two formats here, errors.New (4), Reader.End (12), the closure (5).
-/
import Derived.Test.YbulkbwycFmtRows
import Derived.WalkKit
import Derived.RowKitTokens
import Derived.WalkSpells
import Derived.Stop.CallBack
import Derived.Stop.IfaceNil
import GoSem.ClaimData
import Derived.Deep.QuietTactic
import Derived.BigQuiet
namespace Go.Proofs.YbulkbwycFmt
open Go.RowKit Go.Extern.Stop Go.Stop Go.Extern
set_option linter.unusedVariables false

theorem call13 (args : Array Value) (w : World) : (callFunc 13 args).run Ybaf.prog w = ((FmtStop.errorf #[9, 55] #[33] args).run Ybaf.prog w).andThen fun v w' => .ok (.value v) w' :=
  run_callFunc_extern Ybaf.func13 (by kernel_rfl) (by kernel_rfl) (by kernel_rfl) (by kernel_rfl) args w
theorem guardF (name : String) (w : World) : (FmtStop.guard name).run Ybaf.prog w = .ok () w := by kernel_rfl
theorem fmt0 : FmtStop.printed? ⟨#[37, 115, 32, 105, 115, 32, 109, 105, 115, 115, 105, 110, 103]⟩ 1 = some [(0, 115, false)] := by kernel_rfl
theorem fmt0r (w : World) : (FmtDoors.printed ⟨#[37, 115, 32, 105, 115, 32, 109, 105, 115, 115, 105, 110, 103]⟩ 1).run Ybaf.prog w = .ok [(0, 115, false)] w := by kernel_rfl
theorem fmt1 : FmtStop.printed? ⟨#[37, 115, 58, 32, 37, 119]⟩ 2 = some [(0, 115, false), (1, 119, false)] := by kernel_rfl
theorem fmt1r (w : World) : (FmtDoors.printed ⟨#[37, 115, 58, 32, 37, 119]⟩ 2).run Ybaf.prog w = .ok [(0, 115, false), (1, 119, false)] w := by kernel_rfl
def shape9 : List UInt8 := [12, 6, 0, 0, 0, 0, 0, 0, 0, 115, 116, 114, 105, 110, 103]
theorem op9_115 (name : String) (x : ByteArray) (w : World) : (FmtStop.operand name false 115 false (.iface 9 (.string x))).run Ybaf.prog w = .ok (shape9, FmtStop.pack x.data.toList) w := by kernel_rfl
theorem op9_115w (name : String) (x : ByteArray) (w : World) : (FmtStop.operand name true 115 false (.iface 9 (.string x))).run Ybaf.prog w = .ok (shape9, FmtStop.pack x.data.toList) w := by kernel_rfl
theorem ptr42 (w : World) : (FmtStop.ptrTo "errors.errorString").run Ybaf.prog w = .ok 42 w := by kernel_rfl
theorem elem42 (w : World) : (elemOf 42).run Ybaf.prog w = .ok 44 w := by kernel_rfl
theorem isError42' (w : World) : (FmtDoors.textMethod 42 "Error").run Ybaf.prog w = .ok true w := by kernel_rfl
theorem ptr56 (w : World) : (FmtStop.ptrTo "fmt.wrapError").run Ybaf.prog w = .ok 56 w := by kernel_rfl
theorem elem56 (w : World) : (elemOf 56).run Ybaf.prog w = .ok 91 w := by kernel_rfl
theorem isError56' (w : World) : (FmtDoors.textMethod 56 "Error").run Ybaf.prog w = .ok true w := by kernel_rfl
def plain42 : List UInt8 := 14 :: FmtStop.pack "*errors.errorString".toUTF8.data.toList
theorem opPlain42_119w (name : String) (a : Addr) (s : ByteArray) (w : World) (hc : w.cell? a = some (.string s)) :
    (FmtStop.operand name true 119 false (.iface 42 (.pointer (some a)))).run Ybaf.prog w = .ok (plain42, s.data.toList) w := by
  have h1 : (typeStr 42).run Ybaf.prog w = .ok "*errors.errorString" w := by kernel_rfl
  have d2 : Ybaf.t42.desc = .pointer 44 := rfl
  have d3 : Ybaf.t44.desc = .named "errors.errorString" 43 := rfl
  simp [FmtStop.operand, h1, d2, d3, run_load, hc, plain42]

theorem errorf_missing (F : Interp) (s : ByteArray) (B : Nat) (w : World) (hF : F.answers w.tape) (hc : w.cell? ⟨B, 0, none⟩ = some (.iface 9 (.string s))) :
    Calls Ybaf.prog 9 #[.string ⟨#[37, 115, 32, 105, 115, 32, 109, 105, 115, 115, 105, 110, 103]⟩, .slice (some ⟨B, 0, none⟩) 1 1] w fun e w' =>
      ∃ t : ByteArray, e = .returned (.iface 42 (.pointer (some ⟨w.heap.size, 0, none⟩))) ∧ w' = (w.alloc (.cells #[.string t] 44)).drew := by
  have hF' := answers_open hF
  have h1 := call13
  have h2 := guardF
  have h3 := fmt0
  have h4 := fmt0r
  have h5 := op9_115
  have h6 := op9_115w
  have h7 := ptr42
  have h8 := elem42
  have h9 := isError42'
  go_enter Ybaf.func9, Ybaf.ntmps9
  go_wp2
  go_ret
  exact ⟨_, rfl, rfl⟩

theorem errorf_wrap (F : Interp) (s z : ByteArray) (B : Nat) (a : Addr) (w : World) (hF : F.answers w.tape) (hc0 : w.cell? ⟨B, 0, none⟩ = some (.iface 9 (.string s))) (hc1 : w.cell? ⟨B, 1, none⟩ = some (.iface 42 (.pointer (some a)))) (hz : w.cell? a = some (.string z)) :
    Calls Ybaf.prog 9 #[.string ⟨#[37, 115, 58, 32, 37, 119]⟩, .slice (some ⟨B, 0, none⟩) 2 2] w fun e w' =>
      ∃ t : ByteArray, e = .returned (.iface 56 (.pointer (some ⟨w.heap.size, 0, none⟩))) ∧ w' = (w.alloc (.cells #[.string t, .iface 42 (.pointer (some a))] 91)).drew := by
  have hF' := answers_open hF
  have h1 := call13
  have h2 := guardF
  have h3 := fmt1
  have h4 := fmt1r
  have h5 := op9_115
  have h6 := op9_115w
  have h7 := ptr56
  have h8 := elem56
  have h9 := isError56'
  have h11 := isError42'
  have h10 := opPlain42_119w "fmt.errorf" a z w hz
  go_enter Ybaf.func9, Ybaf.ntmps9
  go_wp2
  go_ret
  exact ⟨_, rfl, rfl⟩

theorem new4 (s : ByteArray) (w : World) :
    Calls Ybaf.prog 4 #[.string s] w fun e w' => e = .returned (.iface 42 (.pointer (some ⟨w.heap.size, 0, none⟩))) ∧ w' = w.alloc (.cells #[.string s] 44) := by
  go_enter Ybaf.func4, Ybaf.ntmps4
  go_wp2
  go_ret
  exact ⟨rfl, rfl⟩
theorem end12 (rb : Nat) (w : World) (h0 : w.cell? ⟨rb, 0, none⟩ = some (.slice none 0 0)) (h2 : w.cell? ⟨rb, 2, none⟩ = some (.int .i64 0)) :
    Calls Ybaf.prog 12 #[.pointer (some ⟨rb, 0, none⟩)] w fun e w' => e = .returned .nilIface ∧ w' = w := by
  go_enter Ybaf.func12, Ybaf.ntmps12
  go_wp2
  go_ret
  exact ⟨rfl, rfl⟩
theorem read5_ok (r : Addr) (cb sb fb eb vb : Nat) (v c : Int) (sv : Value) (w : World) (hc : w.cell? ⟨cb, 0, none⟩ = some (.int .i64 c)) (fc : w.frozen? ⟨cb, 0, none⟩ = false) (hs : w.cell? ⟨sb, 0, none⟩ = some sv) (fs : w.frozen? ⟨sb, 0, none⟩ = false)
    (hf : w.cell? ⟨fb, 0, none⟩ = some (.bool false)) (hv : w.cell? ⟨vb, 0, none⟩ = some (.int .i64 v)) (hcs : cb ≠ sb) (hcf : cb ≠ fb) (hsf : sb ≠ fb) (hcv : cb ≠ vb) (hsv : sb ≠ vb) (h0 : 0 ≤ c) (h1 : c ≤ 10) :
    Calls Ybaf.prog 5 #[.pointer (some r), .pointer (some ⟨cb, 0, none⟩), .pointer (some ⟨sb, 0, none⟩), .pointer (some ⟨fb, 0, none⟩), .pointer (some ⟨eb, 0, none⟩), .pointer (some ⟨vb, 0, none⟩)] w fun e w' =>
      e = .returned (.tuple #[.int .i64 v, .nilIface]) ∧ w' = (w.setCell ⟨cb, 0, none⟩ (.int .i64 (c + 1))).setCell ⟨sb, 0, none⟩ (.pointer (some r)) := by
  go_enter Ybaf.func5, Ybaf.ntmps5
  go_wp2
  go_ret2
  exact ⟨rfl, rfl⟩
theorem read5_fail (r : Addr) (cb sb fb eb vb : Nat) (c : Int) (sv : Value) (se : Addr) (w : World) (hc : w.cell? ⟨cb, 0, none⟩ = some (.int .i64 c)) (fc : w.frozen? ⟨cb, 0, none⟩ = false) (hs : w.cell? ⟨sb, 0, none⟩ = some sv) (fs : w.frozen? ⟨sb, 0, none⟩ = false)
    (hf : w.cell? ⟨fb, 0, none⟩ = some (.bool true)) (he : w.cell? ⟨eb, 0, none⟩ = some (.iface 42 (.pointer (some se)))) (hcs : cb ≠ sb) (hcf : cb ≠ fb) (hsf : sb ≠ fb) (hce : cb ≠ eb) (hse : sb ≠ eb) (h0 : 0 ≤ c) (h1 : c ≤ 10) :
    Calls Ybaf.prog 5 #[.pointer (some r), .pointer (some ⟨cb, 0, none⟩), .pointer (some ⟨sb, 0, none⟩), .pointer (some ⟨fb, 0, none⟩), .pointer (some ⟨eb, 0, none⟩), .pointer (some ⟨vb, 0, none⟩)] w fun e w' =>
      e = .returned (.tuple #[.int .i64 0, .iface 42 (.pointer (some se))]) ∧ ∃ m, w' = ((w.setCell ⟨cb, 0, none⟩ (.int .i64 (c + 1))).setCell ⟨sb, 0, none⟩ (.pointer (some r))).drewN m := by
  go_enter Ybaf.func5, Ybaf.ntmps5
  go_wp2
  go_quiet (fail)
  go_wp2
  go_ret2
  exact ⟨rfl, _, rfl⟩
end Go.Proofs.YbulkbwycFmt
