import Derived.Test.YbulkbwwmFmtUv
import Derived.WalkKit
import Derived.RowKitTokens
import Derived.WalkSpells
import Derived.WalkSmall
import Derived.Deep.QuietTactic
import Derived.BigQuiet
namespace Go.Proofs.YbulkbwwmFmt
open Go.RowKit Go.Extern.Stop Go.Stop Go.Extern
set_option linter.unusedVariables false

theorem fail_pre (rb : Nat) (a : Addr) (v : Value) (s : ByteArray) (w : World) (he : w.cell? ⟨rb, 1, none⟩ = some (.iface 72 (.pointer (some a)))) (hb : w.cell? ⟨rb, 0, none⟩ = some v) (f0 : w.frozen? ⟨rb, 0, none⟩ = false) :
    Calls Ybaf.prog 31 #[.pointer (some ⟨rb, 0, none⟩), .string s] w fun e w' => e = .returned (.tuple #[]) ∧ w' = w.setCell ⟨rb, 0, none⟩ (.slice none 0 0) := by
  go_enter Ybaf.func31, Ybaf.ntmps31
  go_wp2
  go_end0
  exact ⟨rfl, rfl⟩

theorem fail_nil (F : Interp) (rb : Nat) (v : Value) (s : ByteArray) (w : World) (hF : F.answers w.tape) (he : w.cell? ⟨rb, 1, none⟩ = some .nilIface) (hb : w.cell? ⟨rb, 0, none⟩ = some v) (f0 : w.frozen? ⟨rb, 0, none⟩ = false) (f1 : w.frozen? ⟨rb, 1, none⟩ = false) (hlt : rb < w.heap.size) :
    Calls Ybaf.prog 31 #[.pointer (some ⟨rb, 0, none⟩), .string s] w fun e w' => e = .returned (.tuple #[]) ∧ ∃ t, w' = ((((w.setCell ⟨rb, 1, none⟩ (.iface 72 (.pointer (some ⟨w.heap.size + 1, 0, none⟩)))).setCell ⟨rb, 0, none⟩ (.slice none 0 0)).alloc (.cells #[.iface 9 (.string s)] 20)).alloc (.cells #[.string t] 74)).drew := by
  have hne : rb ≠ w.heap.size := by omega
  have hne1 : rb ≠ w.heap.size + 1 := by omega
  go_enter Ybaf.func31, Ybaf.ntmps31
  go_wp2_with (go_at_call 43; refine (errorf_any F s w.heap.size _ (by exact hF) (by simp)).mono ?_; rintro e w' ⟨t, rfl, rfl⟩)
  go_end0
  exact ⟨rfl, _, rfl⟩

theorem uv_ok (b off len cap rb : Nat) (w : World) (hcap : len ≤ cap) (hmax : cap ≤ 9223372036854775807)
    (hb : w.cell? ⟨rb, 0, none⟩ = some (.slice (some ⟨b, off, none⟩) len cap)) (f0 : w.frozen? ⟨rb, 0, none⟩ = false) (v : Int) (n : Nat) (hn : 0 < n) (hnl : n ≤ len)
    (h30 : Calls Ybaf.prog 30 #[.slice (some ⟨b, off, none⟩) len cap] w fun e w' => e = .returned (.tuple #[.int .u64 v, .int .i64 n]) ∧ w' = w) :
    Calls Ybaf.prog 11 #[.pointer (some ⟨rb, 0, none⟩)] w fun e w' => e = .returned (.int .u64 v) ∧ ∃ a, w' = w.setCell ⟨rb, 0, none⟩ (.slice (some a) (len - n) (cap - n)) ∧ (0 < len - n → a = ⟨b, off + n, none⟩) := by
  go_enter Ybaf.func11, Ybaf.ntmps11
  have hp : (0 : Int) < n := by omega
  go_wp2_with (go_at_call 30; refine h30.mono ?_; rintro e w' ⟨rfl, rfl⟩)
  · go_ret
    have e : cap = n := by assumption
    subst e
    exact ⟨rfl, _, rfl, fun h => absurd h (by omega)⟩
  · go_ret
    exact ⟨rfl, _, rfl, fun _ => rfl⟩

theorem uv_bad_pre (a : Option Addr) (len cap rb : Nat) (w : World) (p : Addr) (he : w.cell? ⟨rb, 1, none⟩ = some (.iface 72 (.pointer (some p))))
    (hb : w.cell? ⟨rb, 0, none⟩ = some (.slice a len cap)) (f0 : w.frozen? ⟨rb, 0, none⟩ = false) (x n : Int) (hn : n ≤ 0)
    (h30 : Calls Ybaf.prog 30 #[.slice a len cap] w fun e w' => e = .returned (.tuple #[.int .u64 x, .int .i64 n]) ∧ w' = w) :
    Calls Ybaf.prog 11 #[.pointer (some ⟨rb, 0, none⟩)] w fun e w' => e = .returned (.int .u64 0) ∧ w' = w.setCell ⟨rb, 0, none⟩ (.slice none 0 0) := by
  go_enter Ybaf.func11, Ybaf.ntmps11
  go_wp2_with (first | (go_at_call 30; refine h30.mono ?_; rintro e w' ⟨rfl, rfl⟩) | (go_at_call 31; refine (fail_pre rb p (.slice a len cap) _ _ he hb f0).mono ?_; rintro e w' ⟨rfl, rfl⟩))
  go_ret
  exact ⟨rfl, rfl⟩

theorem uv_bad_nil (F : Interp) (a : Option Addr) (len cap rb : Nat) (w : World) (hF : F.answers w.tape) (he : w.cell? ⟨rb, 1, none⟩ = some .nilIface)
    (hb : w.cell? ⟨rb, 0, none⟩ = some (.slice a len cap)) (f0 : w.frozen? ⟨rb, 0, none⟩ = false) (f1 : w.frozen? ⟨rb, 1, none⟩ = false) (hlt : rb < w.heap.size) (x n : Int) (hn : n ≤ 0)
    (h30 : Calls Ybaf.prog 30 #[.slice a len cap] w fun e w' => e = .returned (.tuple #[.int .u64 x, .int .i64 n]) ∧ w' = w) :
    Calls Ybaf.prog 11 #[.pointer (some ⟨rb, 0, none⟩)] w fun e w' => e = .returned (.int .u64 0) ∧ ∃ s t, w' = ((((w.setCell ⟨rb, 1, none⟩ (.iface 72 (.pointer (some ⟨w.heap.size + 1, 0, none⟩)))).setCell ⟨rb, 0, none⟩ (.slice none 0 0)).alloc (.cells #[.iface 9 (.string s)] 20)).alloc (.cells #[.string t] 74)).drew := by
  go_enter Ybaf.func11, Ybaf.ntmps11
  go_wp2_with (first | (go_at_call 30; refine h30.mono ?_; rintro e w' ⟨rfl, rfl⟩) | (go_at_call 31; refine (fail_nil F rb (.slice a len cap) _ _ (by exact hF) he hb f0 f1 hlt).mono ?_; rintro e w' ⟨rfl, t, rfl⟩))
  go_ret
  exact ⟨rfl, _, _, rfl⟩

theorem len13 (rb : Nat) (a : Option Addr) (len cap : Nat) (w : World) (hb : w.cell? ⟨rb, 0, none⟩ = some (.slice a len cap)) :
    Calls Ybaf.prog 13 #[.pointer (some ⟨rb, 0, none⟩)] w fun e w' => e = .returned (.int .i64 len) ∧ w' = w := by
  go_enter Ybaf.func13, Ybaf.ntmps13
  go_wp2
  go_ret
  exact ⟨rfl, rfl⟩
theorem new10 (s : ByteArray) (w : World) :
    Calls Ybaf.prog 10 #[.string s] w fun e w' => e = .returned (.iface 72 (.pointer (some ⟨w.heap.size, 0, none⟩))) ∧ w' = w.alloc (.cells #[.string s] 74) := by
  go_enter Ybaf.func10, Ybaf.ntmps10
  go_wp2
  go_ret
  exact ⟨rfl, rfl⟩
end Go.Proofs.YbulkbwwmFmt
