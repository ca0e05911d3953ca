/-
  THE PLAIN VARINT and the walks of 'zzs3665bdecode' (12) and encoding/binary.Uvarint (30); fmt.Errorf (43) at %s cut short by its stop.
-/
import Derived.Test.YbulkbwwmFmtRows
import Derived.WalkKit
import Derived.RowKitTokens
import Derived.WalkSpells
import Derived.Stop.CallBack
import Derived.Stop.IfaceNil
import GoSem.ClaimData
namespace Go.Proofs.YbulkbwwmFmt
open Go.RowKit Go.Extern.Stop Go.Stop Go.Extern

theorem call50 (args : Array Value) (w : World) : (callFunc 50 args).run Ybaf.prog w = ((FmtStop.errorf #[9, 94] #[53] args).run Ybaf.prog w).andThen fun v w' => .ok (.value v) w' :=
  run_callFunc_extern Ybaf.func50 (by kernel_rfl) (by kernel_rfl) (by kernel_rfl) (by kernel_rfl) args w
theorem guardF (name : String) (w : World) : (FmtStop.guard name).run Ybaf.prog w = .ok () w := by kernel_rfl
theorem fmt0 : FmtStop.printed? ⟨#[37, 115, 32, 99, 117, 116, 32, 115, 104, 111, 114, 116]⟩ 1 = some [(0, 115, false)] := by kernel_rfl
theorem fmt0r (w : World) : (FmtDoors.printed ⟨#[37, 115, 32, 99, 117, 116, 32, 115, 104, 111, 114, 116]⟩ 1).run Ybaf.prog w = .ok [(0, 115, false)] w := by kernel_rfl
def shape9 : List UInt8 := [12, 6, 0, 0, 0, 0, 0, 0, 0, 115, 116, 114, 105, 110, 103]
theorem op9_115 (name : String) (x : ByteArray) (w : World) : (FmtStop.operand name false 115 false (.iface 9 (.string x))).run Ybaf.prog w = .ok (shape9, FmtStop.pack x.data.toList) w := by kernel_rfl
theorem op9_115w (name : String) (x : ByteArray) (w : World) : (FmtStop.operand name true 115 false (.iface 9 (.string x))).run Ybaf.prog w = .ok (shape9, FmtStop.pack x.data.toList) w := by kernel_rfl
theorem ptr72 (w : World) : (FmtStop.ptrTo "errors.errorString").run Ybaf.prog w = .ok 72 w := by kernel_rfl
theorem elem72 (w : World) : (elemOf 72).run Ybaf.prog w = .ok 74 w := by kernel_rfl
theorem isError72' (w : World) : (FmtDoors.textMethod 72 "Error").run Ybaf.prog w = .ok true w := by kernel_rfl

theorem errorf_any (F : Interp) (s : ByteArray) (B : Nat) (w : World) (hF : F.answers w.tape) (hc : w.cell? ⟨B, 0, none⟩ = some (.iface 9 (.string s))) :
    Calls Ybaf.prog 43 #[.string ⟨#[37, 115, 32, 99, 117, 116, 32, 115, 104, 111, 114, 116]⟩, .slice (some ⟨B, 0, none⟩) 1 1] w fun e w' =>
      ∃ t : ByteArray, e = .returned (.iface 72 (.pointer (some ⟨w.heap.size, 0, none⟩))) ∧ w' = (w.alloc (.cells #[.string t] 74)).drew := by
  have hF' := answers_open hF
  have h1 := call50
  have h2 := guardF
  have h3 := fmt0
  have h4 := fmt0r
  have h5 := op9_115
  have h6 := op9_115w
  have h7 := ptr72
  have h8 := elem72
  have h9 := isError72'
  go_enter Ybaf.func43, Ybaf.ntmps43
  go_wp2
  go_ret
  exact ⟨_, rfl, rfl⟩

/-! ### The plain function -/
def dec : Int → Nat → List Int → Int × Int
  | _, _, [] => (0, 0)
  | X, k, c :: r =>
    if k = 10 then (0, -((k : Int) + 1))
    else if c < 128 then
      if k = 9 ∧ 1 < c then (0, -((k : Int) + 1)) else (bits .or .u64 X (IntKind.u64.wrap (c * 2 ^ (7 * k))), (k : Int) + 1)
    else dec (bits .or .u64 X (IntKind.u64.wrap (c % 128 * 2 ^ (7 * k)))) (k + 1) r

theorem drop_step {zs : List Int} {len k : Nat} (hk : k < len) (hz : len ≤ zs.length) : (zs.take len).drop k = zs[k]?.getD 0 :: (zs.take len).drop (k + 1) := by
  have h1 : k < (zs.take len).length := by simp; omega
  rw [List.drop_eq_getElem_cons h1]
  congr 1
  have h2 : k < zs.length := by omega
  simp [List.getElem_take, h2]
theorem drop_end {zs : List Int} {len k : Nat} (hk : len ≤ k) : (zs.take len).drop k = [] := by
  apply List.drop_eq_nil_of_le
  simp; omega
theorem mask127 {c : Int} (h₀ : 0 ≤ c) (h₁ : c ≤ 255) : bits .and .u8 c 127 = c % 128 := bits_mask .u8 8 (by decide) wraps_u8 7 (by decide) c h₀ (by omega)


set_option maxHeartbeats 400000 in
theorem dec12 (b off len cap : Nat) (zs : List Int) (w : World) (hz : len ≤ zs.length) (hmax : len ≤ 9223372036854775807)
    (hc : ∀ j, j < len → w.cell? ⟨b, off + j, none⟩ = some (.int .u8 (zs.getD j 0)))
    (hr : ∀ j : Nat, 0 ≤ zs[j]?.getD 0 ∧ zs[j]?.getD 0 ≤ 255) :
    Calls Ybaf.prog 12 #[.slice (some ⟨b, off, none⟩) len cap] w fun e w' =>
      e = .returned (.tuple #[.int .u64 (dec 0 0 (zs.take len)).1, .int .i64 (dec 0 0 (zs.take len)).2]) ∧ w' = w := by
  go_enter Ybaf.func12, Ybaf.ntmps12
  go_wp2
  go_loop [4, 5, 6] (fun x sh i => ∃ (k : Nat) (X : Int), k ≤ len ∧ k ≤ 10 ∧ i = .int .i64 k ∧ sh = .int .u64 (7 * k : Nat) ∧ x = .int .u64 X ∧ dec 0 0 (zs.take len) = dec X k ((zs.take len).drop k)) (fun _ _ i => len - (intOf i).toNat)
  case atStart => exact ⟨0, 0, by omega, by omega, rfl, rfl, rfl, rfl⟩
  case round =>
    obtain ⟨k, X, hk, hk10, rfl, rfl, rfl, hd⟩ := hrel
    have hcell : k < len → w.cell? ⟨b, off + k, none⟩ = some (.int .u8 (zs.getD k 0)) := fun h => hc k (by omega)
    have hrk := hr k
    have hmask := mask127 hrk.1 hrk.2
    have HD : Hid (dec 0 0 (zs.take len) = dec X k ((zs.take len).drop k)) := hd
    clear hd hc hr
    go_wp2
    · have hlt : k < len := by assumption
      have h10 : ((k : Int) == 10) = true := by assumption
      have hk : k = 10 := by have := WalkArith.int_eq h10; omega
      have hv : dec 0 0 (zs.take len) = (0, -((k : Int) + 1)) := by rw [HD.out, drop_step hlt hz]; simp [dec, hk]
      clear HD
      go_ret2
      exact ⟨by rw [hv]; simp [hk], rfl⟩
    · have hlt : k < len := by assumption
      have h9 : (k : Int) = 9 := by assumption
      have hc1 : 1 < zs[k]?.getD 0 := by assumption
      have hc128 : zs[k]?.getD 0 < 128 := by assumption
      obtain rfl : k = 9 := by omega
      have hv : dec 0 0 (zs.take len) = (0, -10) := by rw [HD.out, drop_step hlt hz]; simp [dec, hc1, hc128]
      clear HD
      go_ret2
      exact ⟨by rw [hv]; simp, rfl⟩
    · have hlt : k < len := by assumption
      have h9 : (k : Int) = 9 := by assumption
      have hc1 : zs[k]?.getD 0 ≤ 1 := by assumption
      obtain rfl : k = 9 := by omega
      have hv : dec 0 0 (zs.take len) = (bits .or .u64 X (zs[(9 : Nat)]?.getD 0 * 9223372036854775808), 10) := by
        rw [HD.out, drop_step hlt hz]
        have hn : ¬ 1 < zs[(9 : Nat)]?.getD 0 := by omega
        have hc128 : zs[(9 : Nat)]?.getD 0 < 128 := by omega
        have hw : IntKind.u64.wrap (zs[(9 : Nat)]?.getD 0 * 9223372036854775808) = zs[(9 : Nat)]?.getD 0 * 9223372036854775808 := IntWalk.u64_in _ ⟨by omega, by omega⟩
        simp [dec, hn, hc128, hw]
      go_ret2
      exact ⟨by rw [hv]; rfl, rfl⟩
    · have hlt : k < len := by assumption
      have h10 : ((k : Int) == 10) = false := by assumption
      have h9 : ¬ (k : Int) = 9 := by assumption
      have hc128 : zs[k]?.getD 0 < 128 := by assumption
      have hk10' : k ≠ 10 := by have := WalkArith.int_ne h10; omega
      have hk9 : k ≠ 9 := by omega
      have hv : dec 0 0 (zs.take len) = (bits .or .u64 X (IntKind.u64.wrap (zs[k]?.getD 0 * 2 ^ (7 * k))), (k : Int) + 1) := by rw [HD.out, drop_step hlt hz]; simp [dec, hk10', hk9, hc128]
      go_ret2
      exact ⟨by rw [hv]; simp, rfl⟩
    · have hlt : k < len := by assumption
      have h10 : ((k : Int) == 10) = false := by assumption
      have hc128 : 128 ≤ zs[k]?.getD 0 := by assumption
      have hk10' : k ≠ 10 := by have := WalkArith.int_ne h10; omega
      have hn : ¬ zs[k]?.getD 0 < 128 := by omega
      go_round
      case rel => exact ⟨k + 1, _, by omega, by omega, by go_num, by go_num, rfl, by rw [HD.out, drop_step hlt hz]; simp [dec, hk10', hn]⟩
      case measure => simp [intOf]; omega
    · have hge : ¬ k < len := by assumption
      have hv : dec 0 0 (zs.take len) = (0, 0) := by rw [HD.out, drop_end (by omega)]; rfl
      clear HD
      go_ret2
      exact ⟨by rw [hv]; simp, rfl⟩

theorem dec12_empty (a : Option Addr) (cap : Nat) (w : World) :
    Calls Ybaf.prog 12 #[.slice a 0 cap] w fun e w' => e = .returned (.tuple #[.int .u64 0, .int .i64 0]) ∧ w' = w := by
  go_enter Ybaf.func12, Ybaf.ntmps12
  go_wp2
  refine wp_loop_rounds 1 ?_
  rw [rounds_succ]
  go_wp2
  go_ret2
  exact ⟨rfl, rfl⟩

set_option maxHeartbeats 400000 in
theorem dec30 (b off len cap : Nat) (zs : List Int) (w : World) (hz : len ≤ zs.length) (hmax : len ≤ 9223372036854775807)
    (hc : ∀ j, j < len → w.cell? ⟨b, off + j, none⟩ = some (.int .u8 (zs.getD j 0)))
    (hr : ∀ j : Nat, 0 ≤ zs[j]?.getD 0 ∧ zs[j]?.getD 0 ≤ 255) :
    Calls Ybaf.prog 30 #[.slice (some ⟨b, off, none⟩) len cap] w fun e w' =>
      e = .returned (.tuple #[.int .u64 (dec 0 0 (zs.take len)).1, .int .i64 (dec 0 0 (zs.take len)).2]) ∧ w' = w := by
  go_enter Ybaf.func30, Ybaf.ntmps30
  go_wp2
  go_loop [4, 5, 10] (fun x sh i => ∃ (k : Nat) (X : Int), k ≤ len ∧ k ≤ 10 ∧ i = .int .i64 k ∧ sh = .int .u64 (7 * k : Nat) ∧ x = .int .u64 X ∧ dec 0 0 (zs.take len) = dec X k ((zs.take len).drop k)) (fun _ _ i => len - (intOf i).toNat)
  case atStart => exact ⟨0, 0, by omega, by omega, rfl, rfl, rfl, rfl⟩
  case round =>
    obtain ⟨k, X, hk, hk10, rfl, rfl, rfl, hd⟩ := hrel
    have hcell : k < len → w.cell? ⟨b, off + k, none⟩ = some (.int .u8 (zs.getD k 0)) := fun h => hc k (by omega)
    have hrk := hr k
    have hmask := mask127 hrk.1 hrk.2
    have HD : Hid (dec 0 0 (zs.take len) = dec X k ((zs.take len).drop k)) := hd
    clear hd hc hr
    go_wp2
    · have hlt : k < len := by assumption
      have h10 : ((k : Int) == 10) = true := by assumption
      have hk : k = 10 := by have := WalkArith.int_eq h10; omega
      have hv : dec 0 0 (zs.take len) = (0, -((k : Int) + 1)) := by rw [HD.out, drop_step hlt hz]; simp [dec, hk]
      clear HD
      go_ret2
      exact ⟨by rw [hv]; simp [hk], rfl⟩
    · have hlt : k < len := by assumption
      have h9 : (k : Int) = 9 := by assumption
      have hc1 : 1 < zs[k]?.getD 0 := by assumption
      have hc128 : zs[k]?.getD 0 < 128 := by assumption
      obtain rfl : k = 9 := by omega
      have hv : dec 0 0 (zs.take len) = (0, -10) := by rw [HD.out, drop_step hlt hz]; simp [dec, hc1, hc128]
      clear HD
      go_ret2
      exact ⟨by rw [hv]; simp, rfl⟩
    · have hlt : k < len := by assumption
      have h9 : (k : Int) = 9 := by assumption
      have hc1 : zs[k]?.getD 0 ≤ 1 := by assumption
      obtain rfl : k = 9 := by omega
      have hv : dec 0 0 (zs.take len) = (bits .or .u64 X (zs[(9 : Nat)]?.getD 0 * 9223372036854775808), 10) := by
        rw [HD.out, drop_step hlt hz]
        have hn : ¬ 1 < zs[(9 : Nat)]?.getD 0 := by omega
        have hc128 : zs[(9 : Nat)]?.getD 0 < 128 := by omega
        have hw : IntKind.u64.wrap (zs[(9 : Nat)]?.getD 0 * 9223372036854775808) = zs[(9 : Nat)]?.getD 0 * 9223372036854775808 := IntWalk.u64_in _ ⟨by omega, by omega⟩
        simp [dec, hn, hc128, hw]
      go_ret2
      exact ⟨by rw [hv]; rfl, rfl⟩
    · have hlt : k < len := by assumption
      have h10 : ((k : Int) == 10) = false := by assumption
      have h9 : ¬ (k : Int) = 9 := by assumption
      have hc128 : zs[k]?.getD 0 < 128 := by assumption
      have hk10' : k ≠ 10 := by have := WalkArith.int_ne h10; omega
      have hk9 : k ≠ 9 := by omega
      have hv : dec 0 0 (zs.take len) = (bits .or .u64 X (IntKind.u64.wrap (zs[k]?.getD 0 * 2 ^ (7 * k))), (k : Int) + 1) := by rw [HD.out, drop_step hlt hz]; simp [dec, hk10', hk9, hc128]
      go_ret2
      exact ⟨by rw [hv]; simp, rfl⟩
    · have hlt : k < len := by assumption
      have h10 : ((k : Int) == 10) = false := by assumption
      have hc128 : 128 ≤ zs[k]?.getD 0 := by assumption
      have hk10' : k ≠ 10 := by have := WalkArith.int_ne h10; omega
      have hn : ¬ zs[k]?.getD 0 < 128 := by omega
      go_round
      case rel => exact ⟨k + 1, _, by omega, by omega, by go_num, by go_num, rfl, by rw [HD.out, drop_step hlt hz]; simp [dec, hk10', hn]⟩
      case measure => simp [intOf]; omega
    · have hge : ¬ k < len := by assumption
      have hv : dec 0 0 (zs.take len) = (0, 0) := by rw [HD.out, drop_end (by omega)]; rfl
      clear HD
      go_ret2
      exact ⟨by rw [hv]; simp, rfl⟩

theorem dec30_empty (a : Option Addr) (cap : Nat) (w : World) :
    Calls Ybaf.prog 30 #[.slice a 0 cap] w fun e w' => e = .returned (.tuple #[.int .u64 0, .int .i64 0]) ∧ w' = w := by
  go_enter Ybaf.func30, Ybaf.ntmps30
  go_wp2
  refine wp_loop_rounds 1 ?_
  rw [rounds_succ]
  go_wp2
  go_ret2
  exact ⟨rfl, rfl⟩
end Go.Proofs.YbulkbwwmFmt
