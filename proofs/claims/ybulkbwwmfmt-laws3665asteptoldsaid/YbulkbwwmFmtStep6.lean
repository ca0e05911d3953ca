/-
  Step at a catch-up request (6), zzs3665afrom (7), TakeMessages (8).
-/
import Derived.Test.YbulkbwwmFmtSend
namespace Go.Proofs.YbulkbwwmFmt
open Go.WideShapes (add_plain)
open Go.RowKit
set_option linter.unusedVariables false
attribute [local go_sem ↓] Go.wp_at_zero Go.wp_at_succ

set_option maxHeartbeats 800000 in
theorem step_no (nb : Nat) (id fr : ByteArray) (ver hv : Int) (v : Value) (n : Nat) (xs : List Value) (w : World) (h : Nd w nb id hv v n xs) (hle : hv ≤ ver) :
    Calls Ybaf.prog 6 #[.pointer (some ⟨nb, 0, none⟩), .agg (mrow 10 fr ByteArray.empty ver).toArray] w fun e w' => e = .returned (.tuple #[]) ∧ (∃ v', Nd w' nb id hv v' n xs) ∧ Below nb w w' := by
  unfold mrow
  have c5 := h.c5
  have hlt := h.lt
  have hnlt : ¬ ver < hv := by omega
  go_enter Ybaf.func6, Ybaf.ntmps6
  go_wp2
  go_quiet (fail)
  go_wp2
  go_end0
  exact ⟨rfl, ⟨v, (h.alloc _).drewN _⟩, below_drewN ((Below.refl _ _).alloc (by omega) _) _⟩

set_option maxRecDepth 100000 in
set_option maxHeartbeats 1600000 in
theorem step_yes (nb : Nat) (id fr : ByteArray) (ver hv : Int) (v : Value) (n : Nat) (xs : List Value) (w : World) (h : Nd w nb id hv v n xs) (hgt : ver < hv) (hn : n ≤ 1024) :
    Calls Ybaf.prog 6 #[.pointer (some ⟨nb, 0, none⟩), .agg (mrow 10 fr ByteArray.empty ver).toArray] w fun e w' => e = .returned (.tuple #[]) ∧ (∃ v', Nd w' nb id hv v' (n + 1) (xs ++ mrow 11 id fr hv)) ∧ Below nb w w' := by
  unfold mrow
  have c5 := h.c5
  have c6 := h.c6
  have c7 := h.c7
  have hlt := h.lt
  go_enter Ybaf.func6, Ybaf.ntmps6
  go_wp2
  go_quiet (fail)
  go_wp2
  have hW := (h.alloc (.cells #[.int .u8 10, .string fr, .string ByteArray.empty, .int .u64 0, .int .u64 ver, .int .u64 0, .int .u64 0, .string ByteArray.empty, .slice none 0 0, .map none, .slice none 0 0] 48)).drewN nq
  have hB : Below nb w ((w.alloc (.cells #[.int .u8 10, .string fr, .string ByteArray.empty, .int .u64 0, .int .u64 ver, .int .u64 0, .int .u64 0, .string ByteArray.empty, .slice none 0 0, .map none, .slice none 0 0] 48)).drewN nq) := below_drewN ((Below.refl _ _).alloc (by omega) _) _
  have hX : ((w.alloc (.cells #[.int .u8 10, .string fr, .string ByteArray.empty, .int .u64 0, .int .u64 ver, .int .u64 0, .int .u64 0, .string ByteArray.empty, .slice none 0 0, .map none, .slice none 0 0] 48)).drewN nq).cell? ⟨w.heap.size, 1, none⟩ = some (.string fr) := by simp
  have hXl : w.heap.size < ((w.alloc (.cells #[.int .u8 10, .string fr, .string ByteArray.empty, .int .u64 0, .int .u64 ver, .int .u64 0, .int .u64 0, .string ByteArray.empty, .slice none 0 0, .map none, .slice none 0 0] 48)).drewN nq).heap.size := by simp
  have hXo : some w.heap.size ≠ v.ownBlock := fun e => by have := h.own.lt _ e.symm; omega
  have hNo : some nb ≠ v.ownBlock := fun e => by have := h.own.lt _ e.symm; omega
  clear h c5 c6 c7
  generalize ((w.alloc (.cells #[.int .u8 10, .string fr, .string ByteArray.empty, .int .u64 0, .int .u64 ver, .int .u64 0, .int .u64 0, .string ByteArray.empty, .slice none 0 0, .map none, .slice none 0 0] 48)).drewN nq) = W at *
  obtain ⟨X, hXe⟩ : ∃ X, X = w.heap.size := ⟨_, rfl⟩
  rw [← hXe] at hX hXl hXo hlt ⊢
  clear hXe
  have c5 := hW.c5
  have c6 := hW.c6
  have c7 := hW.c7
  go_region_held3 (fun w' => w'.cell? ⟨nb, 5, none⟩ = some (.int .u64 hv) ∧ w'.cell? ⟨nb, 6, none⟩ = some (.map none) ∧ w'.cell? ⟨nb, 7, none⟩ = some (.slice none 0 0) ∧ w'.cell? ⟨X, 1, none⟩ = some (.string fr))
    (first
      | go_keep
      | (refine ⟨?_, ?_, ?_, ?_⟩
         · exact (hfar ⟨nb, 5, none⟩ hW.lt (by simp) hNo).trans c5
         · exact (hfar ⟨nb, 6, none⟩ hW.lt (by simp) hNo).trans c6
         · exact (hfar ⟨nb, 7, none⟩ hW.lt (by simp) hNo).trans c7
         · exact (hfar ⟨X, 1, none⟩ hXl (by simp) hXo).trans hX))
    (first
      | (go_at_call 28; refine (clone28 _).mono ?_; rintro e w' ⟨rfl, rfl⟩)
      | (go_at_call 18; refine (send18' nb id ByteArray.empty fr hv hv v n xs _ hW.drew hn).mono ?_; rintro e w' ⟨rfl, hnd, hbel, hfar⟩))
  go_wp2
  go_end0
  exact ⟨rfl, hnd, hB.trans (((Below.refl _ _).drew).trans hbel)⟩

/-- Whose request is number i. -/
def fromS (i : Nat) : ByteArray := if i % 3 = 0 then ⟨#[97]⟩ else if i % 3 = 1 then ⟨#[98]⟩ else ⟨#[99]⟩
theorem from7 (i : Nat) (w : World) (hi : i ≤ 4096) : Calls Ybaf.prog 7 #[.int .i64 i] w fun e w' => e = .returned (.string (fromS i)) ∧ w' = w := by
  rcases (show i % 3 = 0 ∨ i % 3 = 1 ∨ i % 3 = 2 from by omega) with h | h | h
  · have e : fromS i = ⟨#[97]⟩ := by simp [fromS, h]
    have h' : (i : Int) % 3 = 0 := by omega
    rw [e]
    go_enter Ybaf.func7, Ybaf.ntmps7
    go_wp2
    go_ret
    exact ⟨rfl, rfl⟩
  · have e : fromS i = ⟨#[98]⟩ := by simp [fromS, h]
    have h' : (i : Int) % 3 = 1 := by omega
    rw [e]
    go_enter Ybaf.func7, Ybaf.ntmps7
    go_wp2
    go_ret
    exact ⟨rfl, rfl⟩
  · have e : fromS i = ⟨#[99]⟩ := by simp [fromS, h]
    have h' : (i : Int) % 3 = 2 := by omega
    rw [e]
    go_enter Ybaf.func7, Ybaf.ntmps7
    go_wp2
    go_ret
    exact ⟨rfl, rfl⟩
theorem take8 (nb : Nat) (v : Value) (w : World) (hs : ∃ a l c, v = .slice a l c) (h : w.cell? ⟨nb, 22, none⟩ = some v) (hf : w.frozen? ⟨nb, 22, none⟩ = false) :
    Calls Ybaf.prog 8 #[.pointer (some ⟨nb, 0, none⟩)] w fun e w' => e = .returned v ∧ w' = w.setCell ⟨nb, 22, none⟩ (.slice none 0 0) := by
  obtain ⟨a, l, c, rfl⟩ := hs
  go_enter Ybaf.func8, Ybaf.ntmps8
  go_wp2
  go_ret
  exact ⟨rfl, rfl⟩
end Go.Proofs.YbulkbwwmFmt
