/-
  THE SMALL WALKS of 'LawS3673ALayout': the value that is laid, the slice of them, Tree.at, Node.part, Tree.Root, Tree.kinds.
-/
import Derived.Test.YbulkbxauRows
import Derived.WalkKit
import Derived.ProofKit
import Derived.OpenShut
import Derived.ShutString
import Derived.ChangeOld
import Derived.Below
import Derived.Deep.QuietTactic
import Derived.BigQuiet
import Derived.BigRegion
import Derived.Deep.Light
import Derived.WalkSpells
import Derived.Lib.SliceRun
import Derived.WalkSmall
import Derived.Deep.MidRow
import Derived.Deep.DeepMust
import Derived.ArgAppend
import Derived.Deep.RegionHeld3
namespace Go.Proofs.Ybulkbxau.lawS3673ALayout
open Go.ChangeShapes Go.WideShapes Go.ChangeAt Go.RowKit
set_option linter.unusedVariables false
def xn (k i j r : Nat) : Nat := (i * 5 + j) * k + r
def vl (len : Nat) (z : List Int) (k i j r : Nat) : Int := if len = 0 then (xn k i j r : Nat) else wrap64 (z.getD (xn k i j r % len) 0 + (xn k i j r : Nat))
def Vals (w : World) (B : Nat) (a : Option Addr) (len : Nat) (z : List Int) : Prop := len ≠ 0 → ∃ b o, a = some ⟨b, o, none⟩ ∧ b < B ∧ ∀ i, i < len → w.cell? ⟨b, o + i, none⟩ = some (.int .i64 (z.getD i 0))

theorem val6 (w : World) (B : Nat) (a : Option Addr) (len cap : Nat) (z : List Int) (hl : len ≤ 4096) (hv : Vals w B a len z) (k i j r : Nat) (hk : k ≤ 4) (hi : i < 40) (hj : j < 5) (hr : r < 4) :
    Calls Yba.prog 6 #[.slice a len cap, .int .i64 k, .int .i64 i, .int .i64 j, .int .i64 r] w fun e w' => e = .returned (.int .i64 (vl len z k i j r)) ∧ w' = w := by
  have hx : xn k i j r ≤ 1000 := by
    unfold xn
    have : (i * 5 + j) * k ≤ (i * 5 + j) * 4 := Nat.mul_le_mul_left _ hk
    omega
  have hx1 : ((i : Int) * 5 + j) * k + r = (xn k i j r : Nat) := by unfold xn; push_cast; rfl
  by_cases hz : len = 0
  · subst hz
    go_enter Yba.func6, Yba.ntmps6
    go_wp2
    go_ret
    exact ⟨by simp [vl], rfl⟩
  · obtain ⟨b, o, rfl, hb, hc⟩ := hv hz
    have hml : xn k i j r % len < len := Nat.mod_lt _ (by omega)
    have g1 := hc _ hml
    go_enter Yba.func6, Yba.ntmps6
    go_wp2
    go_ret
    exact ⟨by simp [vl, hz], rfl⟩

def bs (x k : Nat) : Nat := x * k
theorem bs_le {x k : Nat} (hx : x ≤ 40) (hk : k ≤ 4) : bs x k ≤ 160 := Nat.mul_le_mul hx hk
theorem bs_cast (x k : Nat) : (x : Int) * k = (bs x k : Nat) := by unfold bs; push_cast; rfl
theorem bs_fits {x m k : Nat} (hx : x < m) : bs x k + k ≤ bs m k := by
  unfold bs
  have := Nat.mul_le_mul_right k (show x + 1 ≤ m from hx)
  rw [Nat.add_mul] at this
  omega
theorem at10 (w : World) (T k x : Nat) (a : Option Addr) (hk : k ≤ 4) (hx : x < 40) (h : w.cell? ⟨T, 1, none⟩ = some (.slice a k k)) :
    Calls Yba.prog 10 #[.pointer (some ⟨T, 0, none⟩), .int .i64 x, .int .i64 0] w fun e w' => e = .returned (.int .i64 (bs x k)) ∧ w' = w := by
  have hx1 : bs x k ≤ 160 := bs_le (by omega) hk
  have hx2 := bs_cast x k
  go_enter Yba.func10, Yba.ntmps10
  go_wp2
  go_ret
  exact ⟨rfl, rfl⟩

theorem part9 (w : World) (T S o k m x A : Nat) (a : Option Addr) (hk0 : 0 < k) (hk : k ≤ 4) (hm : m ≤ 40) (hx : x < m) (h : w.cell? ⟨T, 1, none⟩ = some (.slice a k k))
    (h0 : w.cell? ⟨S, o, none⟩ = some (.pointer (some ⟨T, 0, none⟩))) (h2 : w.cell? ⟨S, o + 2, none⟩ = some (.int .i64 x)) :
    Calls Yba.prog 9 #[.pointer (some ⟨S, o, none⟩), .slice (some ⟨A, 0, none⟩) (bs m k) (bs m k)] w fun e w' => e = .returned (.slice (some ⟨A, bs x k, none⟩) k (bs m k - bs x k)) ∧ ∃ n, w' = w.drewN n := by
  have hx1 : bs x k ≤ 160 := bs_le (by omega) hk
  have hx3 : bs x k + k ≤ bs m k := bs_fits hx
  have hx4 : bs m k ≤ 160 := bs_le (by omega) hk
  have hx5 : x < 40 := by omega
  have hne : ¬ bs m k = bs x k := by omega
  go_enter Yba.func9, Yba.ntmps9
  go_wp2
  go_quiet ((go_at_call 10; refine Calls.quiet_of_same (at10 _ T k x a hk hx5 ?_); exact h))
  go_wp2
  go_ret
  exact ⟨by simp, _, rfl⟩

theorem i49 : (Yba.prog.info? 49).map (·.size) = some 10 := by kernel_rfl
theorem root8 (w : World) (T O m : Nat) (v : Addr) (h0 : 0 < m) (h : w.cell? ⟨T, 9, none⟩ = some (.slice (some ⟨O, 0, none⟩) m m)) (h1 : w.cell? ⟨O, 0, none⟩ = some (.pointer (some v))) :
    Calls Yba.prog 8 #[.pointer (some ⟨T, 0, none⟩)] w fun e w' => e = .returned (.pointer (some v)) ∧ w' = w := by
  go_enter Yba.func8, Yba.ntmps8
  go_wp2
  go_ret
  exact ⟨rfl, rfl⟩

def kcells (T S o : Nat) : Array Value := #[.pointer (some ⟨S, o + 11, none⟩), .pointer (some ⟨T, 12, none⟩), .pointer (some ⟨S, o + 12, none⟩), .pointer (some ⟨T, 13, none⟩), .pointer (some ⟨S, o + 13, none⟩), .pointer (some ⟨T, 14, none⟩), .pointer (some ⟨S, o + 14, none⟩), .pointer (some ⟨T, 15, none⟩), .pointer (some ⟨S, o + 15, none⟩), .pointer (some ⟨T, 16, none⟩)]
theorem kinds7 (w : World) (T S o : Nat) :
    Calls Yba.prog 7 #[.pointer (some ⟨T, 0, none⟩), .pointer (some ⟨S, o, none⟩)] w fun e w' => e = .returned (.agg (kcells T S o)) ∧ ∃ n C, w' = (w.alloc (.cells C 49)).drewN n := by
  go_enter Yba.func7, Yba.ntmps7
  go_wp2
  go_region_held3 (fun _ => True) (trivial) (fail)
  go_wp2
  refine bodyPost_ret (results_cell_row rfl _ _ w.heap.size 49 (kcells T S o) (0, 0) _ rfl ?_ Yba.underlying49 rfl i49) rfl ?_
  · exact heap_alloc_new w _
  · exact ⟨rfl, _, _, rfl⟩

theorem info2 : (Yba.prog.info? 2).map (fun i => (i.zero, i.size, i.bytes)) = some (some (.int .i64 0), 1, 8) := by kernel_rfl
theorem make22 (n : Nat) (hn : n ≤ 1024) (w : World) : (Instr.makeSlice 22 (.int .i64 (n : Int)) (.int .i64 (n : Int))).run Yba.prog w = .ok (.slice (some ⟨w.heap.size, 0, none⟩) n n) (w.alloc (.cells (madeCells (Value.int .i64 0).cells n) 2)) := by
  obtain ⟨i0, hi, hz0, hz1, hz2⟩ := info_parts info2
  have h := run_make (P := Yba.prog) w 22 2 i0 _ Yba.underlying22 hi hz0 .i64 .i64 (n : Int) n (by omega) (by omega) (by rw [hz2]; omega) (by omega)
  simp only [Int.toNat_natCast, hz1, Nat.mul_one] at h
  exact h
structure Mk (w wr : World) (k n : Nat) (f : Nat → Int) : Prop where
  bel : Below w.heap.size w wr
  sz : wr.heap.size = w.heap.size + 1
  th : wr.there w.heap.size 0 k
  row : ∀ r, r < n → wr.cell? ⟨w.heap.size, r, none⟩ = some (.int .i64 (f r))
theorem Mk.start (w : World) (k : Nat) (f : Nat → Int) : Mk w (w.alloc (.cells (madeCells (Value.int .i64 0).cells k) 2)) k 0 f := by
  refine ⟨(Below.refl _ _).alloc (Nat.le_refl _) _, by simp, fun j hj => ?_, fun j hj => absurd hj (by omega)⟩
  have hs : j < (madeCells (Value.int .i64 0).cells k).size := by rw [size_madeCells]; exact hj
  constructor
  · simp [Array.getElem?_eq_getElem hs]
  · simp
theorem Mk.step {w wr : World} {k n : Nat} {f : Nat → Int} (h : Mk w wr k n f) (hn : n < k) : Mk w (wr.setCell ⟨w.heap.size, n, none⟩ (.int .i64 (f n))) k (n + 1) f := by
  refine ⟨h.bel.setCell (Nat.le_refl _) _, by simp [h.sz], fun j hj => ?_, fun r hr => ?_⟩
  · have := h.th j hj
    simp only [Nat.zero_add] at this ⊢
    refine ⟨?_, by simpa using this.2⟩
    by_cases e : n = j
    · subst e
      rw [World.cell?_setCell_same' _ _ _ this.1]; rfl
    · rw [World.cell?_setCell_other (h := by simp)]; exact this.1
  · have hth := h.th n hn
    simp only [Nat.zero_add] at hth
    by_cases e : n = r
    · subst e; exact World.cell?_setCell_same' _ _ _ hth.1
    · rw [World.cell?_setCell_other (h := by simp)]; exact h.row r (by omega)

theorem mk4 (w : World) (B : Nat) (hB : B ≤ w.heap.size) (a : Option Addr) (len cap : Nat) (z : List Int) (hl : len ≤ 4096) (hv : Vals w B a len z) (k i j : Nat) (hk : k ≤ 4) (hi : i < 40) (hj : j < 5) :
    Calls Yba.prog 4 #[.slice a len cap, .int .i64 k, .int .i64 i, .int .i64 j] w fun e w' => e = .returned (.slice (some ⟨w.heap.size, 0, none⟩) k k) ∧ Mk w w' k k (vl len z k i j) := by
  have hmk := make22 k (by omega)
  go_enter Yba.func4, Yba.ntmps4
  go_wp2
  clear hmk
  go_loopw [10] (fun v wr => ∃ n : Nat, n ≤ k ∧ v = .int .i64 n ∧ Mk w wr k n (vl len z k i j)) (fun i _ => k - (intOf i).toNat)
  case atStart => exact ⟨0, by omega, rfl, Mk.start _ _ _⟩
  case round =>
    obtain ⟨n, hn, rfl, hinv⟩ := hrel
    by_cases hlt : n < k
    · have hv' : Vals wr B a len z := fun h0 => by
        obtain ⟨b, o, e, hb, hc⟩ := hv h0
        exact ⟨b, o, e, hb, fun i hi => (hinv.bel.cell (by show b < _; omega)).trans (hc i hi)⟩
      have hth := hinv.th n hlt
      simp only [Nat.zero_add] at hth
      obtain ⟨v, hc⟩ := Option.isSome_iff_exists.1 hth.1
      have hf := hth.2
      have hst := hinv.step hlt
      clear hth hinv
      go_wp2_with (go_at_call 6; refine (val6 wr B a len cap z hl hv' k i j n hk hi hj (by omega)).mono ?_; rintro e w' ⟨rfl, rfl⟩)
      go_roundw
      case rel => exact ⟨n + 1, by omega, by go_num, hst⟩
      case measure => simp [intOf]; omega
    · obtain rfl : n = k := by omega
      go_wp2
      go_ret
      exact ⟨rfl, hinv⟩
end Go.Proofs.Ybulkbxau.lawS3673ALayout
