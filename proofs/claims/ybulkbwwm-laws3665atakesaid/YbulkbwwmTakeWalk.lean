/-
  THE WALK of 'core.LawS3665ATake': 'make', a loop that lays one message a round, TakeMessages, a loop that reads them back, TakeMessages again.
-/
import Derived.Test.YbulkbwwmRows
import Derived.WalkKit
import Derived.ProofKit
import Derived.OpenShut
import Derived.ShutString
import Derived.ChangeOld
import Derived.Below
import Derived.Deep.QuietTactic
import Derived.BigQuiet
import Derived.Deep.Light
import Derived.WalkSpells
import Derived.Lib.SliceRun
import Derived.WalkSmall
import Derived.Deep.MidRow
import Derived.Deep.DeepMust
namespace Go.Proofs.Ybulkbwwm.lawS3665ATake
open Go.ChangeShapes Go.WideShapes Go.ChangeAt Go.RowKit
set_option linter.unusedVariables false
def zmsg : List Value := [.int .u8 0, .string ByteArray.empty, .string ByteArray.empty, .int .u64 0, .int .u64 0, .int .u64 0, .int .u64 0, .string ByteArray.empty, .slice none 0 0, .map none, .slice none 0 0]
theorem info32 : (Yba.prog.info? 32).map (fun i => (i.zero, i.size, i.bytes)) = some (some (.agg zmsg.toArray), 11, 144) := by kernel_rfl

theorem make24 (n : Nat) (hn : n ≤ 1024) (w : World) : (Instr.makeSlice 24 (.int .i64 (n : Int)) (.int .i64 (n : Int))).run Yba.prog w = .ok (.slice (some ⟨w.heap.size, 0, none⟩) n n) (w.alloc (.cells (madeCells zmsg.toArray (n * 11)) 32)) := by
  obtain ⟨i0, hi, hz0, hz1, hz2⟩ := info_parts info32
  have h := run_make (P := Yba.prog) w 24 32 i0 _ Yba.underlying24 hi hz0 .i64 .i64 (n : Int) n (by omega) (by omega) (by rw [hz2]; omega) (by omega)
  simp only [Int.toNat_natCast, hz1] at h
  exact h

theorem take_any (b : Nat) (v : Value) (w : World) (hs : ∃ a l c, v = .slice a l c) (h : w.cell? ⟨b, 22, none⟩ = some v) (hf : w.frozen? ⟨b, 22, none⟩ = false) :
    Calls Yba.prog 4 #[.pointer (some ⟨b, 0, none⟩)] w fun e w' => e = .returned v ∧ w' = w.setCell ⟨b, 22, none⟩ (.slice none 0 0) := by
  obtain ⟨a, l, c, rfl⟩ := hs
  go_enter Yba.func4, Yba.ntmps4
  go_wp2
  go_ret
  exact ⟨rfl, rfl⟩

def tval (z1 : List Int) (len1 k : Nat) : Int := if len1 = 0 then 0 else z1[k % len1]?.getD 0
def mrow (kd : Int) (id : ByteArray) (t : Int) (i : Nat) : List Value := [.int .u8 kd, .string id, .string ByteArray.empty, .int .u64 t, .int .u64 0, .int .u64 0, .int .u64 i, .string ByteArray.empty, .slice none 0 0, .map none, .slice none 0 0]
def rowOf (z0 z1 : List Int) (len1 : Nat) (id : ByteArray) (j : Nat) : List Value := mrow (z0[j]?.getD 0) id (tval z1 len1 j) j
structure Inv1 (w wr : World) (n k : Nat) (row : Nat → List Value) : Prop where
  bel : Below w.heap.size w wr
  sz : wr.heap.size = w.heap.size + 1
  th : wr.there w.heap.size 0 (n * 11)
  rows : ∀ j, j < k → wr.rangeAt w.heap.size (j * 11) (row j)
theorem below_setCells {B : Nat} {a : World} (b : Nat) (hB : B ≤ b) : ∀ (vs : List Value) (o : Nat) (w : World), Below B a w → Below B a (w.setCells b o vs)
  | [], _, _, h => h
  | v :: r, o, w, h => by
    rw [World.setCells]
    exact below_setCells b hB r (o + 1) _ (h.setCell (p := ⟨b, o, none⟩) hB v)
theorem size_setCells (b : Nat) : ∀ (vs : List Value) (o : Nat) (w : World), (w.setCells b o vs).heap.size = w.heap.size
  | [], _, _ => rfl
  | v :: r, o, w => by rw [World.setCells, size_setCells b r]; simp
theorem inv1_step {w wr : World} {n k : Nat} {row : Nat → List Value} (h : Inv1 w wr n k row) (hlt : k < n) (hl : ∀ j, (row j).length = 11) :
    Inv1 w (wr.setCells w.heap.size (k * 11) (row k)) n (k + 1) row := by
  have hthk : wr.there w.heap.size (k * 11) (row k).length := fun j hj => by
    have := h.th (k * 11 + j) (by rw [hl] at hj; omega)
    simpa using this
  refine ⟨below_setCells _ (Nat.le_refl _) _ _ _ h.bel, by rw [size_setCells]; exact h.sz, World.there_setCells h.th _ _ _, fun j hj => ?_⟩
  by_cases e : j = k
  · subst e; exact World.rangeAt_setCells_same _ _ _ _ hthk
  · exact World.rangeAt_setCells_apart (h.rows j (by omega)) _ _ _ (.inr (.inl (by rw [hl]; omega)))
theorem inv1_start (w : World) (n : Nat) (row : Nat → List Value) : Inv1 w (w.alloc (.cells (madeCells zmsg.toArray (n * 11)) 32)) n 0 row := by
  refine ⟨(Below.refl _ _).alloc (Nat.le_refl _) _, by simp, fun j hj => ?_, fun j hj => absurd hj (by omega)⟩
  have hs : j < (madeCells zmsg.toArray (n * 11)).size := by rw [size_madeCells]; exact hj
  constructor
  · simp [Array.getElem?_eq_getElem hs]
  · simp
theorem there_k {w wr : World} {n k : Nat} {row : Nat → List Value} (h : Inv1 w wr n k row) (hlt : k < n) : wr.there w.heap.size (k * 11) 11 := fun j hj => by
  have := h.th (k * 11 + j) (by omega)
  simpa using this

theorem mrow_size (kd : Int) (id : ByteArray) (t : Int) (i : Nat) : (mrow kd id t i).toArray.size = 11 := rfl
theorem mrow_one (kd : Int) (id : ByteArray) (t : Int) (i : Nat) : (mrow kd id t i).toArray.all (·.oneCell') = true := by simp [mrow, Value.oneCell']
theorem i32s : (Yba.prog.info? 32).map (·.size) = some 11 := by kernel_rfl
theorem i32m (kd : Int) (id : ByteArray) (t : Int) (i : Nat) : (Yba.prog.info? 32).map (·.size) = some (mrow kd id t i).toArray.size := by rw [mrow_size]; exact i32s

theorem cell2 {wr : World} {A : Obj} {C : Array Value} {t B j : Nat} (h : wr.heap.size = B + 1) : ((wr.alloc A).alloc (.cells C t)).cell? ⟨B + 1 + 1, j, none⟩ = C[j]? := by
  have := World.cell?_alloc_new (wr.alloc A) C t j
  simpa [h] using this
theorem frozen2 {wr : World} {A : Obj} {C : Array Value} {t B j : Nat} (h : wr.heap.size = B + 1) : ((wr.alloc A).alloc (.cells C t)).frozen? ⟨B + 1 + 1, j, none⟩ = false := by
  have := World.frozen?_alloc_new (wr.alloc A) C t j
  simpa [h] using this
theorem cell1 {wr : World} {A : Array Value} {C : Obj} {t B j : Nat} (h : wr.heap.size = B + 1) : ((wr.alloc (.cells A t)).alloc C).cell? ⟨B + 1, j, none⟩ = A[j]? := by
  rw [World.cell?_alloc_lt _ _ _ (by simp [h])]
  have := World.cell?_alloc_new wr A t j
  simpa [h] using this

structure Inv2 (w wr : World) (n : Nat) (row : Nat → List Value) : Prop where
  bel : Below w.heap.size w wr
  sz : w.heap.size + 3 ≤ wr.heap.size
  rows : ∀ j, j < n → wr.rangeAt w.heap.size (j * 11) (row j)
  c22 : wr.cell? ⟨w.heap.size + 1 + 1, 22, none⟩ = some (.slice none 0 0)
  f22 : wr.frozen? ⟨w.heap.size + 1 + 1, 22, none⟩ = false
  c21 : wr.cell? ⟨w.heap.size + 1 + 1, 21, none⟩ = some (.slice (some ⟨w.heap.size + 1, 0, none⟩) 1 1)
  c1 : wr.cell? ⟨w.heap.size + 1, 1, none⟩ = some (.int .u64 7)
theorem inv2_start {w wr : World} {n : Nat} {row : Nat → List Value} {A C : Array Value} {s t : Nat} (h : Inv1 w wr n n row) (ha : A[1]? = some (.int .u64 7))
    (hc1 : C[21]? = some (.slice (some ⟨w.heap.size + 1, 0, none⟩) 1 1)) (hc2 : C[22]? = some (.slice none 0 0)) : Inv2 w ((wr.alloc (.cells A s)).alloc (.cells C t)) n row := by
  have hsz := h.sz
  refine ⟨(h.bel.alloc (by omega) _).alloc (by simp; omega) _, by simp; omega, fun j hj => World.rangeAt_alloc (World.rangeAt_alloc (h.rows j hj) _) _, ?_, ?_, ?_, ?_⟩
  · rw [cell2 hsz]; exact hc2
  · rw [frozen2 hsz]
  · rw [cell2 hsz]; exact hc1
  · rw [cell1 hsz]; exact ha
theorem Inv2.step {w wr wr' : World} {n : Nat} {row : Nat → List Value} (h : Inv2 w wr n row) (hb : Below (w.heap.size + 3) wr wr') : Inv2 w wr' n row := by
  have hs := h.sz
  refine ⟨h.bel.trans (hb.mono (by omega)), by have := hb.size; omega, fun j hj i v hv => ?_, ?_, ?_, ?_, ?_⟩
  · rw [hb.cell (p := ⟨w.heap.size, j * 11 + i, none⟩) (by show w.heap.size < _; omega)]; exact h.rows j hj i v hv
  · rw [hb.cell (p := ⟨w.heap.size + 1 + 1, 22, none⟩) (by show w.heap.size + 1 + 1 < _; omega)]; exact h.c22
  · rw [hb.frozen (p := ⟨w.heap.size + 1 + 1, 22, none⟩) (by show w.heap.size + 1 + 1 < _; omega)]; exact h.f22
  · rw [hb.cell (p := ⟨w.heap.size + 1 + 1, 21, none⟩) (by show w.heap.size + 1 + 1 < _; omega)]; exact h.c21
  · rw [hb.cell (p := ⟨w.heap.size + 1, 1, none⟩) (by show w.heap.size + 1 < _; omega)]; exact h.c1

set_option maxHeartbeats 800000 in
theorem walk1 (n : Nat) (hn : n ≤ 1024) (a0 : Option Addr) (cap0 : Nat) (a1 : Option Addr) (len1 cap1 : Nat) (z0 z1 : List Int) (a2 : ByteArray) (w : World)
   (h0 : n ≠ 0 → ∃ b o, a0 = some ⟨b, o, none⟩ ∧ b < w.heap.size ∧ ∀ i, i < n → w.cell? ⟨b, o + i, none⟩ = some (.int .u8 (z0.getD i 0)))
   (hl1 : len1 ≤ maxLen)
   (h1 : len1 ≠ 0 → ∃ b o, a1 = some ⟨b, o, none⟩ ∧ b < w.heap.size ∧ ∀ i, i < len1 → w.cell? ⟨b, o + i, none⟩ = some (.int .u64 (z1.getD i 0))) :
    Calls Yba.prog 3 #[.slice a0 n cap0, .slice a1 len1 cap1, .string a2] w fun e w' => e = .returned (.bool true) ∧ Below w.heap.size w w' := by
  have hmk := make24 n hn
  unfold maxLen at hl1
  go_enter Yba.func3, Yba.ntmps3
  go_wp2
  clear hmk
  go_loopw [8] (fun i wr => ∃ k : Nat, k ≤ n ∧ i = .int .i64 k ∧ Inv1 w wr n k (rowOf z0 z1 len1 a2)) (fun i _ => n - (intOf i).toNat)
  case atStart => exact ⟨0, by omega, rfl, inv1_start _ _ _⟩
  case round =>
    obtain ⟨k, hk, rfl, hinv⟩ := hrel
    by_cases hlt : k < n
    · obtain ⟨b0, o0, rfl, hb0, hc0⟩ := h0 (by omega)
      have g0 : wr.cell? ⟨b0, o0 + k, none⟩ = some (.int .u8 (z0.getD k 0)) := (hinv.bel.cell (by exact hb0)).trans (hc0 k hlt)
      have hstep := inv1_step hinv hlt (fun _ => rfl)
      clear h0 hc0
      by_cases hz : len1 = 0
      · subst hz
        have ht : wr.there w.heap.size (k * 11) (mrow (z0.getD k 0) a2 0 k).toArray.size := there_k hinv hlt
        clear h1 hinv
        have e : rowOf z0 z1 0 a2 k = mrow (z0[k]?.getD 0) a2 0 k := rfl
        rw [e] at hstep
        clear e
        go_wp2_with (show wpList _ _ _ ({ dst := _, op := Op.store 32 (.tmp 48) (.tmp 47), type := _, pos := _, after := _, guard := _ } :: _) _ _; refine wpList_store_mid rfl 32 (.tmp 48) (.tmp 47) rfl w.heap.size (k * 11) (mrow (z0.getD k 0) a2 0 k).toArray rfl rfl ht (i32m _ _ _ _) (mrow_one _ _ _ _) ?_)
        go_roundw
        case rel => exact ⟨k + 1, by omega, by go_num, hstep⟩
        case measure => simp [intOf]; omega
      · obtain ⟨b1, o1, rfl, hb1, hc1⟩ := h1 hz
        have hml : k % len1 < len1 := Nat.mod_lt _ (by omega)
        have g1 : wr.cell? ⟨b1, o1 + k % len1, none⟩ = some (.int .u64 (z1.getD (k % len1) 0)) := (hinv.bel.cell (by exact hb1)).trans (hc1 _ hml)
        have ht : wr.there w.heap.size (k * 11) (mrow (z0[k]?.getD 0) a2 (z1[k % len1]?.getD 0) k).toArray.size := there_k hinv hlt
        clear h1 hc1 hinv
        have hp1 : (0 : Int) < len1 := by omega
        have e : rowOf z0 z1 len1 a2 k = mrow (z0[k]?.getD 0) a2 (z1[k % len1]?.getD 0) k := by simp [rowOf, tval, hz]
        rw [e] at hstep
        clear e
        go_wp2_with (show wpList _ _ _ ({ dst := _, op := Op.store 32 (.tmp 48) (.tmp 47), type := _, pos := _, after := _, guard := _ } :: _) _ _; refine wpList_store_mid rfl 32 (.tmp 48) (.tmp 47) rfl w.heap.size (k * 11) (mrow (z0[k]?.getD 0) a2 (z1[k % len1]?.getD 0) k).toArray rfl rfl ht (i32m _ _ _ _) (mrow_one _ _ _ _) ?_)
        go_roundw
        case rel => exact ⟨k + 1, by omega, by go_num, hstep⟩
        case measure => simp [intOf]; omega
    · obtain rfl : k = n := by omega
      have hsz := hinv.sz
      go_wp2_with fail
      refine (take_any (w.heap.size + 1 + 1) (.slice (some ⟨w.heap.size, 0, none⟩) k k) _ ⟨_, _, _, rfl⟩ (by rw [cell2 hsz]; rfl) (by rw [frozen2 hsz])).mono ?_
      rintro e w' ⟨rfl, rfl⟩
      go_wp2_with fail
      go_loopw [12] (fun i wr => ∃ j : Nat, j ≤ k ∧ i = .int .i64 j ∧ Inv2 w wr k (rowOf z0 z1 len1 a2)) (fun i _ => k - (intOf i).toNat)
      case atStart => exact ⟨0, by omega, rfl, inv2_start hinv rfl rfl rfl⟩
      case round =>
        clear hinv hsz
        obtain ⟨j, hj, rfl, hinv⟩ := hrel
        by_cases hlt : j < k
        · obtain ⟨b0, o0, rfl, hb0, hc0⟩ := h0 (by omega)
          have g0 : wr.cell? ⟨b0, o0 + j, none⟩ = some (.int .u8 (z0.getD j 0)) := (hinv.bel.cell (by exact hb0)).trans (hc0 j hlt)
          have hr := hinv.rows j hlt
          have hnb0 : b0 < wr.heap.size := by have := hinv.sz; omega
          clear h0 hc0
          by_cases hz : len1 = 0
          · subst hz
            have hr' : wr.rangeAt w.heap.size (j * 11) [.int .u8 (z0[j]?.getD 0), .string a2, .string ByteArray.empty, .int .u64 0, .int .u64 0, .int .u64 0, .int .u64 j, .string ByteArray.empty, .slice none 0 0, .map none, .slice none 0 0] := hr
            clear h1 hr
            go_wp2_with (show wpList _ _ _ ({ dst := _, op := Op.load 32 (.tmp 81), type := _, pos := _, after := _, guard := _ } :: _) _ _; refine wpList_load_mid rfl 32 (.tmp 81) rfl w.heap.size (j * 11) rfl [.int .u8 (z0[j]?.getD 0), .string a2, .string ByteArray.empty, .int .u64 0, .int .u64 0, .int .u64 0, .int .u64 j, .string ByteArray.empty, .slice none 0 0, .map none, .slice none 0 0] _ hr' Yba.underlying32 rfl i32s ?_)
            go_quiet (fail)
            go_wp2
            go_roundw
            case rel => exact ⟨j + 1, by omega, by go_num, hinv.step (below_drewN (((Below.refl _ _).alloc hinv.sz _)) _)⟩
            case measure => simp [intOf]; omega
          · obtain ⟨b1, o1, rfl, hb1, hc1⟩ := h1 hz
            have hml : j % len1 < len1 := Nat.mod_lt _ (by omega)
            have g1 : wr.cell? ⟨b1, o1 + j % len1, none⟩ = some (.int .u64 (z1.getD (j % len1) 0)) := (hinv.bel.cell (by exact hb1)).trans (hc1 _ hml)
            have e : rowOf z0 z1 len1 a2 j = mrow (z0[j]?.getD 0) a2 (z1[j % len1]?.getD 0) j := by simp [rowOf, tval, hz]
            rw [e] at hr
            have hr' : wr.rangeAt w.heap.size (j * 11) [.int .u8 (z0[j]?.getD 0), .string a2, .string ByteArray.empty, .int .u64 (z1[j % len1]?.getD 0), .int .u64 0, .int .u64 0, .int .u64 j, .string ByteArray.empty, .slice none 0 0, .map none, .slice none 0 0] := hr
            have hnb1 : b1 < wr.heap.size := by have := hinv.sz; omega
            clear h1 hc1 hr e
            have hp1 : (0 : Int) < len1 := by omega
            go_wp2_with (show wpList _ _ _ ({ dst := _, op := Op.load 32 (.tmp 81), type := _, pos := _, after := _, guard := _ } :: _) _ _; refine wpList_load_mid rfl 32 (.tmp 81) rfl w.heap.size (j * 11) rfl [.int .u8 (z0[j]?.getD 0), .string a2, .string ByteArray.empty, .int .u64 (z1[j % len1]?.getD 0), .int .u64 0, .int .u64 0, .int .u64 j, .string ByteArray.empty, .slice none 0 0, .map none, .slice none 0 0] _ hr' Yba.underlying32 rfl i32s ?_)
            go_quiet (fail)
            go_wp2
            go_roundw
            case rel => exact ⟨j + 1, by omega, by go_num, hinv.step (below_drewN (((Below.refl _ _).alloc hinv.sz _)) _)⟩
            case measure => simp [intOf]; omega
        · have hsz := hinv.sz
          have c22 := hinv.c22
          have f22 := hinv.f22
          have c21 := hinv.c21
          have c1 := hinv.c1
          have q1 : ∀ (w : World) (a : Option Addr) (n c n' c' : Nat), (binOp .eql 24 (.slice a n c) (.slice none n' c')).run Yba.prog w = .ok (.bool a.isNone) w := fun w a n c n' c' => Lib.run_eql_slice_nil w _ _ a n c n' c' Yba.underlying24
          have q2 : ∀ (w : World) (a : Option Addr) (n c n' c' : Nat), (binOp .neq 24 (.slice a n c) (.slice none n' c')).run Yba.prog w = .ok (.bool (!a.isNone)) w := fun w a n c n' c' => run_neq_slice_nil_any w _ _ a n c n' c' Yba.underlying24
          have bel := hinv.bel
          clear h0 h1 hinv
          go_wp2_with (go_at_call 4; refine (take_any (w.heap.size + 1 + 1) (.slice none 0 0) _ ⟨_, _, _, rfl⟩ c22 f22).mono ?_; rintro e w' ⟨rfl, rfl⟩)
          go_ret
          exact ⟨rfl, bel.setCell (by show w.heap.size ≤ w.heap.size + 1 + 1; omega) _⟩
end Go.Proofs.Ybulkbwwm.lawS3665ATake
