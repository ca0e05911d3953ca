/-
  stopConsuming (5) and the walk of 'drain.LawS3667CStops' (3).
-/
import Derived.Test.YbulkbwxoChan
import Derived.WalkSpells
import Derived.WalkSmall
import Derived.Laws.EntriesVeiled
import Derived.Deep.QuietTactic
import Derived.BigQuiet
namespace Go.Proofs.Ybulkbwxo
open Go.Conc Go.RowKit
set_option linter.unusedVariables false

/-- The consumer behind block cb, its lock free. -/
structure Cn (w : World) (cb : Nat) (dr co : Bool) (sf le : Value) : Prop where
  lt : cb < w.heap.size
  c4 : w.cell? ⟨cb, 4, none⟩ = some (.pointer none)
  c5 : w.cell? ⟨cb, 5, none⟩ = some (.int .i32 0)
  f5 : w.frozen? ⟨cb, 5, none⟩ = false
  c7 : w.cell? ⟨cb, 7, none⟩ = some (.bool dr)
  c8 : w.cell? ⟨cb, 8, none⟩ = some (.bool co)
  f8 : w.frozen? ⟨cb, 8, none⟩ = false
  c9 : w.cell? ⟨cb, 9, none⟩ = some sf
  f9 : w.frozen? ⟨cb, 9, none⟩ = false
  c10 : w.cell? ⟨cb, 10, none⟩ = some le
  f10 : w.frozen? ⟨cb, 10, none⟩ = false

theorem Cn.of {w w' : World} {cb : Nat} {dr co : Bool} {sf le : Value} (h : Cn w cb dr co sf le) (hb : w'.heap[cb]? = w.heap[cb]?) (hs : w.heap.size ≤ w'.heap.size) : Cn w' cb dr co sf le := by
  have hc : ∀ j, w'.cell? ⟨cb, j, none⟩ = w.cell? ⟨cb, j, none⟩ := fun j => World.cell?_of_block (w := w) (a := ⟨cb, j, none⟩) hb
  have hf : ∀ j, w'.frozen? ⟨cb, j, none⟩ = w.frozen? ⟨cb, j, none⟩ := fun j => World.frozen?_of_block (w := w) (a := ⟨cb, j, none⟩) hb
  exact ⟨by have := h.lt; omega, (hc _).trans h.c4, (hc _).trans h.c5, (hf _).trans h.f5, (hc _).trans h.c7, (hc _).trans h.c8, (hf _).trans h.f8, (hc _).trans h.c9, (hf _).trans h.f9, (hc _).trans h.c10, (hf _).trans h.f10⟩

theorem ne_off {cb i j : Nat} (h : i ≠ j) : (⟨cb, i, none⟩ : Addr) ≠ ⟨cb, j, none⟩ := fun e => h (congrArg Addr.off e)

theorem Cn.unlocked {w : World} {cb : Nat} {dr co : Bool} {sf le : Value} (h : Cn w cb dr co sf le) : Cn (((w.setCell ⟨cb, 5, none⟩ (.int .i32 1)).setCell ⟨cb, 8, none⟩ (.bool false)).setCell ⟨cb, 5, none⟩ (.int .i32 0)) cb dr false sf le := by
  have hc : ∀ j, j ≠ 5 → j ≠ 8 → (((w.setCell ⟨cb, 5, none⟩ (.int .i32 1)).setCell ⟨cb, 8, none⟩ (.bool false)).setCell ⟨cb, 5, none⟩ (.int .i32 0)).cell? ⟨cb, j, none⟩ = w.cell? ⟨cb, j, none⟩ := fun j h5 h8 => by
    rw [World.cell?_setCell_other _ _ _ _ (ne_off (Ne.symm h5)), World.cell?_setCell_other _ _ _ _ (ne_off (Ne.symm h8)), World.cell?_setCell_other _ _ _ _ (ne_off (Ne.symm h5))]
  have hf : ∀ j, (((w.setCell ⟨cb, 5, none⟩ (.int .i32 1)).setCell ⟨cb, 8, none⟩ (.bool false)).setCell ⟨cb, 5, none⟩ (.int .i32 0)).frozen? ⟨cb, j, none⟩ = w.frozen? ⟨cb, j, none⟩ := fun j => by simp only [World.frozen?_setCell]
  have k5 : ((w.setCell ⟨cb, 5, none⟩ (.int .i32 1)).setCell ⟨cb, 8, none⟩ (.bool false)).cell? ⟨cb, 5, none⟩ = some (.int .i32 1) := (World.cell?_setCell_other _ _ _ _ (ne_off (by omega))).trans (World.cell?_setCell_same _ _ _ h.c5)
  refine ⟨by have := h.lt; simpa using this, (hc _ (by omega) (by omega)).trans h.c4, World.cell?_setCell_same _ _ _ k5, (hf _).trans h.f5, (hc _ (by omega) (by omega)).trans h.c7, ?_, (hf _).trans h.f8, (hc _ (by omega) (by omega)).trans h.c9, (hf _).trans h.f9, (hc _ (by omega) (by omega)).trans h.c10, (hf _).trans h.f10⟩
  rw [World.cell?_setCell_other _ _ _ _ (ne_off (by omega))]
  exact World.cell?_setCell_same _ _ _ (u := .bool co) ((World.cell?_setCell_other _ _ _ _ (ne_off (by omega))).trans h.c8)
theorem Cn.shut {w : World} {cb c : Nat} {dr co : Bool} {sf le : Value} (h : Cn w cb dr co sf le) (hne : c ≠ cb) {cap : Nat} {buf : Array Value} {cl : Bool} {s r : Nat} {tm : Bool} : Cn (w.setChan c cap buf cl s r tm) cb dr co sf le :=
  h.of (by simp only [World.setChan]; rw [Array.getElem?_setIfInBounds_ne hne]) (by simp [World.setChan])

theorem stop5 (cb c : Nat) (dr co : Bool) (sf le : Value) (w : World) (h : Cn w cb dr co sf le) (hc : w.heap[c]? = some (.chan 0 #[] false 0 0 false)) (hne : c ≠ cb) :
    Calls Yba.prog 5 #[.pointer (some ⟨cb, 0, none⟩), .chan (some c)] w fun e w' => e = .returned (.tuple #[]) ∧ Cn w' cb dr false sf le ∧ w'.heap[c]? = some (.chan 0 #[] true 0 0 false) ∧ ∀ B, B ≤ cb → B ≤ c → Below B w w' := by
  have c8 := h.c8
  have f8 := h.f8
  have f5 := h.f5
  have k5 : ((w.setCell ⟨cb, 5, none⟩ (.int .i32 1)).setCell ⟨cb, 8, none⟩ (.bool false)).cell? ⟨cb, 5, none⟩ = some (.int .i32 1) := (World.cell?_setCell_other _ _ _ _ (ne_off (by omega))).trans (World.cell?_setCell_same _ _ _ h.c5)
  have kc : (((w.setCell ⟨cb, 5, none⟩ (.int .i32 1)).setCell ⟨cb, 8, none⟩ (.bool false)).setCell ⟨cb, 5, none⟩ (.int .i32 0)).heap[c]? = some (.chan 0 #[] false 0 0 false) := by
    rw [Below.heap_setCell _ _ _ _ hne, Below.heap_setCell _ _ _ _ hne, Below.heap_setCell _ _ _ _ hne]; exact hc
  go_enter Yba.func5, Yba.ntmps5
  go_wp2_with (first | (go_at_call 11; refine (lock11 cb 5 _ h.c5 h.f5).mono ?_; rintro e w' ⟨rfl, rfl⟩) | (go_at_call 7; refine (unlock7 cb 5 _ k5 (by simp [f5])).mono ?_; rintro e w' ⟨rfl, rfl⟩) | (show wpList _ _ _ ({ dst := _, op := Op.call { callee := .builtin .close, args := _, argTypes := _ }, type := _, pos := _, after := _, guard := _ } :: _) _ _; refine wpList_close rfl (.tmp 15) rfl c 0 0 0 #[] false rfl kc ?_))
  go_end0
  exact ⟨rfl, Cn.shut (h.unlocked) hne, heap_setChan _ _ _ _ _ _ _ _ (by have := (Array.getElem?_eq_some_iff.1 hc).1; simpa using this), fun B h1 h2 => below_setChan ((((Below.refl _ _).setCell (p := ⟨cb, 5, none⟩) h1 _).setCell (p := ⟨cb, 8, none⟩) h1 _).setCell (p := ⟨cb, 5, none⟩) h1 _) h2 _ _ _ _ _ _⟩

theorem mk22 (w : World) : (Instr.makeChan 22 (.int .i64 0)).run Yba.prog w = .ok (.chan (some w.heap.size)) (w.alloc (.chan 0 #[] false 0 0 false)) := by
  have h : (Yba.prog.info? 27).isSome = true := by kernel_rfl
  obtain ⟨i, hi⟩ := Option.isSome_iff_exists.1 h
  simpa using run_makeChan (P := Yba.prog) (w := w) Yba.underlying22 hi .i64 0 (by omega) (by omega)

theorem neqChan (w : World) (a b : Option Nat) : (binOp .neq 22 (.chan a) (.chan b)).run Yba.prog w = .ok (.bool (a != b)) w := by
  have h : ∀ d : Nat, (Op.equalIn (d + 1) 22 (.chan a) (.chan b)).run Yba.prog w = .ok (a == b) w := fun d => by
    simp [Op.equalIn, run_underlying Yba.underlying22]
  simp only [binOp]
  simp [Op.equal, Op.maxDepth, h 9999, bne]
theorem neqFunc (w : World) : (binOp .neq 34 .nilFunc .nilFunc).run Yba.prog w = .ok (.bool false) w := by
  have h : ∀ d : Nat, (Op.equalIn (d + 1) 34 .nilFunc .nilFunc).run Yba.prog w = .ok true w := fun d => by
    simp [Op.equalIn, run_underlying Yba.underlying34]
  simp only [binOp]
  simp [Op.equal, Op.maxDepth, h 9999]
theorem neqPtr (w : World) : (binOp .neq 26 (.pointer none) (.pointer none)).run Yba.prog w = .ok (.bool false) w := by
  have h : ∀ d : Nat, (Op.equalIn (d + 1) 26 (.pointer none) (.pointer none)).run Yba.prog w = .ok true w := fun d => by
    simp [Op.equalIn, run_underlying Yba.underlying26]
  simp only [binOp]
  simp [Op.equal, Op.maxDepth, h 9999]
theorem cn_new (w : World) (o : Obj) (dr co : Bool) (sf le : Value) (x0 x1 x2 x3 x6 : Value) (r : List Value) : Cn ((w.alloc o).alloc (.cells (x0 :: x1 :: x2 :: x3 :: .pointer none :: .int .i32 0 :: x6 :: .bool dr :: .bool co :: sf :: le :: r).toArray 43)) (w.heap.size + 1) dr co sf le := by
  constructor <;> simp

set_option maxHeartbeats 800000 in
set_option maxRecDepth 100000 in
theorem stops3 (co dr sl : Bool) (w : World) : Calls Yba.prog 3 #[.bool co, .bool dr, .bool sl] w fun e w' => e = .returned (.bool true) ∧ Below w.heap.size w w' := by
  have hmk := mk22
  have q1 := neqChan
  have q2 := neqFunc
  have q3 := neqPtr
  cases sl with
  | true =>
    go_enter Yba.func3, Yba.ntmps3
    go_wp2_with fail
    refine (stop5 (w.heap.size + 1) w.heap.size dr co .nilFunc (.chan (some w.heap.size)) _ (cn_new w _ dr co .nilFunc (.chan (some w.heap.size)) _ _ _ _ _ _) (by rw [Below.heap_alloc _ _ _ (by simp)]; exact heap_alloc_new w _) (by omega)).mono ?_
    rintro e w2 ⟨rfl, hcn, hch, hbel⟩
    have hB := ((((Below.refl _ w).alloc (Nat.le_refl _) _).alloc (by simp) _).trans (hbel w.heap.size (by omega) (Nat.le_refl _)))
    have c4 := hcn.c4
    have c5 := hcn.c5
    have f5 := hcn.f5
    have c7 := hcn.c7
    have c8 := hcn.c8
    have c9 := hcn.c9
    have c10 := hcn.c10
    have k5 : (w2.setCell ⟨w.heap.size + 1, 5, none⟩ (.int .i32 1)).cell? ⟨w.heap.size + 1, 5, none⟩ = some (.int .i32 1) := World.cell?_setCell_same _ _ _ c5
    have kc : ((w2.setCell ⟨w.heap.size + 1, 5, none⟩ (.int .i32 1)).setCell ⟨w.heap.size + 1, 5, none⟩ (.int .i32 0)).heap[w.heap.size]? = some (.chan 0 #[] true 0 0 false) := by
      rw [Below.heap_setCell _ _ _ _ (by simp), Below.heap_setCell _ _ _ _ (by simp)]; exact hch
    clear hcn hbel hmk
    go_wp2_with (first | (go_at_call 6; refine (try6 (w.heap.size + 1) 5 _ c5 f5).mono ?_; rintro e w' ⟨rfl, rfl⟩) | (go_at_call 7; refine (unlock7 (w.heap.size + 1) 5 _ k5 (by simp [f5])).mono ?_; rintro e w' ⟨rfl, rfl⟩) | (go_at_call 8; refine (closed_yes w.heap.size 0 0 0 false _ kc).mono ?_; rintro e w' ⟨rfl, rfl⟩))
    go_ret
    exact ⟨rfl, ((hB.setCell (p := ⟨w.heap.size + 1, 5, none⟩) (Nat.le_succ _) _).setCell (p := ⟨w.heap.size + 1, 5, none⟩) (Nat.le_succ _) _).alloc (by have := hB.size; simpa using this) _⟩
  | false =>
    go_enter Yba.func3, Yba.ntmps3
    go_wp2_with fail
    refine (stop5 (w.heap.size + 1) w.heap.size dr co .nilFunc (.chan none) _ (cn_new w _ dr co .nilFunc (.chan none) _ _ _ _ _ _) (by rw [Below.heap_alloc _ _ _ (by simp)]; exact heap_alloc_new w _) (by omega)).mono ?_
    rintro e w2 ⟨rfl, hcn, hch, hbel⟩
    have hB := ((((Below.refl _ w).alloc (Nat.le_refl _) _).alloc (by simp) _).trans (hbel w.heap.size (by omega) (Nat.le_refl _)))
    have c4 := hcn.c4
    have c5 := hcn.c5
    have f5 := hcn.f5
    have c7 := hcn.c7
    have c8 := hcn.c8
    have c9 := hcn.c9
    have c10 := hcn.c10
    have k5 : (w2.setCell ⟨w.heap.size + 1, 5, none⟩ (.int .i32 1)).cell? ⟨w.heap.size + 1, 5, none⟩ = some (.int .i32 1) := World.cell?_setCell_same _ _ _ c5
    have kc : ((w2.setCell ⟨w.heap.size + 1, 5, none⟩ (.int .i32 1)).setCell ⟨w.heap.size + 1, 5, none⟩ (.int .i32 0)).heap[w.heap.size]? = some (.chan 0 #[] true 0 0 false) := by
      rw [Below.heap_setCell _ _ _ _ (by simp), Below.heap_setCell _ _ _ _ (by simp)]; exact hch
    clear hcn hbel hmk
    go_wp2_with (first | (go_at_call 6; refine (try6 (w.heap.size + 1) 5 _ c5 f5).mono ?_; rintro e w' ⟨rfl, rfl⟩) | (go_at_call 7; refine (unlock7 (w.heap.size + 1) 5 _ k5 (by simp [f5])).mono ?_; rintro e w' ⟨rfl, rfl⟩) | (go_at_call 8; refine (closed_yes w.heap.size 0 0 0 false _ kc).mono ?_; rintro e w' ⟨rfl, rfl⟩))
    go_ret
    exact ⟨rfl, ((hB.setCell (p := ⟨w.heap.size + 1, 5, none⟩) (Nat.le_succ _) _).setCell (p := ⟨w.heap.size + 1, 5, none⟩) (Nat.le_succ _) _).alloc (by have := hB.size; simpa using this) _⟩
end Go.Proofs.Ybulkbwxo
