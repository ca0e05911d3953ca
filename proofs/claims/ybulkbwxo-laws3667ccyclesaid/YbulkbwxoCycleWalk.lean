/-
  startConsuming (10) and the walk of 'drain.LawS3667CCycle' (4).
-/
import Derived.Test.YbulkbwxoStopsWalk
import Derived.Defers
import Derived.RegionTactic
import Derived.BigRegion
import Derived.Stop.IfaceNil
namespace Go.Proofs.Ybulkbwxo
open Go.Conc Go.RowKit
set_option linter.unusedVariables false

/-- The consumer behind block cb, its lock's state word st. -/
structure Cs (w : World) (cb : Nat) (st : Int) (dr co : Bool) (sf le : Value) : Prop where
  lt : cb < w.heap.size
  c4 : w.cell? ⟨cb, 4, none⟩ = some (.pointer none)
  c5 : w.cell? ⟨cb, 5, none⟩ = some (.int .i32 st)
  f5 : w.frozen? ⟨cb, 5, none⟩ = false
  c7 : w.cell? ⟨cb, 7, none⟩ = some (.bool dr)
  c8 : w.cell? ⟨cb, 8, none⟩ = some (.bool co)
  f8 : w.frozen? ⟨cb, 8, none⟩ = false
  c9 : w.cell? ⟨cb, 9, none⟩ = some sf
  f9 : w.frozen? ⟨cb, 9, none⟩ = false
  c10 : w.cell? ⟨cb, 10, none⟩ = some le
  f10 : w.frozen? ⟨cb, 10, none⟩ = false
theorem Cn.cs {w : World} {cb : Nat} {dr co : Bool} {sf le : Value} (h : Cn w cb dr co sf le) : Cs w cb 0 dr co sf le := ⟨h.lt, h.c4, h.c5, h.f5, h.c7, h.c8, h.f8, h.c9, h.f9, h.c10, h.f10⟩
theorem Cs.cn {w : World} {cb : Nat} {dr co : Bool} {sf le : Value} (h : Cs w cb 0 dr co sf le) : Cn w cb dr co sf le := ⟨h.lt, h.c4, h.c5, h.f5, h.c7, h.c8, h.f8, h.c9, h.f9, h.c10, h.f10⟩
theorem Cs.of {w w' : World} {cb : Nat} {st : Int} {dr co : Bool} {sf le : Value} (h : Cs w cb st dr co sf le) (hb : w'.heap[cb]? = w.heap[cb]?) (hs : w.heap.size ≤ w'.heap.size) : Cs w' cb st dr co sf le := by
  have hc : ∀ j, w'.cell? ⟨cb, j, none⟩ = w.cell? ⟨cb, j, none⟩ := fun j => World.cell?_of_block (w := w) (a := ⟨cb, j, none⟩) hb
  have hf : ∀ j, w'.frozen? ⟨cb, j, none⟩ = w.frozen? ⟨cb, j, none⟩ := fun j => World.frozen?_of_block (w := w) (a := ⟨cb, j, none⟩) hb
  exact ⟨by have := h.lt; omega, (hc _).trans h.c4, (hc _).trans h.c5, (hf _).trans h.f5, (hc _).trans h.c7, (hc _).trans h.c8, (hf _).trans h.f8, (hc _).trans h.c9, (hf _).trans h.f9, (hc _).trans h.c10, (hf _).trans h.f10⟩
theorem Cs.alloc {w : World} {cb : Nat} {st : Int} {dr co : Bool} {sf le : Value} (h : Cs w cb st dr co sf le) (o : Obj) : Cs (w.alloc o) cb st dr co sf le := h.of (Below.heap_alloc _ _ _ h.lt) (by simp)
theorem Cs.drew {w : World} {cb : Nat} {st : Int} {dr co : Bool} {sf le : Value} (h : Cs w cb st dr co sf le) : Cs w.drew cb st dr co sf le := h.of rfl (Nat.le_refl _)
theorem Cs.set5 {w : World} {cb : Nat} {st : Int} {dr co : Bool} {sf le : Value} (h : Cs w cb st dr co sf le) (st' : Int) : Cs (w.setCell ⟨cb, 5, none⟩ (.int .i32 st')) cb st' dr co sf le := by
  constructor
  case lt => simpa using h.lt
  all_goals first
    | exact World.cell?_setCell_same _ _ _ h.c5
    | (rw [World.cell?_setCell_other _ _ _ _ (ne_off (by omega))]; first | exact h.c4 | exact h.c5 | exact h.c7 | exact h.c8 | exact h.c9 | exact h.c10)
    | (rw [World.frozen?_setCell]; first | exact h.f5 | exact h.f8 | exact h.f9 | exact h.f10)
theorem Cs.set8 {w : World} {cb : Nat} {st : Int} {dr co : Bool} {sf le : Value} (h : Cs w cb st dr co sf le) (co' : Bool) : Cs (w.setCell ⟨cb, 8, none⟩ (.bool co')) cb st dr co' sf le := by
  constructor
  case lt => simpa using h.lt
  all_goals first
    | exact World.cell?_setCell_same _ _ _ h.c8
    | (rw [World.cell?_setCell_other _ _ _ _ (ne_off (by omega))]; first | exact h.c4 | exact h.c5 | exact h.c7 | exact h.c8 | exact h.c9 | exact h.c10)
    | (rw [World.frozen?_setCell]; first | exact h.f5 | exact h.f8 | exact h.f9 | exact h.f10)
theorem Cs.set9 {w : World} {cb : Nat} {st : Int} {dr co : Bool} {sf le : Value} (h : Cs w cb st dr co sf le) (sf' : Value) : Cs (w.setCell ⟨cb, 9, none⟩ (sf')) cb st dr co sf' le := by
  constructor
  case lt => simpa using h.lt
  all_goals first
    | exact World.cell?_setCell_same _ _ _ h.c9
    | (rw [World.cell?_setCell_other _ _ _ _ (ne_off (by omega))]; first | exact h.c4 | exact h.c5 | exact h.c7 | exact h.c8 | exact h.c9 | exact h.c10)
    | (rw [World.frozen?_setCell]; first | exact h.f5 | exact h.f8 | exact h.f9 | exact h.f10)
theorem Cs.set10 {w : World} {cb : Nat} {st : Int} {dr co : Bool} {sf le : Value} (h : Cs w cb st dr co sf le) (le' : Value) : Cs (w.setCell ⟨cb, 10, none⟩ (le')) cb st dr co sf le' := by
  constructor
  case lt => simpa using h.lt
  all_goals first
    | exact World.cell?_setCell_same _ _ _ h.c10
    | (rw [World.cell?_setCell_other _ _ _ _ (ne_off (by omega))]; first | exact h.c4 | exact h.c5 | exact h.c7 | exact h.c8 | exact h.c9 | exact h.c10)
    | (rw [World.frozen?_setCell]; first | exact h.f5 | exact h.f8 | exact h.f9 | exact h.f10)

theorem new14 (s : ByteArray) (w : World) :
    Calls Yba.prog 14 #[.string s] w fun e w' => e = .returned (.iface 61 (.pointer (some ⟨w.heap.size, 0, none⟩))) ∧ w' = w.alloc (.cells #[.string s] 63) := by
  go_enter Yba.func14, Yba.ntmps14
  go_wp2
  go_ret
  exact ⟨rfl, rfl⟩

theorem unlock7d (b o : Nat) (u : FrameMode) (w : World) (hc : w.cell? ⟨b, o, none⟩ = some (.int .i32 1)) (hz : w.frozen? ⟨b, o, none⟩ = false) :
    CallsD Yba.prog 7 #[.pointer (some ⟨b, o, none⟩)] u w fun e u' w' => u' = u ∧ (e = .returned (.tuple #[]) ∧ w' = w.setCell ⟨b, o, none⟩ (.int .i32 0)) := MuLone.unlock_deferred Yba.muLib ⟨b, o, none⟩ u w hc hz

set_option maxRecDepth 100000 in
theorem start_busy (cb : Nat) (sv sf le : Value) (w : World) (h : Cn w cb false true sf le) :
    Calls Yba.prog 10 #[.pointer (some ⟨cb, 0, none⟩), sv] w fun e w' => e = .returned (.tuple #[.chan none, .iface 61 (.pointer (some ⟨w.heap.size, 0, none⟩))]) ∧ Cn w' cb false true sf le ∧ (∀ k, k ≠ cb → k < w.heap.size → w'.heap[k]? = w.heap[k]?) ∧ ∀ B, B ≤ cb → Below B w w' := by
  have c7 := h.c7
  have c8 := h.c8
  have hlt := h.lt
  go_enter_defers Yba.func10, Yba.ntmps10
  go_wp2_with (first | (go_at_call 11; refine (lock11 cb 5 _ h.c5 h.f5).mono ?_; rintro e w' ⟨rfl, rfl⟩) | (go_at_call 14; refine (new14 _ _).mono ?_; rintro e w' ⟨rfl, rfl⟩))
  refine leaves_cons (f := 7) (args := #[.pointer (some ⟨cb, 5, none⟩)]) (by simp) (by simp [go_sem]) ?_
  have k := ((h.cs.set5 1).alloc (.cells #[.string ⟨#[100, 114, 97, 105, 110, 58, 32, 116, 104, 101, 32, 99, 111, 110, 115, 117, 109, 101, 114, 39, 115, 32, 67, 111, 110, 115, 117, 109, 101, 32, 105, 115, 32, 114, 117, 110, 110, 105, 110, 103, 32, 97, 108, 114, 101, 97, 100, 121]⟩] 63))
  refine (unlock7d cb 5 .returning _ k.c5 k.f5).mono ?_
  rintro e u' w'' ⟨rfl, rfl, rfl⟩
  refine ⟨_, results_tmp2 rfl _ _ _, rfl, (k.set5 0).cn, fun j h1 h2 => ?_, fun B hB => ?_⟩
  · rw [Below.heap_setCell _ _ _ _ h1, Below.heap_alloc _ _ _ (by simpa using h2), Below.heap_setCell _ _ _ _ h1]
  · exact (((Below.refl _ _).setCell (p := ⟨cb, 5, none⟩) hB _).alloc (by simp; omega) _).setCell (p := ⟨cb, 5, none⟩) hB _

set_option maxRecDepth 100000 in
theorem start_ok (cb : Nat) (fn : Fn) (fi ca : Array Value) (sf le : Value) (w : World) (h : Cn w cb false false sf le) :
    Calls Yba.prog 10 #[.pointer (some ⟨cb, 0, none⟩), .func fn fi ca] w fun e w' => e = .returned (.tuple #[.chan (some w.heap.size), .nilIface]) ∧ Cn w' cb false true (.func fn fi ca) (.chan (some w.heap.size)) ∧ w'.heap[w.heap.size]? = some (.chan 0 #[] false 0 0 false) ∧ (∀ k, k ≠ cb → k < w.heap.size → w'.heap[k]? = w.heap[k]?) ∧ ∀ B, B ≤ cb → Below B w w' := by
  have c7 := h.c7
  have c8 := h.c8
  have c9 := h.c9
  have c10 := h.c10
  have f8 := h.f8
  have f9 := h.f9
  have f10 := h.f10
  have hlt := h.lt
  have hmk := mk22
  go_enter_defers Yba.func10, Yba.ntmps10
  go_wp2_with (first | (go_at_call 11; refine (lock11 cb 5 _ h.c5 h.f5).mono ?_; rintro e w' ⟨rfl, rfl⟩))
  go_region
  all_goals go_wp2
  refine leaves_cons (f := 7) (args := #[.pointer (some ⟨cb, 5, none⟩)]) (by simp) (by simp [go_sem]) ?_
  have k := (((((h.cs.set5 1).set8 true).set9 (.func fn fi ca)).set10 (.chan (some w.heap.size))).alloc (.chan 0 #[] false 0 0 false)).drew
  refine (unlock7d cb 5 .returning _ k.c5 k.f5).mono ?_
  rintro e u' w'' ⟨rfl, rfl, rfl⟩
  have hne : w.heap.size ≠ cb := by omega
  refine ⟨_, results_tmp2 rfl _ _ _, rfl, (k.set5 0).cn, ?_, fun j h1 h2 => ?_, fun B hB => ?_⟩
  · rw [Below.heap_setCell _ _ _ _ hne]
    show (World.alloc _ _).heap[w.heap.size]? = _
    have := heap_alloc_new ((((w.setCell ⟨cb, 5, none⟩ (.int .i32 1)).setCell ⟨cb, 8, none⟩ (.bool true)).setCell ⟨cb, 9, none⟩ (.func fn fi ca)).setCell ⟨cb, 10, none⟩ (.chan (some w.heap.size))) (.chan 0 #[] false 0 0 false)
    simp only [World.size_setCell] at this
    exact this
  · rw [Below.heap_setCell _ _ _ _ h1]
    show (World.alloc _ _).heap[j]? = _
    rw [Below.heap_alloc _ _ _ (by simpa using h2), Below.heap_setCell _ _ _ _ h1, Below.heap_setCell _ _ _ _ h1, Below.heap_setCell _ _ _ _ h1, Below.heap_setCell _ _ _ _ h1]
  · exact ((((((Below.refl _ _).setCell (p := ⟨cb, 5, none⟩) hB _).setCell (p := ⟨cb, 8, none⟩) hB _).setCell (p := ⟨cb, 9, none⟩) hB _).setCell (p := ⟨cb, 10, none⟩) hB _).alloc (by simp; omega) _).drew.setCell (p := ⟨cb, 5, none⟩) hB _

theorem eqlChan (w : World) (a b : Option Nat) : (binOp .eql 22 (.chan a) (.chan b)).run Yba.prog w = .ok (.bool (a == b)) w := by
  have h : ∀ d : Nat, (Op.equalIn (d + 1) 22 (.chan a) (.chan b)).run Yba.prog w = .ok (a == b) w := fun d => by
    simp [Op.equalIn, run_underlying Yba.underlying22]
  simp only [binOp]
  simp [Op.equal, Op.maxDepth, h 9999]

set_option maxHeartbeats 1600000 in
set_option maxRecDepth 100000 in
theorem cycle4 (x : Int) (w : World) (h0 : 0 ≤ x) (h1 : x ≤ 255) : Calls Yba.prog 4 #[.int .u8 x] w fun e w' => e = .returned (.bool true) ∧ Below w.heap.size w w' := by
  have hmf : ∀ (fn : Fn) (first cap : Array Value) (w : World), (Instr.makeFunc fn first cap).run Yba.prog w = .ok (.func fn first cap) w := fun _ _ _ _ => rfl
  have q1 := neqChan
  have q2 := eqlChan
  obtain ⟨N, hN⟩ : ∃ N : Nat, x % 16 + 1 = N := ⟨(x % 16 + 1).toNat, by omega⟩
  have hN16 : (N : Int) ≤ 16 := by omega
  go_enter Yba.func4, Yba.ntmps4
  go_wp2_with fail
  clear hN
  go_loopw [7] (fun iv wr => ∃ (k : Nat) (sf le : Value), k ≤ N ∧ iv = .int .i64 k ∧ Cn wr (w.heap.size + 1) false false sf le ∧ Below (w.heap.size + 1) (w.alloc (.cells #[.int .i64 0] 3)) wr) (fun i _ => N - (intOf i).toNat)
  case atStart => exact ⟨0, .nilFunc, .chan none, by omega, rfl, cn_new w _ false false .nilFunc (.chan none) _ _ _ _ _ _, (Below.refl _ _).alloc (by simp) _⟩
  case round =>
    obtain ⟨k, sf, le, hk, rfl, hcn, hbel⟩ := hrel
    by_cases hlt : k < N
    · go_wp2_with fail
      refine (start_ok (w.heap.size + 1) (Fn.func 9) #[] #[.pointer (some ⟨w.heap.size, 0, none⟩)] sf le wr hcn).mono ?_
      rintro e w1 ⟨rfl, hcn1, hch1, hk1, hb1⟩
      have c8 := hcn1.c8
      have hlw : wr.heap.size ≠ w.heap.size + 1 := by have := hcn.lt; omega
      have hlc : w.heap.size + 1 ≤ wr.heap.size := by have := hcn.lt; omega
      have hl1 : wr.heap.size < w1.heap.size := (Array.getElem?_eq_some_iff.1 hch1).1
      have hbel1 := hbel.trans (hb1 (w.heap.size + 1) (Nat.le_refl _))
      obtain ⟨c, hce⟩ : ∃ c, c = wr.heap.size := ⟨_, rfl⟩
      rw [← hce] at hcn1 hch1 hlw hl1 hlc ⊢
      clear hcn hbel hk1 hb1 hce
      go_wp2_with fail
      refine (start_busy (w.heap.size + 1) _ _ _ w1 hcn1).mono ?_
      rintro e w2 ⟨rfl, hcn2, hk2, hb2⟩
      have hch2 : w2.heap[c]? = some (.chan 0 #[] false 0 0 false) := (hk2 c hlw hl1).trans hch1
      have hbel2 := hbel1.trans (hb2 (w.heap.size + 1) (Nat.le_refl _))
      clear hcn1 hch1 hk2 hb2 hbel1 c8
      go_wp2_with (go_at_call 8; refine (closed_no c 0 0 0 false _ hch2).mono ?_; rintro e w' ⟨rfl, rfl⟩)
      refine (stop5 (w.heap.size + 1) c false true _ _ _ hcn2 hch2 hlw).mono ?_
      rintro e w3 ⟨rfl, hcn3, hch3, hb3⟩
      have c8 := hcn3.c8
      have c10 := hcn3.c10
      have hbel3 := hbel2.trans (hb3 (w.heap.size + 1) (Nat.le_refl _) hlc)
      clear hcn2 hch2 hb3 hbel2
      go_wp2_with (go_at_call 8; refine (closed_yes c 0 0 0 false _ hch3).mono ?_; rintro e w' ⟨rfl, rfl⟩)
      go_roundw
      case rel => exact ⟨k + 1, _, _, by omega, by go_num, (hcn3.cs.alloc _).cn, hbel3.alloc (by have := hcn3.lt; omega) _⟩
      case measure => simp [intOf]; omega
    · have hc0 : wr.cell? ⟨w.heap.size, 0, none⟩ = some (.int .i64 0) := (hbel.cell (p := ⟨w.heap.size, 0, none⟩) (Nat.lt_succ_self _)).trans (by simp)
      go_wp2
      go_ret
      exact ⟨rfl, ((Below.refl _ _).alloc (Nat.le_refl _) _).trans (hbel.mono (Nat.le_succ _))⟩
end Go.Proofs.Ybulkbwxo
