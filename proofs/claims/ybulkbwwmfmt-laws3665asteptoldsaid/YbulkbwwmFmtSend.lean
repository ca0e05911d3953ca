/-
  send, Step at a catch-up request: the walks.
-/
import Derived.Test.YbulkbwwmFmtRows
import Derived.WalkKit
import Derived.RowKitTokens
import Derived.WalkSpells
import Derived.WalkSmall
import Derived.Deep.QuietTactic
import Derived.BigQuiet
import Derived.Deep.AppendLies
import Derived.Deep.RegionLaw
import Derived.Deep.RegionHeld3
import Derived.Deep.DrawnRows
import Derived.Deep.MidRow
import Derived.Lib.SliceRun
namespace Go.Proofs.YbulkbwwmFmt
open Go.WideShapes (add_plain)
open Go.RowKit
set_option linter.unusedVariables false

def zmsg : List Value := [.int .u8 0, .string ByteArray.empty, .string ByteArray.empty, .int .u64 0, .int .u64 0, .int .u64 0, .int .u64 0, .string ByteArray.empty, .slice none 0 0, .map none, .slice none 0 0]
theorem info48 : (Ybaf.prog.info? 48).map (fun i => (i.zero, i.size, i.bytes)) = some (some (.agg zmsg.toArray), 11, 144) := by kernel_rfl
/-- The cells of a message. -/
def mrow (kd : Int) (from_ to_ : ByteArray) (ver : Int) : List Value := [.int .u8 kd, .string from_, .string to_, .int .u64 0, .int .u64 ver, .int .u64 0, .int .u64 0, .string ByteArray.empty, .slice none 0 0, .map none, .slice none 0 0]

theorem step48 (w : World) {ops : Array Oper} {o : Oper} {a : Act} {K : Act → World → Prop} {Q : Exit → Act → World → Prop} {E : Prop} (hgd : o.guard = none) (s x : Operand)
    (ho : o.op = .call { callee := .builtin .append, args := #[s, x], argTypes := #[38, 38] }) (nb : Nat) (v : Value) (n : Nat) (xs : List Value) (hs : a.eval s = v) (hown : w.ownsRow (nb + 1) 48 11 v n xs)
    (ad : Addr) (c : Nat) (kd : Int) (f t : ByteArray) (ver : Int) (hx : a.eval x = .slice (some ad) 1 c) (hnews : ∀ j u, (mrow kd f t ver)[j]? = some u → w.cell? (ad.add j) = some u)
    (hn : n ≤ 1024) (hbase : nb + 1 ≤ w.heap.size) (hc : w.cell? ⟨nb, 22, none⟩ = some v) (hf : w.frozen? ⟨nb, 22, none⟩ = false)
    (h : ∀ g cap w', w'.ownsRow (nb + 1) 48 11 (.slice (some ⟨g, 0, none⟩) (n + 1) cap) (n + 1) (xs ++ mrow kd f t ver) → Below (nb + 1) w w' → w'.cell? ⟨nb, 22, none⟩ = some v → w'.frozen? ⟨nb, 22, none⟩ = false → (∀ p : Addr, p.block < w.heap.size → some p.block ≠ v.ownBlock → w'.cell? p = w.cell? p) → K (a.put o.dst (.slice (some ⟨g, 0, none⟩) (n + 1) cap)) w') :
    if Region.wanted o (yielded ops a.tmps) = true then Oper.wp Ybaf.prog o a w K Q else E := by
  obtain ⟨i0, hi, hz0, hz1, hz2⟩ := info_parts info48
  refine step_append_lies w hgd s x 38 ho (nb + 1) 48 i0 _ 11 144 Ybaf.underlying38 hi hz0 hz1 hz2 rfl (by omega) v n xs hs hown ad 1 c (mrow kd f t ver) hx rfl hnews (by simp [mrow, Value.oneCell']) (by omega) (by unfold maxLen; omega) (by omega) hbase _ rfl ?_
  intro g cap w1 hown1 hgrow hat hlt
  have hne : some nb ≠ v.ownBlock := fun e => by have := hown.lt nb e.symm; omega
  refine h g cap w1 hown1 ⟨hgrow.os, hgrow.tape, hgrow.output, hgrow.size, fun k hk => hgrow.block k (by omega) (fun e => by have := hown.lt k e.symm; omega)⟩ ?_ ?_ ?_
  · rw [hgrow.cell_far ⟨nb, 22, none⟩ (by show nb < _; omega) hne]; exact hc
  · rw [hgrow.frozen_far ⟨nb, 22, none⟩ (by show nb < _; omega) hne]; exact hf
  · exact fun p h1 h2 => hgrow.cell_far p h1 h2

theorem b2 (w : World) (A C : Obj) : Below w.heap.size w ((w.alloc A).alloc C).drew := (((Below.refl _ _).alloc (Nat.le_refl _) _).alloc (by simp) _).drew

theorem send18 (nb : Nat) (id e to_ : ByteArray) (ver : Int) (v : Value) (n : Nat) (xs : List Value) (w : World) (hlt : nb < w.heap.size) (hid : w.cell? ⟨nb, 0, none⟩ = some (.string id))
    (hc : w.cell? ⟨nb, 22, none⟩ = some v) (hf : w.frozen? ⟨nb, 22, none⟩ = false) (hown : w.ownsRow (nb + 1) 48 11 v n xs) (hn : n ≤ 1024) :
    Calls Ybaf.prog 18 #[.pointer (some ⟨nb, 0, none⟩), .agg (mrow 11 e to_ ver).toArray] w fun e w' => e = .returned (.tuple #[]) ∧ ∃ g cap w1, w' = w1.setCell ⟨nb, 22, none⟩ (.slice (some ⟨g, 0, none⟩) (n + 1) cap) ∧
      w1.ownsRow (nb + 1) 48 11 (.slice (some ⟨g, 0, none⟩) (n + 1) cap) (n + 1) (xs ++ mrow 11 id to_ ver) ∧ Below (nb + 1) w w1 ∧ w1.cell? ⟨nb, 22, none⟩ = some v ∧ (∀ p : Addr, p.block < w.heap.size → some p.block ≠ v.ownBlock → w1.cell? p = w.cell? p) := by
  unfold mrow
  go_enter Ybaf.func18, Ybaf.ntmps18
  go_wp2_with fail
  have hlt1 : nb < w.heap.size + 1 := by omega
  have hlt2 : nb < w.heap.size + 1 + 1 := by omega
  go_region_law ((refine step48 _ (by rfl) (.tmp 14) (.tmp 16) (by rfl) nb v n xs (by rfl) ((hown.alloc _).alloc _).drew ⟨w.heap.size + 1, 0, none⟩ 1 11 id to_ ver (by rfl) (World.news_of_block (cs := (mrow 11 id to_ ver).toArray) (t := 48) (fr := (0, 0)) (heap_alloc2_new w _ _)) hn (by simp; omega) (((b2 w _ _).cell (by exact hlt)).trans hc) (((b2 w _ _).frozen (by exact hlt)).trans hf) ?_; intro g cap w1 h1 h2 h3 h4 h5))
  all_goals
    go_wp2
    go_end0
    exact ⟨rfl, g, cap, w1, rfl, h1, ((b2 w _ _).mono (by omega)).trans h2, h3, fun p hp hq => (h5 p (by simp; omega) hq).trans ((b2 w _ _).cell hp)⟩

/-- The node behind block nb: what Step and TakeMessages look at. -/
structure Nd (w : World) (nb : Nat) (id : ByteArray) (hv : Int) (v : Value) (n : Nat) (xs : List Value) : Prop where
  lt : nb < w.heap.size
  c0 : w.cell? ⟨nb, 0, none⟩ = some (.string id)
  c5 : w.cell? ⟨nb, 5, none⟩ = some (.int .u64 hv)
  c6 : w.cell? ⟨nb, 6, none⟩ = some (.map none)
  c7 : w.cell? ⟨nb, 7, none⟩ = some (.slice none 0 0)
  c21 : w.cell? ⟨nb, 21, none⟩ = some (.slice none 0 0)
  c22 : w.cell? ⟨nb, 22, none⟩ = some v
  f22 : w.frozen? ⟨nb, 22, none⟩ = false
  own : w.ownsRow (nb + 1) 48 11 v n xs

theorem Nd.alloc {w : World} {nb : Nat} {id : ByteArray} {hv : Int} {v : Value} {n : Nat} {xs : List Value} (h : Nd w nb id hv v n xs) (o : Obj) : Nd (w.alloc o) nb id hv v n xs := by
  have hb : Below w.heap.size w (w.alloc o) := (Below.refl _ _).alloc (Nat.le_refl _) _
  have hc : ∀ j, (w.alloc o).cell? ⟨nb, j, none⟩ = w.cell? ⟨nb, j, none⟩ := fun j => hb.cell (p := ⟨nb, j, none⟩) h.lt
  exact ⟨by have := h.lt; simp; omega, (hc _).trans h.c0, (hc _).trans h.c5, (hc _).trans h.c6, (hc _).trans h.c7, (hc _).trans h.c21, (hc _).trans h.c22, (hb.frozen (p := ⟨nb, 22, none⟩) h.lt).trans h.f22, h.own.alloc _⟩
theorem Nd.drewN {w : World} {nb : Nat} {id : ByteArray} {hv : Int} {v : Value} {n : Nat} {xs : List Value} (h : Nd w nb id hv v n xs) (m : Nat) : Nd (w.drewN m) nb id hv v n xs := ⟨h.lt, h.c0, h.c5, h.c6, h.c7, h.c21, h.c22, h.f22, h.own⟩
theorem Nd.drew {w : World} {nb : Nat} {id : ByteArray} {hv : Int} {v : Value} {n : Nat} {xs : List Value} (h : Nd w nb id hv v n xs) : Nd w.drew nb id hv v n xs := ⟨h.lt, h.c0, h.c5, h.c6, h.c7, h.c21, h.c22, h.f22, h.own⟩

/-- send: one message more, from this node; below nb nothing turns. -/
theorem send18' (nb : Nat) (id e to_ : ByteArray) (ver hv : Int) (v : Value) (n : Nat) (xs : List Value) (w : World) (h : Nd w nb id hv v n xs) (hn : n ≤ 1024) :
    Calls Ybaf.prog 18 #[.pointer (some ⟨nb, 0, none⟩), .agg (mrow 11 e to_ ver).toArray] w fun e w' => e = .returned (.tuple #[]) ∧ (∃ v', Nd w' nb id hv v' (n + 1) (xs ++ mrow 11 id to_ ver)) ∧ Below nb w w' ∧
      (∀ p : Addr, p.block < w.heap.size → p ≠ ⟨nb, 22, none⟩ → some p.block ≠ v.ownBlock → w'.cell? p = w.cell? p) := by
  refine (send18 nb id e to_ ver v n xs w h.lt h.c0 h.c22 h.f22 h.own hn).mono ?_
  rintro e w' ⟨rfl, g, cap, w1, rfl, hown, hbel, hc, hfar⟩
  have hl := h.lt
  have hs := hbel.size
  have hcell : ∀ j, j ≠ 22 → (w1.setCell ⟨nb, 22, none⟩ (.slice (some ⟨g, 0, none⟩) (n + 1) cap)).cell? ⟨nb, j, none⟩ = w.cell? ⟨nb, j, none⟩ := fun j hj => by
    rw [World.cell?_setCell_other _ _ _ _ (fun e => hj (by have := congrArg Addr.off e; exact this.symm))]
    exact hbel.cell (p := ⟨nb, j, none⟩) (Nat.lt_succ_self nb)
  refine ⟨rfl, ⟨_, ⟨by simp; omega, (hcell 0 (by omega)).trans h.c0, (hcell 5 (by omega)).trans h.c5, (hcell 6 (by omega)).trans h.c6, (hcell 7 (by omega)).trans h.c7, (hcell 21 (by omega)).trans h.c21, World.cell?_setCell_same _ _ _ hc, ?_, ownsRow_setCell_below hown (Nat.lt_succ_self nb) _⟩⟩, (hbel.mono (by omega)).setCell (p := ⟨nb, 22, none⟩) (Nat.le_refl nb) _, fun p h1 h2 h3 => ?_⟩
  · rw [World.frozen?_setCell, hbel.frozen (p := ⟨nb, 22, none⟩) (Nat.lt_succ_self nb)]; exact h.f22
  · rw [World.cell?_setCell_other _ _ _ _ (Ne.symm h2)]; exact hfar p h1 h3

theorem clone28 (w : World) : Calls Ybaf.prog 28 #[.map none] w fun e w' => e = .returned (.map none) ∧ w' = w := by
  have q : ∀ (w : World) (r : Option Nat), (binOp .eql 30 (.map r) (.map none)).run Ybaf.prog w = .ok (.bool r.isNone) w := fun w r => run_eql_map_nil w _ _ _ r Ybaf.underlying30
  go_enter Ybaf.func28, Ybaf.ntmps28
  go_wp2
  go_ret
  exact ⟨rfl, rfl⟩
end Go.Proofs.YbulkbwwmFmt
