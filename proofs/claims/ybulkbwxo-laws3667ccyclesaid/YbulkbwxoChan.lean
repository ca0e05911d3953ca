/-
  Channels and the mutex of one goroutine, at this dump: zzs3667cclosed (8), TryLock (6, 12), Lock (11), Unlock (7), close.
-/
import Derived.Test.YbulkbwxoLocks
import Derived.Conc.LoneSelect
import Derived.Conc.MuLone
import Derived.WalkKit
import Derived.KernelRfl
import Derived.Laws.Rows
import Derived.Laws.LoneSync
namespace Go.Proofs.Ybulkbwxo
open Go.Conc Go.RowKit
set_option linter.unusedVariables false

set_option maxRecDepth 100000 in
theorem closed_yes (c cap s r : Nat) (tm : Bool) (w : World) (hc : w.heap[c]? = some (.chan cap #[] true s r tm)) :
    Calls Yba.prog 8 #[.chan (some c)] w fun e w' => e = .returned (.bool true) ∧ w' = w.alloc (.cells #[] 27) := by
  refine calls_of_loneTo fun cs => ?_
  have e : Frame.enter Yba.prog 8 #[.chan (some c)] .normal = (base 8).at ⟨#[.chan (some c), undef, undef, undef, undef, undef, undef, undef, undef, undef, undef, undef, undef], []⟩ [.code (Yba.f8.body.getD .skip)] := by
    simp [Frame.enter, Frame.at, Yba.func8, base, Yba.f8]
  rw [e]
  refine LoneTo.goes (n := 10) ?_
  simp only [Yba.f8, Option.getD_some]
  s_c stepG_seq
  s_reg
  s_op
  s_c stepG_region_end
  s_c stepG_seq
  s_reg
  s_op
  s_c stepG_region_end
  s_c stepG_seq
  s_reg
  s_stop
  refine LoneTo.step (step_lone_select_recv_shut (c := c) (z := .agg #[]) (stepG_comm (cases := #[rcase c (.agg #[])]) (blocking := false) (shape := .select) (w' := w) rfl rfl (by decide) (by simp [go_sem, execOp, rcase, Act.eval])) hc) ?_
  rw [Frame.finish_at]
  walk_nrm
  refine LoneTo.goes (n := 20) ?_
  s_op
  s_op
  s_c stepG_region_end
  s_c stepG_block
  s_cond true
  s_c stepG_seq
  s_reg
  s_op
  s_op
  s_op
  s_op
  s_op
  s_c stepG_region_end
  s_c stepG_seq
  s_reg
  s_op
  s_op
  s_op
  s_c stepG_region_end
  s_c stepG_ret'
  s_stop
  exact LoneTo.done ⟨.returned (.bool true), _, rfl, ⟨rfl, rfl⟩, rfl, rfl, rfl, rfl, _, Yba.func8, by simp [results, Yba.f8, Frame.at]⟩

set_option maxRecDepth 100000 in
theorem closed_no (c cap s r : Nat) (tm : Bool) (w : World) (hc : w.heap[c]? = some (.chan cap #[] false s r tm)) :
    Calls Yba.prog 8 #[.chan (some c)] w fun e w' => e = .returned (.bool false) ∧ w' = w := by
  refine calls_of_loneTo fun cs => ?_
  have e : Frame.enter Yba.prog 8 #[.chan (some c)] .normal = (base 8).at ⟨#[.chan (some c), undef, undef, undef, undef, undef, undef, undef, undef, undef, undef, undef, undef], []⟩ [.code (Yba.f8.body.getD .skip)] := by
    simp [Frame.enter, Frame.at, Yba.func8, base, Yba.f8]
  rw [e]
  refine LoneTo.goes (n := 10) ?_
  simp only [Yba.f8, Option.getD_some]
  s_c stepG_seq
  s_reg
  s_op
  s_c stepG_region_end
  s_c stepG_seq
  s_reg
  s_op
  s_c stepG_region_end
  s_c stepG_seq
  s_reg
  s_stop
  refine LoneTo.step (step_lone_select_default (c := c) (z := .agg #[]) (stepG_comm (cases := #[rcase c (.agg #[])]) (blocking := false) (shape := .select) (w' := w) rfl rfl (by decide) (by simp [go_sem, execOp, rcase, Act.eval])) hc) ?_
  rw [Frame.finish_at]
  walk_nrm
  refine LoneTo.goes (n := 10) ?_
  s_op
  s_op
  s_c stepG_region_end
  s_c stepG_block
  s_cond false
  s_c stepG_seq
  s_reg
  s_op
  s_c stepG_region_end
  s_c stepG_ret'
  s_stop
  exact LoneTo.done ⟨.returned (.bool false), _, rfl, ⟨rfl, rfl⟩, rfl, rfl, rfl, rfl, _, Yba.func8, by simp [results, Yba.f8, Frame.at]⟩

/-! ### TryLock: the lock free -/
set_option maxRecDepth 100000 in
theorem itry12 (a : Addr) (w : World) (hc : w.cell? a = some (.int .i32 0)) (hz : w.frozen? a = false) :
    Calls Yba.prog 12 #[.pointer (some a)] w fun e w' => e = .returned (.bool true) ∧ w' = w.setCell a (.int .i32 1) := by
  have hd : ∀ w, (callFunc 16 #[]).run Yba.prog w = .ok (.value (.tuple #[])) w := MuLone.disable Yba.muLib
  have he : ∀ w, (callFunc 17 #[]).run Yba.prog w = .ok (.value (.tuple #[])) w := MuLone.enable Yba.muLib
  have ha : ∀ a w, (callFunc 19 #[.pointer (some a)]).run Yba.prog w = .ok (.value (.tuple #[])) w := MuLone.acquire Yba.muLib
  have hcas := run_call_cas_hit (P := Yba.prog) Yba.func18 (by kernel_rfl) (by kernel_rfl) (by kernel_rfl) .i32 (by kernel_rfl) (y := 1) hc hz
  have hc' : (w.setCell a (.int .i32 1)).cell? a = some (.int .i32 1) := World.cell?_setCell_same _ _ _ hc
  have hcv := run_convert_to_unsafe (P := Yba.prog) (src := 54) (dst := 58) Yba.underlying54 Yba.underlying58 Yba.muLib.room_tIMutex hc'
  obtain ⟨b, o, sp⟩ := a
  obtain rfl : sp = none := by simpa using World.cell?_spot hc
  go_enter Yba.func12, Yba.ntmps12
  go_wp2
  go_ret
  exact ⟨rfl, rfl⟩
theorem try6 (b o : Nat) (w : World) (hc : w.cell? ⟨b, o, none⟩ = some (.int .i32 0)) (hz : w.frozen? ⟨b, o, none⟩ = false) :
    Calls Yba.prog 6 #[.pointer (some ⟨b, o, none⟩)] w fun e w' => e = .returned (.bool true) ∧ w' = w.setCell ⟨b, o, none⟩ (.int .i32 1) := by
  go_enter Yba.func6, Yba.ntmps6
  go_wp2_with (go_at_call 12; refine (itry12 ⟨b, o, none⟩ _ hc hz).mono ?_; rintro e w' ⟨rfl, rfl⟩)
  go_ret
  exact ⟨rfl, rfl⟩
theorem lock11 (b o : Nat) (w : World) (hc : w.cell? ⟨b, o, none⟩ = some (.int .i32 0)) (hz : w.frozen? ⟨b, o, none⟩ = false) :
    Calls Yba.prog 11 #[.pointer (some ⟨b, o, none⟩)] w fun e w' => e = .returned (.tuple #[]) ∧ w' = w.setCell ⟨b, o, none⟩ (.int .i32 1) := MuLone.lock_free Yba.muLib ⟨b, o, none⟩ w hc hz
theorem unlock7 (b o : Nat) (w : World) (hc : w.cell? ⟨b, o, none⟩ = some (.int .i32 1)) (hz : w.frozen? ⟨b, o, none⟩ = false) :
    Calls Yba.prog 7 #[.pointer (some ⟨b, o, none⟩)] w fun e w' => e = .returned (.tuple #[]) ∧ w' = w.setCell ⟨b, o, none⟩ (.int .i32 0) := MuLone.unlock_held Yba.muLib ⟨b, o, none⟩ w hc hz

/-! ### close -/
theorem wpList_close {w : World} {ops : Array Oper} {rest : List Oper} {o : Oper} {a : Act} {Q : Exit → Act → World → Prop} (hgd : o.guard = none) (x : Operand)
    (ho : o.op = .call { callee := .builtin .close, args := #[x], argTypes := #[22] }) (c room s rc : Nat) (buf : Array Value) (tm : Bool) (hx : a.eval x = .chan (some c)) (hc : w.heap[c]? = some (.chan room buf false s rc tm))
    (h : wpList Yba.prog ops Q rest (a.put o.dst (.tuple #[])) (w.setChan c room buf true s rc tm)) : wpList Yba.prog ops Q (o :: rest) a w := by
  refine wpList_plain hgd fun K hK => ?_
  have hrun := run_close_open (P := Yba.prog) #[22] o.type hc
  unfold Oper.wp execOp
  simp only [ho, resolve, invoke, builtin, Sem.run_bind, Sem.run_pure, Result.andThen_ok, List.map_toArray, List.map_cons, List.map_nil, hx, hrun]
  exact hK _ _ h
end Go.Proofs.Ybulkbwxo
