import Derived.Test.YbulkbwycFmtRows
import Derived.WalkKit
import Derived.MapKept
import Derived.Carry
namespace Go.Proofs.YbulkbwycFmt
open Go.RowKit Go.MapKept
set_option linter.unusedVariables false

theorem isKey_i64 (x : Int) : IsKey (.int .i64) (.int .i64 x) := rfl
theorem sameBits_int (n : Nat) (x : Int) : Instr.sameBits n (.int .i64 x) (.int .i64 x) = true := by
  cases n <;> simp [Instr.sameBits]

theorem upd_run (w : World) (mb : Nat) (es : Array MapEntry) (clock : Nat) (x : Int) (val : Value) (hm : w.heap[mb]? = some (.map es clock)) (hk : ∀ e ∈ es.toList, IsKey (.int .i64) e.key) :
    ∃ es' clock', (Instr.mapUpdate 24 (.map (some mb)) (.int .i64 x) val).run Ybaf.prog w = .ok () { w with heap := w.heap.setIfInBounds mb (.map es' clock') } ∧ ∀ e ∈ es'.toList, e ∈ es.toList ∨ (e.key = .int .i64 x ∧ e.val = val) := by
  have hc : (Instr.checkKey false 10000 3 (.int .i64 x)).run Ybaf.prog w = .ok () w := run_checkKey (n := 9999) Ybaf.underlying3 (isKey_i64 x) false
  rcases findNow_spec (isKey_i64 x) es.toList 0 hk with ⟨h1, h2⟩ | ⟨j, e, h1, h2, h3⟩
  · have hf := run_findKey (P := Ybaf.prog) (w := w) Ybaf.underlying3 h1
    refine ⟨es.push { key := .int .i64 x, val := val, born := clock }, clock + 1, ?_, ?_⟩
    · simp only [Instr.mapUpdate, Sem.run_bind, run_underlying Ybaf.underlying24, Result.andThen_ok, MapKept.run_getObj_map hm, hc, hf]
      exact run_setObj_map _ hm
    · intro e he
      simp at he
      rcases he with he | rfl
      · exact .inl (by simpa using he)
      · exact .inr ⟨rfl, rfl⟩
  · have hf := run_findKey (P := Ybaf.prog) (w := w) Ybaf.underlying3 h1
    rw [Nat.zero_add] at hf
    have hj : es[j]? = some e := by simpa using h2
    refine ⟨es.modify j fun e => { e with key := .int .i64 x, val := val }, clock, ?_, ?_⟩
    · simp only [Instr.mapUpdate, Sem.run_bind, run_underlying Ybaf.underlying24, Result.andThen_ok, MapKept.run_getObj_map hm, hc, hf, hj, Option.map_some, Option.getD_some, h3, Instr.keyThatStays, sameBits_int, if_true, Sem.run_pure]
      exact run_setObj_map _ hm
    · intro e' he'
      obtain ⟨i, hi, rfl⟩ := List.mem_iff_getElem.1 he'
      simp only [Array.getElem_toList, Array.getElem_modify]
      split
      · exact .inr ⟨rfl, rfl⟩
      · left; simp

theorem look_run (mb : Nat) (es : Array MapEntry) (clock : Nat) (x : Int) (hk : ∀ e ∈ es.toList, IsKey (.int .i64) e.key) :
    ∃ v ok, ((ok = false ∧ v = .agg #[.int .i64 0, .pointer none]) ∨ (ok = true ∧ ∃ e ∈ es.toList, v = e.val)) ∧
      ∀ w : World, w.heap[mb]? = some (.map es clock) → (Instr.lookup 24 (.map (some mb)) (.int .i64 x) true).run Ybaf.prog w = .ok (.tuple #[v, .bool ok]) w := by
  have hc : ∀ w b, (Instr.checkKey b 10000 3 (.int .i64 x)).run Ybaf.prog w = .ok () w := fun w b => run_checkKey (n := 9999) Ybaf.underlying3 (isKey_i64 x) b
  have hz : ∀ w, (zeroValue 30).run Ybaf.prog w = .ok (.agg #[.int .i64 0, .pointer none]) w := Ybaf.zeroValue30
  rcases findNow_spec (isKey_i64 x) es.toList 0 hk with ⟨h1, h2⟩ | ⟨j, e, h1, h2, h3⟩
  · refine ⟨_, false, .inl ⟨rfl, rfl⟩, fun w hm => ?_⟩
    have hf := run_findKey (P := Ybaf.prog) (w := w) Ybaf.underlying3 h1
    simp only [Instr.lookup, Sem.run_bind, run_underlying Ybaf.underlying24, Result.andThen_ok, MapKept.run_getObj_map hm, Sem.run_pure, hc, hf, hz, if_true]
  · refine ⟨e.val, true, .inr ⟨rfl, e, List.mem_of_getElem? h2, rfl⟩, fun w hm => ?_⟩
    have hf := run_findKey (P := Ybaf.prog) (w := w) Ybaf.underlying3 h1
    simp only [Instr.lookup, Sem.run_bind, run_underlying Ybaf.underlying24, Result.andThen_ok, MapKept.run_getObj_map hm, Sem.run_pure, hc, hf, if_true]
end Go.Proofs.YbulkbwycFmt
