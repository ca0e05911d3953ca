/-
  THE WALK of 'ap.LawS3668BRequired' (3).
-/
import Derived.Test.YbulkbwycFmtReq
import Derived.Test.YbulkbwycFmtMap
import Derived.Test.YbulkbwycFmtIs
import Derived.LaidEqlPtr
namespace Go.Proofs.YbulkbwycFmt
open Go.RowKit Go.Extern.Stop Go.Stop Go.Extern Go.MapKept
set_option linter.unusedVariables false

theorem below5 (wr : World) (A B C D E : Obj) : Below wr.heap.size wr (((((wr.alloc A).alloc B).alloc C).alloc D).alloc E) :=
  (((((Below.refl _ _).alloc (Nat.le_refl _) _).alloc (by simp) _).alloc (by simp <;> omega) _).alloc (by simp <;> omega) _).alloc (by simp <;> omega) _
theorem at0 (wr : World) (A : Array Value) (t : TypeId) (B C D E : Obj) (j : Nat) : (((((wr.alloc (.cells A t)).alloc B).alloc C).alloc D).alloc E).cell? ⟨wr.heap.size, j, none⟩ = A[j]? := by
  rw [World.cell?_alloc_lt _ _ _ (by simp <;> omega), World.cell?_alloc_lt _ _ _ (by simp <;> omega), World.cell?_alloc_lt _ _ _ (by simp <;> omega), World.cell?_alloc_lt _ _ _ (by simp), World.cell?_alloc_new]
theorem at1 (wr : World) (A : Obj) (B : Array Value) (t : TypeId) (C D E : Obj) (j : Nat) : (((((wr.alloc A).alloc (.cells B t)).alloc C).alloc D).alloc E).cell? ⟨wr.heap.size + 1, j, none⟩ = B[j]? := by
  rw [World.cell?_alloc_lt _ _ _ (by simp <;> omega), World.cell?_alloc_lt _ _ _ (by simp <;> omega), World.cell?_alloc_lt _ _ _ (by simp)]
  simpa only [World.size_alloc] using World.cell?_alloc_new (wr.alloc A) B t j
theorem at2 (wr : World) (A B : Obj) (C : Array Value) (t : TypeId) (D E : Obj) (j : Nat) : (((((wr.alloc A).alloc B).alloc (.cells C t)).alloc D).alloc E).cell? ⟨wr.heap.size + 1 + 1, j, none⟩ = C[j]? := by
  rw [World.cell?_alloc_lt _ _ _ (by simp <;> omega), World.cell?_alloc_lt _ _ _ (by simp)]
  simpa only [World.size_alloc] using World.cell?_alloc_new ((wr.alloc A).alloc B) C t j
theorem at3 (wr : World) (A B C : Obj) (D : Array Value) (t : TypeId) (E : Obj) (j : Nat) : (((((wr.alloc A).alloc B).alloc C).alloc (.cells D t)).alloc E).cell? ⟨wr.heap.size + 1 + 1 + 1, j, none⟩ = D[j]? := by
  rw [World.cell?_alloc_lt _ _ _ (by simp)]
  simpa only [World.size_alloc] using World.cell?_alloc_new (((wr.alloc A).alloc B).alloc C) D t j
theorem at4 (wr : World) (A B C D : Obj) (E : Array Value) (t : TypeId) (j : Nat) : (((((wr.alloc A).alloc B).alloc C).alloc D).alloc (.cells E t)).cell? ⟨wr.heap.size + 1 + 1 + 1 + 1, j, none⟩ = E[j]? := by
  simpa only [World.size_alloc] using World.cell?_alloc_new ((((wr.alloc A).alloc B).alloc C).alloc D) E t j
theorem fr3 (wr : World) (A B C : Obj) (D : Array Value) (t : TypeId) (E : Obj) (j : Nat) : (((((wr.alloc A).alloc B).alloc C).alloc (.cells D t)).alloc E).frozen? ⟨wr.heap.size + 1 + 1 + 1, j, none⟩ = false := by
  rw [World.frozen?_alloc_past _ _ _ (by simp)]
  simpa only [World.size_alloc] using World.frozen?_alloc_new (((wr.alloc A).alloc B).alloc C) D t j
theorem fr4 (wr : World) (A B C D : Obj) (E : Array Value) (t : TypeId) (j : Nat) : (((((wr.alloc A).alloc B).alloc C).alloc D).alloc (.cells E t)).frozen? ⟨wr.heap.size + 1 + 1 + 1 + 1, j, none⟩ = false := by
  simpa only [World.size_alloc] using World.frozen?_alloc_new ((((wr.alloc A).alloc B).alloc C).alloc D) E t j

theorem env5 (wr : World) (B : Nat) (A : Array Value) (ta : TypeId) (zz : Obj) (v : Int) (fl : Bool) (hB : B + 1 < wr.heap.size) (hv : wr.cell? ⟨B, 0, none⟩ = some (.int .i64 v)) (hf : wr.cell? ⟨B + 1, 0, none⟩ = some (.bool fl)) :
    Env (((((wr.alloc (.cells A ta)).alloc zz).alloc (.cells #[.iface 42 (.pointer (some ⟨wr.heap.size + 1, 0, none⟩))] 33)).alloc (.cells #[.int .i64 0] 3)).alloc (.cells #[.pointer none] 25))
      (wr.heap.size + 1 + 1 + 1) (wr.heap.size + 1 + 1 + 1 + 1) (B + 1) (wr.heap.size + 1 + 1) B 0 (.pointer none) fl ⟨wr.heap.size + 1, 0, none⟩ v := by
  have hb := below5 wr (.cells A ta) zz (.cells #[.iface 42 (.pointer (some ⟨wr.heap.size + 1, 0, none⟩))] 33) (.cells #[.int .i64 0] 3) (.cells #[.pointer none] 25)
  exact ⟨(at3 _ _ _ _ _ _ _ _).trans rfl, fr3 _ _ _ _ _ _ _ _, (at4 _ _ _ _ _ _ _ _).trans rfl, fr4 _ _ _ _ _ _ _ _, (hb.cell (p := ⟨B + 1, 0, none⟩) hB).trans hf, (at2 _ _ _ _ _ _ _ _).trans rfl, (hb.cell (p := ⟨B, 0, none⟩) (by show B < _; omega)).trans hv, by omega, by omega, by omega, by omega, by omega, by omega, by omega⟩

/-- What one entry of the message's map looks like. -/
def EntryOk (w : World) (B : Nat) (e : MapEntry) : Prop :=
  IsKey (.int .i64) e.key ∧ ∃ cr rb, e.val = .agg #[.int .i64 cr, .pointer (some ⟨rb, 0, none⟩)] ∧ B + 3 ≤ rb ∧ rb < w.heap.size ∧ w.cell? ⟨rb, 0, none⟩ = some (.slice none 0 0) ∧ w.cell? ⟨rb, 2, none⟩ = some (.int .i64 0)
structure MapOk (W0 w : World) (B : Nat) (es : Array MapEntry) (clock : Nat) : Prop where
  bel : Below (B + 1 + 1) W0 w
  sz : B + 3 ≤ w.heap.size
  m : w.heap[B + 1 + 1]? = some (.map es clock)
  ok : ∀ e ∈ es.toList, EntryOk w B e

theorem wpList_upd {w : World} {ops : Array Oper} {rest : List Oper} {o : Oper} {a : Act} {Q : Exit → Act → World → Prop} (hgd : o.guard = none) (m k v : Operand) (ho : o.op = .mapUpdate 24 m k v)
    (mb : Nat) (es : Array MapEntry) (clock : Nat) (x : Int) (val : Value) (h1 : a.eval m = .map (some mb)) (h2 : a.eval k = .int .i64 x) (h3 : a.eval v = val) (hm : w.heap[mb]? = some (.map es clock)) (hk : ∀ e ∈ es.toList, IsKey (.int .i64) e.key)
    (h : ∀ es' clock', (∀ e ∈ es'.toList, e ∈ es.toList ∨ (e.key = .int .i64 x ∧ e.val = val)) → wpList Ybaf.prog ops Q rest (a.put o.dst undef) { w with heap := w.heap.setIfInBounds mb (.map es' clock') }) : wpList Ybaf.prog ops Q (o :: rest) a w := by
  refine wpList_plain hgd fun K hK => ?_
  obtain ⟨es', clock', hrun, hes⟩ := upd_run w mb es clock x val hm hk
  unfold Oper.wp execOp
  simp only [ho, h1, h2, h3, Sem.run_bind, Sem.run_pure, hrun, Result.andThen_ok]
  exact hK _ _ (h es' clock' hes)

theorem mapOk_step {W0 w : World} {B : Nat} {es es' : Array MapEntry} {clock clock' : Nat} {x cr : Int} (h : MapOk W0 w B es clock)
    (hes : ∀ e ∈ es'.toList, e ∈ es.toList ∨ (e.key = .int .i64 x ∧ e.val = .agg #[.int .i64 cr, .pointer (some ⟨w.heap.size, 0, none⟩)])) :
    MapOk W0 { (w.alloc (.cells #[.slice none 0 0, .int .i64 0, .int .i64 0] 28)) with heap := (w.alloc (.cells #[.slice none 0 0, .int .i64 0, .int .i64 0] 28)).heap.setIfInBounds (B + 1 + 1) (.map es' clock') } B es' clock' := by
  have hsz := h.sz
  have hbk : ∀ k, k ≠ B + 1 + 1 → k < w.heap.size + 1 → ((w.alloc (.cells #[.slice none 0 0, .int .i64 0, .int .i64 0] 28)).heap.setIfInBounds (B + 1 + 1) (.map es' clock'))[k]? = (w.alloc (.cells #[.slice none 0 0, .int .i64 0, .int .i64 0] 28)).heap[k]? := fun k hk _ => by
    rw [Array.getElem?_setIfInBounds_ne (Ne.symm hk)]
  have hcell : ∀ p : Addr, p.block ≠ B + 1 + 1 → World.cell? { (w.alloc (.cells #[.slice none 0 0, .int .i64 0, .int .i64 0] 28)) with heap := (w.alloc (.cells #[.slice none 0 0, .int .i64 0, .int .i64 0] 28)).heap.setIfInBounds (B + 1 + 1) (.map es' clock') } p = (w.alloc (.cells #[.slice none 0 0, .int .i64 0, .int .i64 0] 28)).cell? p := fun p hp => by
    refine World.cell?_of_block ?_
    show ((w.alloc _).heap.setIfInBounds (B + 1 + 1) _)[p.block]? = _
    rw [Array.getElem?_setIfInBounds_ne (Ne.symm hp)]
  refine ⟨⟨h.bel.os, h.bel.tape, h.bel.output, ?_, fun k hk => ?_⟩, ?_, ?_, fun e he => ?_⟩
  · have := h.bel.size; simp; omega
  · show ((w.alloc _).heap.setIfInBounds (B + 1 + 1) _)[k]? = _
    rw [hbk k (by omega) (by omega), Below.heap_alloc _ _ _ (by omega)]; exact h.bel.block k hk
  · simp; omega
  · show ((w.alloc _).heap.setIfInBounds (B + 1 + 1) _)[B + 1 + 1]? = _
    rw [Array.getElem?_setIfInBounds_self_of_lt (by simp; omega)]
  · rcases hes e he with he | ⟨hk, hv⟩
    · obtain ⟨h1, cr', rb, h2, h3, h4, h5, h6⟩ := h.ok e he
      refine ⟨h1, cr', rb, h2, h3, by simp; omega, ?_, ?_⟩
      · rw [hcell _ (by show rb ≠ B + 1 + 1; omega), World.cell?_alloc_lt _ _ _ (by exact h4)]; exact h5
      · rw [hcell _ (by show rb ≠ B + 1 + 1; omega), World.cell?_alloc_lt _ _ _ (by exact h4)]; exact h6
    · refine ⟨by rw [hk]; exact isKey_i64 x, cr, w.heap.size, hv, by omega, by simp, ?_, ?_⟩
      · rw [hcell _ (by show w.heap.size ≠ B + 1 + 1; omega)]; simp
      · rw [hcell _ (by show w.heap.size ≠ B + 1 + 1; omega)]; simp

theorem neqPtr (w : World) (a : Addr) : (binOp .neq 25 (.pointer (some a)) (.pointer (some a))).run Ybaf.prog w = .ok (.bool false) w := by
  have h2 : (Ybaf.prog.info? 28).isSome = true := by kernel_rfl
  obtain ⟨j, hj⟩ := Option.isSome_iff_exists.1 h2
  have h : ∀ d : Nat, (Op.equalIn (d + 1) 25 (.pointer (some a)) (.pointer (some a))).run Ybaf.prog w = .ok true w := fun d => by
    simp [Op.equalIn, run_underlying Ybaf.underlying25, sizeOf, typeInfo, hj, run_sameAddr_same]
  simp only [binOp]
  simp [Op.equal, Op.maxDepth, h 9999]

set_option maxHeartbeats 3200000 in
set_option maxRecDepth 100000 in
theorem law3 (F : Interp) (ia : Option Addr) (len cap : Nat) (zs : List Int) (sel : Int) (pk : Bool) (raw : Int) (nm : ByteArray) (v : Int) (fl : Bool) (w : World) (hF : F.answers w.tape) (hlen : len ≤ 1024) (hs0 : 0 ≤ sel) (hs1 : sel ≤ 255)
    (ha : len ≠ 0 → ∃ b o, ia = some ⟨b, o, none⟩ ∧ b < w.heap.size ∧ ∀ i, i < len → w.cell? ⟨b, o + i, none⟩ = some (.int .i64 (zs[i]?.getD 0))) :
    Calls Ybaf.prog 3 #[.slice ia len cap, .int .u8 sel, .bool pk, .int .i64 raw, .string nm, .int .i64 v, .bool fl] w fun e w' => e = .returned (.bool true) ∧ Below w.heap.size w w' := by
  have hl' : (len : Int) ≤ 1024 := by omega
  have hmm := @run_makeMap Ybaf.prog
  go_enter Ybaf.func3, Ybaf.ntmps3
  go_wp2_with fail
  clear hmm
  go_loopw [16] (fun iv wr => ∃ (k : Nat) (es : Array MapEntry) (clock : Nat), k ≤ len ∧ iv = .int .i64 k ∧ MapOk ((w.alloc (.cells #[.int .i64 v] 3)).alloc (.cells #[.bool fl] 4)) wr w.heap.size es clock) (fun i _ => len - (intOf i).toNat)
  case atStart => exact ⟨0, #[], 0, by omega, rfl, ⟨(Below.refl _ _).alloc (by simp) _, by simp, by simpa using heap_alloc_new ((w.alloc (.cells #[.int .i64 v] 3)).alloc (.cells #[.bool fl] 4)) (.map #[] 0), by simp⟩⟩
  case round =>
    obtain ⟨k, es, clock, hk, rfl, hok⟩ := hrel
    have hbw : Below w.heap.size w wr := (((Below.refl _ _).alloc (Nat.le_refl _) _).alloc (by simp) _).trans (hok.bel.mono (by omega))
    by_cases hlt : k < len
    · obtain ⟨b, o, rfl, hb, hc⟩ := ha (by omega)
      have hck : wr.cell? ⟨b, o + k, none⟩ = some (.int .i64 (zs[k]?.getD 0)) := (hbw.cell (by exact hb)).trans (hc k hlt)
      have hm1 : (wr.alloc (.cells #[.slice none 0 0, .int .i64 0, .int .i64 0] 28)).heap[w.heap.size + 1 + 1]? = some (.map es clock) := by
        rw [Below.heap_alloc _ _ _ (by have := hok.sz; omega)]; exact hok.m
      have hkeys : ∀ e ∈ es.toList, IsKey (.int .i64) e.key := fun e he => (hok.ok e he).1
      clear ha hc
      go_wp2_with (show wpList _ _ _ ({ dst := _, op := Op.mapUpdate 24 (.tmp 36) (.tmp 40) (.tmp 45), type := _, pos := _, after := _, guard := _ } :: _) _ _; refine wpList_upd rfl (.tmp 36) (.tmp 40) (.tmp 45) rfl (w.heap.size + 1 + 1) es clock (zs[k]?.getD 0) _ rfl rfl rfl hm1 hkeys ?_; intro es' clock' hes)
      have hok' := mapOk_step (clock' := clock') hok hes
      clear hok hm1 hkeys hes hbw
      go_wp2
      go_roundw
      case rel => exact ⟨k + 1, es', clock', by omega, by go_num, hok'⟩
      case measure => simp [intOf]; omega
    · have hsz := hok.sz
      have hB : w.heap.size + 1 < wr.heap.size := by omega
      have hv0 : wr.cell? ⟨w.heap.size, 0, none⟩ = some (.int .i64 v) := (hok.bel.cell (p := ⟨w.heap.size, 0, none⟩) (by show w.heap.size < _; omega)).trans (by simp)
      have hf0 : wr.cell? ⟨w.heap.size + 1, 0, none⟩ = some (.bool fl) := (hok.bel.cell (p := ⟨w.heap.size + 1, 0, none⟩) (by show w.heap.size + 1 < _; omega)).trans (by simp)
      have qp := neqPtr
      rcases (show pk = false ∨ (pk = true ∧ len = 0) ∨ (pk = true ∧ 0 < len) from by cases pk <;> simp <;> omega) with rfl | ⟨rfl, rfl⟩ | ⟨rfl, hpos⟩
      · obtain ⟨vv, ok, hcase, hlook⟩ := look_run (w.heap.size + 1 + 1) es clock raw (fun e he => (hok.ok e he).1)
        have hl0 := hlook wr hok.m
        rcases hcase with ⟨rfl, rfl⟩ | ⟨rfl, e, he, rfl⟩
        · go_wp2_with (go_at_call 4; refine (new4 _ _).mono ?_; rintro e w' ⟨rfl, rfl⟩)
          have E := env5 wr w.heap.size #[.int .i64 0, .pointer none] 30 (.cells #[.string ⟨#[122, 122, 32, 114, 101, 97, 100, 32, 102, 97, 105, 108, 101, 100]⟩] 44) v fl hB hv0 hf0
          have hb5 := below5 wr (.cells #[.int .i64 0, .pointer none] 30) (.cells #[.string ⟨#[122, 122, 32, 114, 101, 97, 100, 32, 102, 97, 105, 108, 101, 100]⟩] 44) (.cells #[.iface 42 (.pointer (some ⟨wr.heap.size + 1, 0, none⟩))] 33) (.cells #[.int .i64 0] 3) (.cells #[.pointer none] 25)
          have k18 : (((((wr.alloc (.cells #[.int .i64 0, .pointer none] 30)).alloc (.cells #[.string ⟨#[122, 122, 32, 114, 101, 97, 100, 32, 102, 97, 105, 108, 101, 100]⟩] 44)).alloc (.cells #[.iface 42 (.pointer (some ⟨wr.heap.size + 1, 0, none⟩))] 33)).alloc (.cells #[.int .i64 0] 3)).alloc (.cells #[.pointer none] 25)).cell? ⟨wr.heap.size, 1, none⟩ = some (.pointer none) := (at0 _ _ _ _ _ _ _ _).trans rfl
          have kzz : (((((wr.alloc (.cells #[.int .i64 0, .pointer none] 30)).alloc (.cells #[.string ⟨#[122, 122, 32, 114, 101, 97, 100, 32, 102, 97, 105, 108, 101, 100]⟩] 44)).alloc (.cells #[.iface 42 (.pointer (some ⟨wr.heap.size + 1, 0, none⟩))] 33)).alloc (.cells #[.int .i64 0] 3)).alloc (.cells #[.pointer none] 25)).cell? ⟨wr.heap.size + 1, 0, none⟩ = some (.string ⟨#[122, 122, 32, 114, 101, 97, 100, 32, 102, 97, 105, 108, 101, 100]⟩) := (at1 _ _ _ _ _ _ _ _).trans rfl
          have hsz5 : (((((wr.alloc (.cells #[.int .i64 0, .pointer none] 30)).alloc (.cells #[.string ⟨#[122, 122, 32, 114, 101, 97, 100, 32, 102, 97, 105, 108, 101, 100]⟩] 44)).alloc (.cells #[.iface 42 (.pointer (some ⟨wr.heap.size + 1, 0, none⟩))] 33)).alloc (.cells #[.int .i64 0] 3)).alloc (.cells #[.pointer none] 25)).heap.size = wr.heap.size + 1 + 1 + 1 + 1 + 1 := by simp
          generalize (((((wr.alloc (.cells #[.int .i64 0, .pointer none] 30)).alloc (.cells #[.string ⟨#[122, 122, 32, 114, 101, 97, 100, 32, 102, 97, 105, 108, 101, 100]⟩] 44)).alloc (.cells #[.iface 42 (.pointer (some ⟨wr.heap.size + 1, 0, none⟩))] 33)).alloc (.cells #[.int .i64 0] 3)).alloc (.cells #[.pointer none] 25)) = W at *
          have hF5 : F.answers W.tape := by rw [hb5.tape, hbw.tape]; exact hF
          have hm5 : W.heap[w.heap.size + 1 + 1]? = some (.map es clock) := (hb5.block _ (by omega)).trans hok.m
          have hl5 : ∀ o o', (Instr.lookup 24 (.map (some (w.heap.size + 1 + 1))) (.int .i64 raw) true).run Ybaf.prog ((W.alloc o).alloc o') = .ok (.tuple #[.agg #[.int .i64 0, .pointer none], .bool false]) ((W.alloc o).alloc o') := fun o o' => hlook _ (by rw [Below.heap_alloc _ _ _ (by simp; omega), Below.heap_alloc _ _ _ (by omega)]; exact hm5)
          have hbW : Below w.heap.size w W := hbw.trans (hb5.mono hbw.size)
          clear hl0 hlook hm5
          refine (req_absent F (w.heap.size + 1 + 1) raw nm _ W hF5 hl5).mono ?_
          rintro e w1 ⟨qb, rfl, hb1⟩
          have c21 : w1.cell? ⟨wr.heap.size + 1 + 1 + 1, 0, none⟩ = some (.int .i64 0) := (hb1.cell (p := ⟨wr.heap.size + 1 + 1 + 1, 0, none⟩) (by show wr.heap.size + 1 + 1 + 1 < _; omega)).trans E.hc
          clear hl5 E k18 kzz
          go_wp2
          go_ret
          exact ⟨rfl, hbW.trans (hb1.mono hbW.size)⟩
        · obtain ⟨_, cr, rb, hval, hrb, hrl, r0, r2⟩ := hok.ok e he
          rw [hval] at hl0 hlook
          cases fl with
          | false =>
            go_wp2_with (go_at_call 4; refine (new4 _ _).mono ?_; rintro e w' ⟨rfl, rfl⟩)
            have E := env5 wr w.heap.size #[.int .i64 cr, .pointer (some ⟨rb, 0, none⟩)] 30 (.cells #[.string ⟨#[122, 122, 32, 114, 101, 97, 100, 32, 102, 97, 105, 108, 101, 100]⟩] 44) v false hB hv0 hf0
            have hb5 := below5 wr (.cells #[.int .i64 cr, .pointer (some ⟨rb, 0, none⟩)] 30) (.cells #[.string ⟨#[122, 122, 32, 114, 101, 97, 100, 32, 102, 97, 105, 108, 101, 100]⟩] 44) (.cells #[.iface 42 (.pointer (some ⟨wr.heap.size + 1, 0, none⟩))] 33) (.cells #[.int .i64 0] 3) (.cells #[.pointer none] 25)
            have k18 : (((((wr.alloc (.cells #[.int .i64 cr, .pointer (some ⟨rb, 0, none⟩)] 30)).alloc (.cells #[.string ⟨#[122, 122, 32, 114, 101, 97, 100, 32, 102, 97, 105, 108, 101, 100]⟩] 44)).alloc (.cells #[.iface 42 (.pointer (some ⟨wr.heap.size + 1, 0, none⟩))] 33)).alloc (.cells #[.int .i64 0] 3)).alloc (.cells #[.pointer none] 25)).cell? ⟨wr.heap.size, 1, none⟩ = some (.pointer (some ⟨rb, 0, none⟩)) := (at0 _ _ _ _ _ _ _ _).trans rfl
            have kzz : (((((wr.alloc (.cells #[.int .i64 cr, .pointer (some ⟨rb, 0, none⟩)] 30)).alloc (.cells #[.string ⟨#[122, 122, 32, 114, 101, 97, 100, 32, 102, 97, 105, 108, 101, 100]⟩] 44)).alloc (.cells #[.iface 42 (.pointer (some ⟨wr.heap.size + 1, 0, none⟩))] 33)).alloc (.cells #[.int .i64 0] 3)).alloc (.cells #[.pointer none] 25)).cell? ⟨wr.heap.size + 1, 0, none⟩ = some (.string ⟨#[122, 122, 32, 114, 101, 97, 100, 32, 102, 97, 105, 108, 101, 100]⟩) := (at1 _ _ _ _ _ _ _ _).trans rfl
            have hsz5 : (((((wr.alloc (.cells #[.int .i64 cr, .pointer (some ⟨rb, 0, none⟩)] 30)).alloc (.cells #[.string ⟨#[122, 122, 32, 114, 101, 97, 100, 32, 102, 97, 105, 108, 101, 100]⟩] 44)).alloc (.cells #[.iface 42 (.pointer (some ⟨wr.heap.size + 1, 0, none⟩))] 33)).alloc (.cells #[.int .i64 0] 3)).alloc (.cells #[.pointer none] 25)).heap.size = wr.heap.size + 1 + 1 + 1 + 1 + 1 := by simp
            generalize (((((wr.alloc (.cells #[.int .i64 cr, .pointer (some ⟨rb, 0, none⟩)] 30)).alloc (.cells #[.string ⟨#[122, 122, 32, 114, 101, 97, 100, 32, 102, 97, 105, 108, 101, 100]⟩] 44)).alloc (.cells #[.iface 42 (.pointer (some ⟨wr.heap.size + 1, 0, none⟩))] 33)).alloc (.cells #[.int .i64 0] 3)).alloc (.cells #[.pointer none] 25)) = W at *
            have hF5 : F.answers W.tape := by rw [hb5.tape, hbw.tape]; exact hF
            have hm5 : W.heap[w.heap.size + 1 + 1]? = some (.map es clock) := (hb5.block _ (by omega)).trans hok.m
            have hl5 : ∀ o o', (Instr.lookup 24 (.map (some (w.heap.size + 1 + 1))) (.int .i64 raw) true).run Ybaf.prog ((W.alloc o).alloc o') = .ok (.tuple #[.agg #[.int .i64 cr, .pointer (some ⟨rb, 0, none⟩)], .bool true]) ((W.alloc o).alloc o') := fun o o' => hlook _ (by rw [Below.heap_alloc _ _ _ (by simp; omega), Below.heap_alloc _ _ _ (by omega)]; exact hm5)
            have hbW : Below w.heap.size w W := hbw.trans (hb5.mono hbw.size)
            clear hl0 hlook hm5
            refine (req_ok (w.heap.size + 1 + 1) raw nm rb _ _ _ _ _ cr v 0 _ _ W hl5 E (by omega) (by omega) ((hb5.cell (p := ⟨rb, 0, none⟩) hrl).trans r0) ((hb5.cell (p := ⟨rb, 2, none⟩) hrl).trans r2) (by omega) (by omega)).mono ?_
            rintro e w1 ⟨rfl, E1, hk1⟩
            have c18 : w1.cell? ⟨wr.heap.size, 1, none⟩ = some (.pointer (some ⟨rb, 0, none⟩)) := (hk1.cell (p := ⟨wr.heap.size, 1, none⟩) (by show wr.heap.size < _; omega) (by show wr.heap.size ≠ _; omega) (by show wr.heap.size ≠ _; omega)).trans k18
            have c21 := E1.hc
            have c22 := E1.hs
            have c13 := E1.hf
            have c12 := E1.hv
            have hb1 := hk1.below (B := w.heap.size) (by omega) (by omega) (by omega)
            clear hl5 E k18 kzz E1 hk1
            go_wp2
            go_ret
            exact ⟨rfl, hbW.trans hb1⟩
          | true =>
            go_wp2_with (go_at_call 4; refine (new4 _ _).mono ?_; rintro e w' ⟨rfl, rfl⟩)
            have E := env5 wr w.heap.size #[.int .i64 cr, .pointer (some ⟨rb, 0, none⟩)] 30 (.cells #[.string ⟨#[122, 122, 32, 114, 101, 97, 100, 32, 102, 97, 105, 108, 101, 100]⟩] 44) v true hB hv0 hf0
            have hb5 := below5 wr (.cells #[.int .i64 cr, .pointer (some ⟨rb, 0, none⟩)] 30) (.cells #[.string ⟨#[122, 122, 32, 114, 101, 97, 100, 32, 102, 97, 105, 108, 101, 100]⟩] 44) (.cells #[.iface 42 (.pointer (some ⟨wr.heap.size + 1, 0, none⟩))] 33) (.cells #[.int .i64 0] 3) (.cells #[.pointer none] 25)
            have k18 : (((((wr.alloc (.cells #[.int .i64 cr, .pointer (some ⟨rb, 0, none⟩)] 30)).alloc (.cells #[.string ⟨#[122, 122, 32, 114, 101, 97, 100, 32, 102, 97, 105, 108, 101, 100]⟩] 44)).alloc (.cells #[.iface 42 (.pointer (some ⟨wr.heap.size + 1, 0, none⟩))] 33)).alloc (.cells #[.int .i64 0] 3)).alloc (.cells #[.pointer none] 25)).cell? ⟨wr.heap.size, 1, none⟩ = some (.pointer (some ⟨rb, 0, none⟩)) := (at0 _ _ _ _ _ _ _ _).trans rfl
            have kzz : (((((wr.alloc (.cells #[.int .i64 cr, .pointer (some ⟨rb, 0, none⟩)] 30)).alloc (.cells #[.string ⟨#[122, 122, 32, 114, 101, 97, 100, 32, 102, 97, 105, 108, 101, 100]⟩] 44)).alloc (.cells #[.iface 42 (.pointer (some ⟨wr.heap.size + 1, 0, none⟩))] 33)).alloc (.cells #[.int .i64 0] 3)).alloc (.cells #[.pointer none] 25)).cell? ⟨wr.heap.size + 1, 0, none⟩ = some (.string ⟨#[122, 122, 32, 114, 101, 97, 100, 32, 102, 97, 105, 108, 101, 100]⟩) := (at1 _ _ _ _ _ _ _ _).trans rfl
            have hsz5 : (((((wr.alloc (.cells #[.int .i64 cr, .pointer (some ⟨rb, 0, none⟩)] 30)).alloc (.cells #[.string ⟨#[122, 122, 32, 114, 101, 97, 100, 32, 102, 97, 105, 108, 101, 100]⟩] 44)).alloc (.cells #[.iface 42 (.pointer (some ⟨wr.heap.size + 1, 0, none⟩))] 33)).alloc (.cells #[.int .i64 0] 3)).alloc (.cells #[.pointer none] 25)).heap.size = wr.heap.size + 1 + 1 + 1 + 1 + 1 := by simp
            generalize (((((wr.alloc (.cells #[.int .i64 cr, .pointer (some ⟨rb, 0, none⟩)] 30)).alloc (.cells #[.string ⟨#[122, 122, 32, 114, 101, 97, 100, 32, 102, 97, 105, 108, 101, 100]⟩] 44)).alloc (.cells #[.iface 42 (.pointer (some ⟨wr.heap.size + 1, 0, none⟩))] 33)).alloc (.cells #[.int .i64 0] 3)).alloc (.cells #[.pointer none] 25)) = W at *
            have hF5 : F.answers W.tape := by rw [hb5.tape, hbw.tape]; exact hF
            have hm5 : W.heap[w.heap.size + 1 + 1]? = some (.map es clock) := (hb5.block _ (by omega)).trans hok.m
            have hl5 : ∀ o o', (Instr.lookup 24 (.map (some (w.heap.size + 1 + 1))) (.int .i64 raw) true).run Ybaf.prog ((W.alloc o).alloc o') = .ok (.tuple #[.agg #[.int .i64 cr, .pointer (some ⟨rb, 0, none⟩)], .bool true]) ((W.alloc o).alloc o') := fun o o' => hlook _ (by rw [Below.heap_alloc _ _ _ (by simp; omega), Below.heap_alloc _ _ _ (by omega)]; exact hm5)
            have hbW : Below w.heap.size w W := hbw.trans (hb5.mono hbw.size)
            clear hl0 hlook hm5
            refine (req_fail F (w.heap.size + 1 + 1) raw nm _ rb _ _ _ _ _ cr v 0 _ _ W hF5 hl5 E (by omega) (by omega) kzz (by show wr.heap.size + 1 ≠ _; omega) (by show wr.heap.size + 1 ≠ _; omega)).mono ?_
            rintro e w1 ⟨qb, rfl, hq, E1, hk1⟩
            have c18 : w1.cell? ⟨wr.heap.size, 1, none⟩ = some (.pointer (some ⟨rb, 0, none⟩)) := (hk1.cell (p := ⟨wr.heap.size, 1, none⟩) (by show wr.heap.size < _; omega) (by show wr.heap.size ≠ _; omega) (by show wr.heap.size ≠ _; omega)).trans k18
            have c21 := E1.hc
            have c22 := E1.hs
            have c13 := E1.hf
            have c20 := E1.he
            have hb1 := hk1.below (B := w.heap.size) (by omega) (by omega) (by omega)
            clear hl5 E k18 kzz E1 hk1
            go_wp2_with (go_at_call 7; refine (is_wrap_same qb 0 ⟨wr.heap.size + 1, 0, none⟩ _ hq).mono ?_; rintro e w' ⟨rfl, rfl⟩)
            go_ret
            exact ⟨rfl, hbW.trans hb1⟩
      · obtain ⟨vv, ok, hcase, hlook⟩ := look_run (w.heap.size + 1 + 1) es clock raw (fun e he => (hok.ok e he).1)
        have hl0 := hlook wr hok.m
        rcases hcase with ⟨rfl, rfl⟩ | ⟨rfl, e, he, rfl⟩
        · go_wp2_with (go_at_call 4; refine (new4 _ _).mono ?_; rintro e w' ⟨rfl, rfl⟩)
          have E := env5 wr w.heap.size #[.int .i64 0, .pointer none] 30 (.cells #[.string ⟨#[122, 122, 32, 114, 101, 97, 100, 32, 102, 97, 105, 108, 101, 100]⟩] 44) v fl hB hv0 hf0
          have hb5 := below5 wr (.cells #[.int .i64 0, .pointer none] 30) (.cells #[.string ⟨#[122, 122, 32, 114, 101, 97, 100, 32, 102, 97, 105, 108, 101, 100]⟩] 44) (.cells #[.iface 42 (.pointer (some ⟨wr.heap.size + 1, 0, none⟩))] 33) (.cells #[.int .i64 0] 3) (.cells #[.pointer none] 25)
          have k18 : (((((wr.alloc (.cells #[.int .i64 0, .pointer none] 30)).alloc (.cells #[.string ⟨#[122, 122, 32, 114, 101, 97, 100, 32, 102, 97, 105, 108, 101, 100]⟩] 44)).alloc (.cells #[.iface 42 (.pointer (some ⟨wr.heap.size + 1, 0, none⟩))] 33)).alloc (.cells #[.int .i64 0] 3)).alloc (.cells #[.pointer none] 25)).cell? ⟨wr.heap.size, 1, none⟩ = some (.pointer none) := (at0 _ _ _ _ _ _ _ _).trans rfl
          have kzz : (((((wr.alloc (.cells #[.int .i64 0, .pointer none] 30)).alloc (.cells #[.string ⟨#[122, 122, 32, 114, 101, 97, 100, 32, 102, 97, 105, 108, 101, 100]⟩] 44)).alloc (.cells #[.iface 42 (.pointer (some ⟨wr.heap.size + 1, 0, none⟩))] 33)).alloc (.cells #[.int .i64 0] 3)).alloc (.cells #[.pointer none] 25)).cell? ⟨wr.heap.size + 1, 0, none⟩ = some (.string ⟨#[122, 122, 32, 114, 101, 97, 100, 32, 102, 97, 105, 108, 101, 100]⟩) := (at1 _ _ _ _ _ _ _ _).trans rfl
          have hsz5 : (((((wr.alloc (.cells #[.int .i64 0, .pointer none] 30)).alloc (.cells #[.string ⟨#[122, 122, 32, 114, 101, 97, 100, 32, 102, 97, 105, 108, 101, 100]⟩] 44)).alloc (.cells #[.iface 42 (.pointer (some ⟨wr.heap.size + 1, 0, none⟩))] 33)).alloc (.cells #[.int .i64 0] 3)).alloc (.cells #[.pointer none] 25)).heap.size = wr.heap.size + 1 + 1 + 1 + 1 + 1 := by simp
          generalize (((((wr.alloc (.cells #[.int .i64 0, .pointer none] 30)).alloc (.cells #[.string ⟨#[122, 122, 32, 114, 101, 97, 100, 32, 102, 97, 105, 108, 101, 100]⟩] 44)).alloc (.cells #[.iface 42 (.pointer (some ⟨wr.heap.size + 1, 0, none⟩))] 33)).alloc (.cells #[.int .i64 0] 3)).alloc (.cells #[.pointer none] 25)) = W at *
          have hF5 : F.answers W.tape := by rw [hb5.tape, hbw.tape]; exact hF
          have hm5 : W.heap[w.heap.size + 1 + 1]? = some (.map es clock) := (hb5.block _ (by omega)).trans hok.m
          have hl5 : ∀ o o', (Instr.lookup 24 (.map (some (w.heap.size + 1 + 1))) (.int .i64 raw) true).run Ybaf.prog ((W.alloc o).alloc o') = .ok (.tuple #[.agg #[.int .i64 0, .pointer none], .bool false]) ((W.alloc o).alloc o') := fun o o' => hlook _ (by rw [Below.heap_alloc _ _ _ (by simp; omega), Below.heap_alloc _ _ _ (by omega)]; exact hm5)
          have hbW : Below w.heap.size w W := hbw.trans (hb5.mono hbw.size)
          clear hl0 hlook hm5
          refine (req_absent F (w.heap.size + 1 + 1) raw nm _ W hF5 hl5).mono ?_
          rintro e w1 ⟨qb, rfl, hb1⟩
          have c21 : w1.cell? ⟨wr.heap.size + 1 + 1 + 1, 0, none⟩ = some (.int .i64 0) := (hb1.cell (p := ⟨wr.heap.size + 1 + 1 + 1, 0, none⟩) (by show wr.heap.size + 1 + 1 + 1 < _; omega)).trans E.hc
          clear hl5 E k18 kzz
          go_wp2
          go_ret
          exact ⟨rfl, hbW.trans (hb1.mono hbW.size)⟩
        · obtain ⟨_, cr, rb, hval, hrb, hrl, r0, r2⟩ := hok.ok e he
          rw [hval] at hl0 hlook
          cases fl with
          | false =>
            go_wp2_with (go_at_call 4; refine (new4 _ _).mono ?_; rintro e w' ⟨rfl, rfl⟩)
            have E := env5 wr w.heap.size #[.int .i64 cr, .pointer (some ⟨rb, 0, none⟩)] 30 (.cells #[.string ⟨#[122, 122, 32, 114, 101, 97, 100, 32, 102, 97, 105, 108, 101, 100]⟩] 44) v false hB hv0 hf0
            have hb5 := below5 wr (.cells #[.int .i64 cr, .pointer (some ⟨rb, 0, none⟩)] 30) (.cells #[.string ⟨#[122, 122, 32, 114, 101, 97, 100, 32, 102, 97, 105, 108, 101, 100]⟩] 44) (.cells #[.iface 42 (.pointer (some ⟨wr.heap.size + 1, 0, none⟩))] 33) (.cells #[.int .i64 0] 3) (.cells #[.pointer none] 25)
            have k18 : (((((wr.alloc (.cells #[.int .i64 cr, .pointer (some ⟨rb, 0, none⟩)] 30)).alloc (.cells #[.string ⟨#[122, 122, 32, 114, 101, 97, 100, 32, 102, 97, 105, 108, 101, 100]⟩] 44)).alloc (.cells #[.iface 42 (.pointer (some ⟨wr.heap.size + 1, 0, none⟩))] 33)).alloc (.cells #[.int .i64 0] 3)).alloc (.cells #[.pointer none] 25)).cell? ⟨wr.heap.size, 1, none⟩ = some (.pointer (some ⟨rb, 0, none⟩)) := (at0 _ _ _ _ _ _ _ _).trans rfl
            have kzz : (((((wr.alloc (.cells #[.int .i64 cr, .pointer (some ⟨rb, 0, none⟩)] 30)).alloc (.cells #[.string ⟨#[122, 122, 32, 114, 101, 97, 100, 32, 102, 97, 105, 108, 101, 100]⟩] 44)).alloc (.cells #[.iface 42 (.pointer (some ⟨wr.heap.size + 1, 0, none⟩))] 33)).alloc (.cells #[.int .i64 0] 3)).alloc (.cells #[.pointer none] 25)).cell? ⟨wr.heap.size + 1, 0, none⟩ = some (.string ⟨#[122, 122, 32, 114, 101, 97, 100, 32, 102, 97, 105, 108, 101, 100]⟩) := (at1 _ _ _ _ _ _ _ _).trans rfl
            have hsz5 : (((((wr.alloc (.cells #[.int .i64 cr, .pointer (some ⟨rb, 0, none⟩)] 30)).alloc (.cells #[.string ⟨#[122, 122, 32, 114, 101, 97, 100, 32, 102, 97, 105, 108, 101, 100]⟩] 44)).alloc (.cells #[.iface 42 (.pointer (some ⟨wr.heap.size + 1, 0, none⟩))] 33)).alloc (.cells #[.int .i64 0] 3)).alloc (.cells #[.pointer none] 25)).heap.size = wr.heap.size + 1 + 1 + 1 + 1 + 1 := by simp
            generalize (((((wr.alloc (.cells #[.int .i64 cr, .pointer (some ⟨rb, 0, none⟩)] 30)).alloc (.cells #[.string ⟨#[122, 122, 32, 114, 101, 97, 100, 32, 102, 97, 105, 108, 101, 100]⟩] 44)).alloc (.cells #[.iface 42 (.pointer (some ⟨wr.heap.size + 1, 0, none⟩))] 33)).alloc (.cells #[.int .i64 0] 3)).alloc (.cells #[.pointer none] 25)) = W at *
            have hF5 : F.answers W.tape := by rw [hb5.tape, hbw.tape]; exact hF
            have hm5 : W.heap[w.heap.size + 1 + 1]? = some (.map es clock) := (hb5.block _ (by omega)).trans hok.m
            have hl5 : ∀ o o', (Instr.lookup 24 (.map (some (w.heap.size + 1 + 1))) (.int .i64 raw) true).run Ybaf.prog ((W.alloc o).alloc o') = .ok (.tuple #[.agg #[.int .i64 cr, .pointer (some ⟨rb, 0, none⟩)], .bool true]) ((W.alloc o).alloc o') := fun o o' => hlook _ (by rw [Below.heap_alloc _ _ _ (by simp; omega), Below.heap_alloc _ _ _ (by omega)]; exact hm5)
            have hbW : Below w.heap.size w W := hbw.trans (hb5.mono hbw.size)
            clear hl0 hlook hm5
            refine (req_ok (w.heap.size + 1 + 1) raw nm rb _ _ _ _ _ cr v 0 _ _ W hl5 E (by omega) (by omega) ((hb5.cell (p := ⟨rb, 0, none⟩) hrl).trans r0) ((hb5.cell (p := ⟨rb, 2, none⟩) hrl).trans r2) (by omega) (by omega)).mono ?_
            rintro e w1 ⟨rfl, E1, hk1⟩
            have c18 : w1.cell? ⟨wr.heap.size, 1, none⟩ = some (.pointer (some ⟨rb, 0, none⟩)) := (hk1.cell (p := ⟨wr.heap.size, 1, none⟩) (by show wr.heap.size < _; omega) (by show wr.heap.size ≠ _; omega) (by show wr.heap.size ≠ _; omega)).trans k18
            have c21 := E1.hc
            have c22 := E1.hs
            have c13 := E1.hf
            have c12 := E1.hv
            have hb1 := hk1.below (B := w.heap.size) (by omega) (by omega) (by omega)
            clear hl5 E k18 kzz E1 hk1
            go_wp2
            go_ret
            exact ⟨rfl, hbW.trans hb1⟩
          | true =>
            go_wp2_with (go_at_call 4; refine (new4 _ _).mono ?_; rintro e w' ⟨rfl, rfl⟩)
            have E := env5 wr w.heap.size #[.int .i64 cr, .pointer (some ⟨rb, 0, none⟩)] 30 (.cells #[.string ⟨#[122, 122, 32, 114, 101, 97, 100, 32, 102, 97, 105, 108, 101, 100]⟩] 44) v true hB hv0 hf0
            have hb5 := below5 wr (.cells #[.int .i64 cr, .pointer (some ⟨rb, 0, none⟩)] 30) (.cells #[.string ⟨#[122, 122, 32, 114, 101, 97, 100, 32, 102, 97, 105, 108, 101, 100]⟩] 44) (.cells #[.iface 42 (.pointer (some ⟨wr.heap.size + 1, 0, none⟩))] 33) (.cells #[.int .i64 0] 3) (.cells #[.pointer none] 25)
            have k18 : (((((wr.alloc (.cells #[.int .i64 cr, .pointer (some ⟨rb, 0, none⟩)] 30)).alloc (.cells #[.string ⟨#[122, 122, 32, 114, 101, 97, 100, 32, 102, 97, 105, 108, 101, 100]⟩] 44)).alloc (.cells #[.iface 42 (.pointer (some ⟨wr.heap.size + 1, 0, none⟩))] 33)).alloc (.cells #[.int .i64 0] 3)).alloc (.cells #[.pointer none] 25)).cell? ⟨wr.heap.size, 1, none⟩ = some (.pointer (some ⟨rb, 0, none⟩)) := (at0 _ _ _ _ _ _ _ _).trans rfl
            have kzz : (((((wr.alloc (.cells #[.int .i64 cr, .pointer (some ⟨rb, 0, none⟩)] 30)).alloc (.cells #[.string ⟨#[122, 122, 32, 114, 101, 97, 100, 32, 102, 97, 105, 108, 101, 100]⟩] 44)).alloc (.cells #[.iface 42 (.pointer (some ⟨wr.heap.size + 1, 0, none⟩))] 33)).alloc (.cells #[.int .i64 0] 3)).alloc (.cells #[.pointer none] 25)).cell? ⟨wr.heap.size + 1, 0, none⟩ = some (.string ⟨#[122, 122, 32, 114, 101, 97, 100, 32, 102, 97, 105, 108, 101, 100]⟩) := (at1 _ _ _ _ _ _ _ _).trans rfl
            have hsz5 : (((((wr.alloc (.cells #[.int .i64 cr, .pointer (some ⟨rb, 0, none⟩)] 30)).alloc (.cells #[.string ⟨#[122, 122, 32, 114, 101, 97, 100, 32, 102, 97, 105, 108, 101, 100]⟩] 44)).alloc (.cells #[.iface 42 (.pointer (some ⟨wr.heap.size + 1, 0, none⟩))] 33)).alloc (.cells #[.int .i64 0] 3)).alloc (.cells #[.pointer none] 25)).heap.size = wr.heap.size + 1 + 1 + 1 + 1 + 1 := by simp
            generalize (((((wr.alloc (.cells #[.int .i64 cr, .pointer (some ⟨rb, 0, none⟩)] 30)).alloc (.cells #[.string ⟨#[122, 122, 32, 114, 101, 97, 100, 32, 102, 97, 105, 108, 101, 100]⟩] 44)).alloc (.cells #[.iface 42 (.pointer (some ⟨wr.heap.size + 1, 0, none⟩))] 33)).alloc (.cells #[.int .i64 0] 3)).alloc (.cells #[.pointer none] 25)) = W at *
            have hF5 : F.answers W.tape := by rw [hb5.tape, hbw.tape]; exact hF
            have hm5 : W.heap[w.heap.size + 1 + 1]? = some (.map es clock) := (hb5.block _ (by omega)).trans hok.m
            have hl5 : ∀ o o', (Instr.lookup 24 (.map (some (w.heap.size + 1 + 1))) (.int .i64 raw) true).run Ybaf.prog ((W.alloc o).alloc o') = .ok (.tuple #[.agg #[.int .i64 cr, .pointer (some ⟨rb, 0, none⟩)], .bool true]) ((W.alloc o).alloc o') := fun o o' => hlook _ (by rw [Below.heap_alloc _ _ _ (by simp; omega), Below.heap_alloc _ _ _ (by omega)]; exact hm5)
            have hbW : Below w.heap.size w W := hbw.trans (hb5.mono hbw.size)
            clear hl0 hlook hm5
            refine (req_fail F (w.heap.size + 1 + 1) raw nm _ rb _ _ _ _ _ cr v 0 _ _ W hF5 hl5 E (by omega) (by omega) kzz (by show wr.heap.size + 1 ≠ _; omega) (by show wr.heap.size + 1 ≠ _; omega)).mono ?_
            rintro e w1 ⟨qb, rfl, hq, E1, hk1⟩
            have c18 : w1.cell? ⟨wr.heap.size, 1, none⟩ = some (.pointer (some ⟨rb, 0, none⟩)) := (hk1.cell (p := ⟨wr.heap.size, 1, none⟩) (by show wr.heap.size < _; omega) (by show wr.heap.size ≠ _; omega) (by show wr.heap.size ≠ _; omega)).trans k18
            have c21 := E1.hc
            have c22 := E1.hs
            have c13 := E1.hf
            have c20 := E1.he
            have hb1 := hk1.below (B := w.heap.size) (by omega) (by omega) (by omega)
            clear hl5 E k18 kzz E1 hk1
            go_wp2_with (go_at_call 7; refine (is_wrap_same qb 0 ⟨wr.heap.size + 1, 0, none⟩ _ hq).mono ?_; rintro e w' ⟨rfl, rfl⟩)
            go_ret
            exact ⟨rfl, hbW.trans hb1⟩
      · obtain ⟨S, hS⟩ : ∃ S : Nat, sel % (len : Int) = S := ⟨(sel % (len : Int)).toNat, by have := Int.emod_nonneg sel (show (len : Int) ≠ 0 from by omega); omega⟩
        have hSl : S < len := by have := Int.emod_lt_of_pos sel (show (0 : Int) < len from by omega); omega
        obtain ⟨b, o, rfl, hb, hc⟩ := ha (by omega)
        have hcS : wr.cell? ⟨b, o + S, none⟩ = some (.int .i64 (zs[S]?.getD 0)) := (hbw.cell (by exact hb)).trans (hc S hSl)
        have hpi : (0 : Int) < len := by omega
        have hSi : (S : Int) < len := by omega
        clear ha hc
        obtain ⟨vv, ok, hcase, hlook⟩ := look_run (w.heap.size + 1 + 1) es clock (zs[S]?.getD 0) (fun e he => (hok.ok e he).1)
        have hl0 := hlook wr hok.m
        rcases hcase with ⟨rfl, rfl⟩ | ⟨rfl, e, he, rfl⟩
        · go_wp2_with (go_at_call 4; refine (new4 _ _).mono ?_; rintro e w' ⟨rfl, rfl⟩)
          have E := env5 wr w.heap.size #[.int .i64 0, .pointer none] 30 (.cells #[.string ⟨#[122, 122, 32, 114, 101, 97, 100, 32, 102, 97, 105, 108, 101, 100]⟩] 44) v fl hB hv0 hf0
          have hb5 := below5 wr (.cells #[.int .i64 0, .pointer none] 30) (.cells #[.string ⟨#[122, 122, 32, 114, 101, 97, 100, 32, 102, 97, 105, 108, 101, 100]⟩] 44) (.cells #[.iface 42 (.pointer (some ⟨wr.heap.size + 1, 0, none⟩))] 33) (.cells #[.int .i64 0] 3) (.cells #[.pointer none] 25)
          have k18 : (((((wr.alloc (.cells #[.int .i64 0, .pointer none] 30)).alloc (.cells #[.string ⟨#[122, 122, 32, 114, 101, 97, 100, 32, 102, 97, 105, 108, 101, 100]⟩] 44)).alloc (.cells #[.iface 42 (.pointer (some ⟨wr.heap.size + 1, 0, none⟩))] 33)).alloc (.cells #[.int .i64 0] 3)).alloc (.cells #[.pointer none] 25)).cell? ⟨wr.heap.size, 1, none⟩ = some (.pointer none) := (at0 _ _ _ _ _ _ _ _).trans rfl
          have kzz : (((((wr.alloc (.cells #[.int .i64 0, .pointer none] 30)).alloc (.cells #[.string ⟨#[122, 122, 32, 114, 101, 97, 100, 32, 102, 97, 105, 108, 101, 100]⟩] 44)).alloc (.cells #[.iface 42 (.pointer (some ⟨wr.heap.size + 1, 0, none⟩))] 33)).alloc (.cells #[.int .i64 0] 3)).alloc (.cells #[.pointer none] 25)).cell? ⟨wr.heap.size + 1, 0, none⟩ = some (.string ⟨#[122, 122, 32, 114, 101, 97, 100, 32, 102, 97, 105, 108, 101, 100]⟩) := (at1 _ _ _ _ _ _ _ _).trans rfl
          have hsz5 : (((((wr.alloc (.cells #[.int .i64 0, .pointer none] 30)).alloc (.cells #[.string ⟨#[122, 122, 32, 114, 101, 97, 100, 32, 102, 97, 105, 108, 101, 100]⟩] 44)).alloc (.cells #[.iface 42 (.pointer (some ⟨wr.heap.size + 1, 0, none⟩))] 33)).alloc (.cells #[.int .i64 0] 3)).alloc (.cells #[.pointer none] 25)).heap.size = wr.heap.size + 1 + 1 + 1 + 1 + 1 := by simp
          generalize (((((wr.alloc (.cells #[.int .i64 0, .pointer none] 30)).alloc (.cells #[.string ⟨#[122, 122, 32, 114, 101, 97, 100, 32, 102, 97, 105, 108, 101, 100]⟩] 44)).alloc (.cells #[.iface 42 (.pointer (some ⟨wr.heap.size + 1, 0, none⟩))] 33)).alloc (.cells #[.int .i64 0] 3)).alloc (.cells #[.pointer none] 25)) = W at *
          have hF5 : F.answers W.tape := by rw [hb5.tape, hbw.tape]; exact hF
          have hm5 : W.heap[w.heap.size + 1 + 1]? = some (.map es clock) := (hb5.block _ (by omega)).trans hok.m
          have hl5 : ∀ o o', (Instr.lookup 24 (.map (some (w.heap.size + 1 + 1))) (.int .i64 (zs[S]?.getD 0)) true).run Ybaf.prog ((W.alloc o).alloc o') = .ok (.tuple #[.agg #[.int .i64 0, .pointer none], .bool false]) ((W.alloc o).alloc o') := fun o o' => hlook _ (by rw [Below.heap_alloc _ _ _ (by simp; omega), Below.heap_alloc _ _ _ (by omega)]; exact hm5)
          have hbW : Below w.heap.size w W := hbw.trans (hb5.mono hbw.size)
          clear hl0 hlook hm5
          refine (req_absent F (w.heap.size + 1 + 1) (zs[S]?.getD 0) nm _ W hF5 hl5).mono ?_
          rintro e w1 ⟨qb, rfl, hb1⟩
          have c21 : w1.cell? ⟨wr.heap.size + 1 + 1 + 1, 0, none⟩ = some (.int .i64 0) := (hb1.cell (p := ⟨wr.heap.size + 1 + 1 + 1, 0, none⟩) (by show wr.heap.size + 1 + 1 + 1 < _; omega)).trans E.hc
          clear hl5 E k18 kzz
          go_wp2
          go_ret
          exact ⟨rfl, hbW.trans (hb1.mono hbW.size)⟩
        · obtain ⟨_, cr, rb, hval, hrb, hrl, r0, r2⟩ := hok.ok e he
          rw [hval] at hl0 hlook
          cases fl with
          | false =>
            go_wp2_with (go_at_call 4; refine (new4 _ _).mono ?_; rintro e w' ⟨rfl, rfl⟩)
            have E := env5 wr w.heap.size #[.int .i64 cr, .pointer (some ⟨rb, 0, none⟩)] 30 (.cells #[.string ⟨#[122, 122, 32, 114, 101, 97, 100, 32, 102, 97, 105, 108, 101, 100]⟩] 44) v false hB hv0 hf0
            have hb5 := below5 wr (.cells #[.int .i64 cr, .pointer (some ⟨rb, 0, none⟩)] 30) (.cells #[.string ⟨#[122, 122, 32, 114, 101, 97, 100, 32, 102, 97, 105, 108, 101, 100]⟩] 44) (.cells #[.iface 42 (.pointer (some ⟨wr.heap.size + 1, 0, none⟩))] 33) (.cells #[.int .i64 0] 3) (.cells #[.pointer none] 25)
            have k18 : (((((wr.alloc (.cells #[.int .i64 cr, .pointer (some ⟨rb, 0, none⟩)] 30)).alloc (.cells #[.string ⟨#[122, 122, 32, 114, 101, 97, 100, 32, 102, 97, 105, 108, 101, 100]⟩] 44)).alloc (.cells #[.iface 42 (.pointer (some ⟨wr.heap.size + 1, 0, none⟩))] 33)).alloc (.cells #[.int .i64 0] 3)).alloc (.cells #[.pointer none] 25)).cell? ⟨wr.heap.size, 1, none⟩ = some (.pointer (some ⟨rb, 0, none⟩)) := (at0 _ _ _ _ _ _ _ _).trans rfl
            have kzz : (((((wr.alloc (.cells #[.int .i64 cr, .pointer (some ⟨rb, 0, none⟩)] 30)).alloc (.cells #[.string ⟨#[122, 122, 32, 114, 101, 97, 100, 32, 102, 97, 105, 108, 101, 100]⟩] 44)).alloc (.cells #[.iface 42 (.pointer (some ⟨wr.heap.size + 1, 0, none⟩))] 33)).alloc (.cells #[.int .i64 0] 3)).alloc (.cells #[.pointer none] 25)).cell? ⟨wr.heap.size + 1, 0, none⟩ = some (.string ⟨#[122, 122, 32, 114, 101, 97, 100, 32, 102, 97, 105, 108, 101, 100]⟩) := (at1 _ _ _ _ _ _ _ _).trans rfl
            have hsz5 : (((((wr.alloc (.cells #[.int .i64 cr, .pointer (some ⟨rb, 0, none⟩)] 30)).alloc (.cells #[.string ⟨#[122, 122, 32, 114, 101, 97, 100, 32, 102, 97, 105, 108, 101, 100]⟩] 44)).alloc (.cells #[.iface 42 (.pointer (some ⟨wr.heap.size + 1, 0, none⟩))] 33)).alloc (.cells #[.int .i64 0] 3)).alloc (.cells #[.pointer none] 25)).heap.size = wr.heap.size + 1 + 1 + 1 + 1 + 1 := by simp
            generalize (((((wr.alloc (.cells #[.int .i64 cr, .pointer (some ⟨rb, 0, none⟩)] 30)).alloc (.cells #[.string ⟨#[122, 122, 32, 114, 101, 97, 100, 32, 102, 97, 105, 108, 101, 100]⟩] 44)).alloc (.cells #[.iface 42 (.pointer (some ⟨wr.heap.size + 1, 0, none⟩))] 33)).alloc (.cells #[.int .i64 0] 3)).alloc (.cells #[.pointer none] 25)) = W at *
            have hF5 : F.answers W.tape := by rw [hb5.tape, hbw.tape]; exact hF
            have hm5 : W.heap[w.heap.size + 1 + 1]? = some (.map es clock) := (hb5.block _ (by omega)).trans hok.m
            have hl5 : ∀ o o', (Instr.lookup 24 (.map (some (w.heap.size + 1 + 1))) (.int .i64 (zs[S]?.getD 0)) true).run Ybaf.prog ((W.alloc o).alloc o') = .ok (.tuple #[.agg #[.int .i64 cr, .pointer (some ⟨rb, 0, none⟩)], .bool true]) ((W.alloc o).alloc o') := fun o o' => hlook _ (by rw [Below.heap_alloc _ _ _ (by simp; omega), Below.heap_alloc _ _ _ (by omega)]; exact hm5)
            have hbW : Below w.heap.size w W := hbw.trans (hb5.mono hbw.size)
            clear hl0 hlook hm5
            refine (req_ok (w.heap.size + 1 + 1) (zs[S]?.getD 0) nm rb _ _ _ _ _ cr v 0 _ _ W hl5 E (by omega) (by omega) ((hb5.cell (p := ⟨rb, 0, none⟩) hrl).trans r0) ((hb5.cell (p := ⟨rb, 2, none⟩) hrl).trans r2) (by omega) (by omega)).mono ?_
            rintro e w1 ⟨rfl, E1, hk1⟩
            have c18 : w1.cell? ⟨wr.heap.size, 1, none⟩ = some (.pointer (some ⟨rb, 0, none⟩)) := (hk1.cell (p := ⟨wr.heap.size, 1, none⟩) (by show wr.heap.size < _; omega) (by show wr.heap.size ≠ _; omega) (by show wr.heap.size ≠ _; omega)).trans k18
            have c21 := E1.hc
            have c22 := E1.hs
            have c13 := E1.hf
            have c12 := E1.hv
            have hb1 := hk1.below (B := w.heap.size) (by omega) (by omega) (by omega)
            clear hl5 E k18 kzz E1 hk1
            go_wp2
            go_ret
            exact ⟨rfl, hbW.trans hb1⟩
          | true =>
            go_wp2_with (go_at_call 4; refine (new4 _ _).mono ?_; rintro e w' ⟨rfl, rfl⟩)
            have E := env5 wr w.heap.size #[.int .i64 cr, .pointer (some ⟨rb, 0, none⟩)] 30 (.cells #[.string ⟨#[122, 122, 32, 114, 101, 97, 100, 32, 102, 97, 105, 108, 101, 100]⟩] 44) v true hB hv0 hf0
            have hb5 := below5 wr (.cells #[.int .i64 cr, .pointer (some ⟨rb, 0, none⟩)] 30) (.cells #[.string ⟨#[122, 122, 32, 114, 101, 97, 100, 32, 102, 97, 105, 108, 101, 100]⟩] 44) (.cells #[.iface 42 (.pointer (some ⟨wr.heap.size + 1, 0, none⟩))] 33) (.cells #[.int .i64 0] 3) (.cells #[.pointer none] 25)
            have k18 : (((((wr.alloc (.cells #[.int .i64 cr, .pointer (some ⟨rb, 0, none⟩)] 30)).alloc (.cells #[.string ⟨#[122, 122, 32, 114, 101, 97, 100, 32, 102, 97, 105, 108, 101, 100]⟩] 44)).alloc (.cells #[.iface 42 (.pointer (some ⟨wr.heap.size + 1, 0, none⟩))] 33)).alloc (.cells #[.int .i64 0] 3)).alloc (.cells #[.pointer none] 25)).cell? ⟨wr.heap.size, 1, none⟩ = some (.pointer (some ⟨rb, 0, none⟩)) := (at0 _ _ _ _ _ _ _ _).trans rfl
            have kzz : (((((wr.alloc (.cells #[.int .i64 cr, .pointer (some ⟨rb, 0, none⟩)] 30)).alloc (.cells #[.string ⟨#[122, 122, 32, 114, 101, 97, 100, 32, 102, 97, 105, 108, 101, 100]⟩] 44)).alloc (.cells #[.iface 42 (.pointer (some ⟨wr.heap.size + 1, 0, none⟩))] 33)).alloc (.cells #[.int .i64 0] 3)).alloc (.cells #[.pointer none] 25)).cell? ⟨wr.heap.size + 1, 0, none⟩ = some (.string ⟨#[122, 122, 32, 114, 101, 97, 100, 32, 102, 97, 105, 108, 101, 100]⟩) := (at1 _ _ _ _ _ _ _ _).trans rfl
            have hsz5 : (((((wr.alloc (.cells #[.int .i64 cr, .pointer (some ⟨rb, 0, none⟩)] 30)).alloc (.cells #[.string ⟨#[122, 122, 32, 114, 101, 97, 100, 32, 102, 97, 105, 108, 101, 100]⟩] 44)).alloc (.cells #[.iface 42 (.pointer (some ⟨wr.heap.size + 1, 0, none⟩))] 33)).alloc (.cells #[.int .i64 0] 3)).alloc (.cells #[.pointer none] 25)).heap.size = wr.heap.size + 1 + 1 + 1 + 1 + 1 := by simp
            generalize (((((wr.alloc (.cells #[.int .i64 cr, .pointer (some ⟨rb, 0, none⟩)] 30)).alloc (.cells #[.string ⟨#[122, 122, 32, 114, 101, 97, 100, 32, 102, 97, 105, 108, 101, 100]⟩] 44)).alloc (.cells #[.iface 42 (.pointer (some ⟨wr.heap.size + 1, 0, none⟩))] 33)).alloc (.cells #[.int .i64 0] 3)).alloc (.cells #[.pointer none] 25)) = W at *
            have hF5 : F.answers W.tape := by rw [hb5.tape, hbw.tape]; exact hF
            have hm5 : W.heap[w.heap.size + 1 + 1]? = some (.map es clock) := (hb5.block _ (by omega)).trans hok.m
            have hl5 : ∀ o o', (Instr.lookup 24 (.map (some (w.heap.size + 1 + 1))) (.int .i64 (zs[S]?.getD 0)) true).run Ybaf.prog ((W.alloc o).alloc o') = .ok (.tuple #[.agg #[.int .i64 cr, .pointer (some ⟨rb, 0, none⟩)], .bool true]) ((W.alloc o).alloc o') := fun o o' => hlook _ (by rw [Below.heap_alloc _ _ _ (by simp; omega), Below.heap_alloc _ _ _ (by omega)]; exact hm5)
            have hbW : Below w.heap.size w W := hbw.trans (hb5.mono hbw.size)
            clear hl0 hlook hm5
            refine (req_fail F (w.heap.size + 1 + 1) (zs[S]?.getD 0) nm _ rb _ _ _ _ _ cr v 0 _ _ W hF5 hl5 E (by omega) (by omega) kzz (by show wr.heap.size + 1 ≠ _; omega) (by show wr.heap.size + 1 ≠ _; omega)).mono ?_
            rintro e w1 ⟨qb, rfl, hq, E1, hk1⟩
            have c18 : w1.cell? ⟨wr.heap.size, 1, none⟩ = some (.pointer (some ⟨rb, 0, none⟩)) := (hk1.cell (p := ⟨wr.heap.size, 1, none⟩) (by show wr.heap.size < _; omega) (by show wr.heap.size ≠ _; omega) (by show wr.heap.size ≠ _; omega)).trans k18
            have c21 := E1.hc
            have c22 := E1.hs
            have c13 := E1.hf
            have c20 := E1.he
            have hb1 := hk1.below (B := w.heap.size) (by omega) (by omega) (by omega)
            clear hl5 E k18 kzz E1 hk1
            go_wp2_with (go_at_call 7; refine (is_wrap_same qb 0 ⟨wr.heap.size + 1, 0, none⟩ _ hq).mono ?_; rintro e w' ⟨rfl, rfl⟩)
            go_ret
            exact ⟨rfl, hbW.trans hb1⟩

theorem law3_long (ia : Option Addr) (len cap : Nat) (sel : Int) (pk : Bool) (raw : Int) (nm : ByteArray) (v : Int) (fl : Bool) (w : World) (hlen : 1024 < len) :
    Calls Ybaf.prog 3 #[.slice ia len cap, .int .u8 sel, .bool pk, .int .i64 raw, .string nm, .int .i64 v, .bool fl] w fun e w' => e = .returned (.bool true) ∧ Below w.heap.size w w' := by
  have hgt : (1024 : Int) < len := by omega
  go_enter Ybaf.func3, Ybaf.ntmps3
  go_wp2
  go_ret
  exact ⟨rfl, b2 w _ _⟩
end Go.Proofs.YbulkbwycFmt
