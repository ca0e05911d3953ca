/-
  Optional (8) and Required (6) at int: the walks.
-/
import Derived.Test.YbulkbwycFmtErr
import Derived.WalkSmall
namespace Go.Proofs.YbulkbwycFmt
open Go.RowKit Go.Extern.Stop Go.Stop Go.Extern
set_option linter.unusedVariables false

/-- Nothing turns but the two blocks cb, sb and what is new. -/
structure Keep (cb sb : Nat) (w w' : World) : Prop where
  os : w'.os = w.os
  tape : w'.tape = w.tape
  output : w'.output = w.output
  size : w.heap.size ≤ w'.heap.size
  block : ∀ k, k < w.heap.size → k ≠ cb → k ≠ sb → w'.heap[k]? = w.heap[k]?
theorem Keep.refl (cb sb : Nat) (w : World) : Keep cb sb w w := ⟨rfl, rfl, rfl, Nat.le_refl _, fun _ _ _ _ => rfl⟩
theorem Keep.trans {cb sb : Nat} {a b c : World} (h : Keep cb sb a b) (k : Keep cb sb b c) : Keep cb sb a c :=
  ⟨k.os.trans h.os, k.tape.trans h.tape, k.output.trans h.output, Nat.le_trans h.size k.size, fun i h1 h2 h3 => (k.block i (Nat.lt_of_lt_of_le h1 h.size) h2 h3).trans (h.block i h1 h2 h3)⟩
theorem Keep.of_below {cb sb : Nat} {w w' : World} (h : Below w.heap.size w w') : Keep cb sb w w' := ⟨h.os, h.tape, h.output, h.size, fun k hk _ _ => h.block k hk⟩
theorem Keep.below {cb sb B : Nat} {w w' : World} (h : Keep cb sb w w') (hB : B ≤ w.heap.size) (h1 : B ≤ cb) (h2 : B ≤ sb) : Below B w w' := ⟨h.os, h.tape, h.output, h.size, fun k hk => h.block k (by omega) (by omega) (by omega)⟩
theorem Keep.cell {cb sb : Nat} {w w' : World} (h : Keep cb sb w w') {p : Addr} (h0 : p.block < w.heap.size) (h1 : p.block ≠ cb) (h2 : p.block ≠ sb) : w'.cell? p = w.cell? p := World.cell?_of_block (h.block p.block h0 h1 h2)

/-- What the closure captured. -/
structure Env (w : World) (cb sb fb eb vb : Nat) (c : Int) (sv : Value) (fl : Bool) (se : Addr) (v : Int) : Prop where
  hc : w.cell? ⟨cb, 0, none⟩ = some (.int .i64 c)
  fc : w.frozen? ⟨cb, 0, none⟩ = false
  hs : w.cell? ⟨sb, 0, none⟩ = some sv
  fs : w.frozen? ⟨sb, 0, none⟩ = false
  hf : w.cell? ⟨fb, 0, none⟩ = some (.bool fl)
  he : w.cell? ⟨eb, 0, none⟩ = some (.iface 42 (.pointer (some se)))
  hv : w.cell? ⟨vb, 0, none⟩ = some (.int .i64 v)
  cs : cb ≠ sb
  cf : cb ≠ fb
  sf : sb ≠ fb
  ce : cb ≠ eb
  sE : sb ≠ eb
  cv : cb ≠ vb
  sV : sb ≠ vb
theorem Env.of {w w' : World} {cb sb fb eb vb : Nat} {c : Int} {sv : Value} {fl : Bool} {se : Addr} {v : Int} (h : Env w cb sb fb eb vb c sv fl se v) (hb : Below w.heap.size w w') : Env w' cb sb fb eb vb c sv fl se v := by
  have q : ∀ {b : Nat} {x : Value}, w.cell? ⟨b, 0, none⟩ = some x → w'.cell? ⟨b, 0, none⟩ = some x := fun {b x} hx => (hb.cell (p := ⟨b, 0, none⟩) (World.block_lt_of_cell? _ _ hx)).trans hx
  exact ⟨q h.hc, (hb.frozen (p := ⟨cb, 0, none⟩) (World.block_lt_of_cell? _ _ h.hc)).trans h.fc, q h.hs, (hb.frozen (p := ⟨sb, 0, none⟩) (World.block_lt_of_cell? _ _ h.hs)).trans h.fs, q h.hf, q h.he, q h.hv, h.cs, h.cf, h.sf, h.ce, h.sE, h.cv, h.sV⟩

theorem env_step {w : World} {cb sb fb eb vb : Nat} {c : Int} {sv : Value} {fl : Bool} {se : Addr} {v : Int} (h : Env w cb sb fb eb vb c sv fl se v) (c' : Int) (sv' : Value) :
    Env ((w.setCell ⟨cb, 0, none⟩ (.int .i64 c')).setCell ⟨sb, 0, none⟩ sv') cb sb fb eb vb c' sv' fl se v ∧ Keep cb sb w ((w.setCell ⟨cb, 0, none⟩ (.int .i64 c')).setCell ⟨sb, 0, none⟩ sv') := by
  have ne : ∀ {a b : Nat}, a ≠ b → (⟨a, 0, none⟩ : Addr) ≠ ⟨b, 0, none⟩ := fun hn e => hn (congrArg Addr.block e)
  have q : ∀ {b : Nat}, cb ≠ b → sb ≠ b → ((w.setCell ⟨cb, 0, none⟩ (.int .i64 c')).setCell ⟨sb, 0, none⟩ sv').cell? ⟨b, 0, none⟩ = w.cell? ⟨b, 0, none⟩ := fun {b} h1 h2 => by
    rw [World.cell?_setCell_other _ _ _ _ (ne h2), World.cell?_setCell_other _ _ _ _ (ne h1)]
  refine ⟨⟨?_, by simp only [World.frozen?_setCell]; exact h.fc, ?_, by simp only [World.frozen?_setCell]; exact h.fs, (q h.cf h.sf).trans h.hf, (q h.ce h.sE).trans h.he, (q h.cv h.sV).trans h.hv, h.cs, h.cf, h.sf, h.ce, h.sE, h.cv, h.sV⟩, ⟨rfl, rfl, rfl, by simp, fun k hk h1 h2 => ?_⟩⟩
  · rw [World.cell?_setCell_other _ _ _ _ (ne (Ne.symm h.cs))]; exact World.cell?_setCell_same _ _ _ h.hc
  · exact World.cell?_setCell_same _ _ _ ((World.cell?_setCell_other _ _ _ _ (ne h.cs)).trans h.hs)
  · rw [Below.heap_setCell _ _ _ _ h2, Below.heap_setCell _ _ _ _ h1]

theorem read_ok (r : Addr) (cb sb fb eb vb : Nat) (c : Int) (sv : Value) (se : Addr) (v : Int) (w : World) (h : Env w cb sb fb eb vb c sv false se v) (h0 : 0 ≤ c) (h1 : c ≤ 10) :
    Calls Ybaf.prog 5 #[.pointer (some r), .pointer (some ⟨cb, 0, none⟩), .pointer (some ⟨sb, 0, none⟩), .pointer (some ⟨fb, 0, none⟩), .pointer (some ⟨eb, 0, none⟩), .pointer (some ⟨vb, 0, none⟩)] w fun e w' =>
      e = .returned (.tuple #[.int .i64 v, .nilIface]) ∧ Env w' cb sb fb eb vb (c + 1) (.pointer (some r)) false se v ∧ Keep cb sb w w' := by
  refine (read5_ok r cb sb fb eb vb v c sv w h.hc h.fc h.hs h.fs h.hf h.hv h.cs h.cf h.sf h.cv h.sV h0 h1).mono ?_
  rintro e w' ⟨rfl, rfl⟩
  exact ⟨rfl, env_step h _ _⟩
theorem read_fail (r : Addr) (cb sb fb eb vb : Nat) (c : Int) (sv : Value) (se : Addr) (v : Int) (w : World) (h : Env w cb sb fb eb vb c sv true se v) (h0 : 0 ≤ c) (h1 : c ≤ 10) :
    Calls Ybaf.prog 5 #[.pointer (some r), .pointer (some ⟨cb, 0, none⟩), .pointer (some ⟨sb, 0, none⟩), .pointer (some ⟨fb, 0, none⟩), .pointer (some ⟨eb, 0, none⟩), .pointer (some ⟨vb, 0, none⟩)] w fun e w' =>
      e = .returned (.tuple #[.int .i64 0, .iface 42 (.pointer (some se))]) ∧ Env w' cb sb fb eb vb (c + 1) (.pointer (some r)) true se v ∧ Keep cb sb w w' := by
  refine (read5_fail r cb sb fb eb vb c sv se w h.hc h.fc h.hs h.fs h.hf h.he h.cs h.cf h.sf h.ce h.sE h0 h1).mono ?_
  rintro e w' ⟨rfl, m, rfl⟩
  obtain ⟨k1, k2⟩ := env_step h (c + 1) (.pointer (some r))
  exact ⟨rfl, k1.of (below_drewN (Below.refl _ _) m), k2.trans (Keep.of_below (below_drewN (Below.refl _ _) m))⟩

theorem opt_absent (mb : Nat) (x : Int) (nm : ByteArray) (fv : Value) (w : World) (hl : ∀ o, (Instr.lookup 24 (.map (some mb)) (.int .i64 x) true).run Ybaf.prog (w.alloc o) = .ok (.tuple #[.agg #[.int .i64 0, .pointer none], .bool false]) (w.alloc o)) :
    Calls Ybaf.prog 8 #[.map (some mb), .agg #[.int .i64 x, .string nm], fv] w fun e w' => e = .returned (.tuple #[.pointer none, .nilIface]) ∧ Below w.heap.size w w' := by
  go_enter Ybaf.func8, Ybaf.ntmps8
  go_wp2
  go_ret2
  exact ⟨rfl, ((Below.refl _ _).alloc (Nat.le_refl _) _).alloc (by simp) _⟩

theorem cell3n (w : World) (A B : Obj) (C : Array Value) (t : TypeId) (j : Nat) : (((w.alloc A).alloc B).alloc (.cells C t)).cell? ⟨w.heap.size + 1 + 1, j, none⟩ = C[j]? := by
  have := World.cell?_alloc_new ((w.alloc A).alloc B) C t j
  simpa only [World.size_alloc] using this
theorem b2 (w : World) (A C : Obj) : Below w.heap.size w ((w.alloc A).alloc C) := ((Below.refl _ _).alloc (Nat.le_refl _) _).alloc (by simp) _

set_option maxRecDepth 100000 in
theorem opt_ok (mb : Nat) (x : Int) (nm : ByteArray) (rb cb sb fb eb vb : Nat) (cr v c : Int) (sv : Value) (se : Addr) (w : World) (hl : ∀ o, (Instr.lookup 24 (.map (some mb)) (.int .i64 x) true).run Ybaf.prog (w.alloc o) = .ok (.tuple #[.agg #[.int .i64 cr, .pointer (some ⟨rb, 0, none⟩)], .bool true]) (w.alloc o))
    (h : Env w cb sb fb eb vb c sv false se v) (h0 : 0 ≤ c) (h1 : c ≤ 10)
    (r0 : w.cell? ⟨rb, 0, none⟩ = some (.slice none 0 0)) (r2 : w.cell? ⟨rb, 2, none⟩ = some (.int .i64 0)) (hrc : rb ≠ cb) (hrs : rb ≠ sb) :
    Calls Ybaf.prog 8 #[.map (some mb), .agg #[.int .i64 x, .string nm], .func (Fn.func 5) #[] #[.pointer (some ⟨cb, 0, none⟩), .pointer (some ⟨sb, 0, none⟩), .pointer (some ⟨fb, 0, none⟩), .pointer (some ⟨eb, 0, none⟩), .pointer (some ⟨vb, 0, none⟩)]] w fun e w' =>
      ∃ pb, e = .returned (.tuple #[.pointer (some ⟨pb, 0, none⟩), .nilIface]) ∧ w'.cell? ⟨pb, 0, none⟩ = some (.int .i64 v) ∧ Env w' cb sb fb eb vb (c + 1) (.pointer (some ⟨rb, 0, none⟩)) false se v ∧ Keep cb sb w w' := by
  have lc := World.block_lt_of_cell? _ _ h.hc
  have ls := World.block_lt_of_cell? _ _ h.hs
  have lr := World.block_lt_of_cell? _ _ r0
  simp only at lc ls lr
  go_enter Ybaf.func8, Ybaf.ntmps8
  go_wp2_with fail
  have hb := b2 w (.cells #[.int .i64 x, .string nm] 39) (.cells #[.int .i64 cr, .pointer (some ⟨rb, 0, none⟩)] 30)
  have k8 : ((w.alloc (.cells #[.int .i64 x, .string nm] 39)).alloc (.cells #[.int .i64 cr, .pointer (some ⟨rb, 0, none⟩)] 30)).cell? ⟨w.heap.size + 1, 1, none⟩ = some (.pointer (some ⟨rb, 0, none⟩)) := by simp
  refine (read_ok ⟨rb, 0, none⟩ cb sb fb eb vb c sv se v _ (h.of hb) h0 h1).mono ?_
  rintro e w1 ⟨rfl, henv, hk⟩
  have k8' : w1.cell? ⟨w.heap.size + 1, 1, none⟩ = some (.pointer (some ⟨rb, 0, none⟩)) := (hk.cell (p := ⟨w.heap.size + 1, 1, none⟩) (by simp) (by show w.heap.size + 1 ≠ cb; omega) (by show w.heap.size + 1 ≠ sb; omega)).trans k8
  have r0' : w1.cell? ⟨rb, 0, none⟩ = some (.slice none 0 0) := (hk.cell (p := ⟨rb, 0, none⟩) (by simp; omega) hrc hrs).trans ((hb.cell (p := ⟨rb, 0, none⟩) lr).trans r0)
  have r2' : w1.cell? ⟨rb, 2, none⟩ = some (.int .i64 0) := (hk.cell (p := ⟨rb, 2, none⟩) (by simp; omega) hrc hrs).trans ((hb.cell (p := ⟨rb, 2, none⟩) lr).trans r2)
  have hs1 := hk.size
  simp only [World.size_alloc] at hs1
  have hlt8 : w.heap.size + 1 < w1.heap.size := by omega
  have hltr : rb < w1.heap.size := by omega
  have hk' := (Keep.of_below (cb := cb) (sb := sb) hb).trans hk
  clear hk hb k8 hl h r0 r2
  go_wp2_with (go_at_call 12; refine (end12 rb _ (by rw [World.cell?_alloc_lt _ _ _ (by exact hltr)]; exact r0') (by rw [World.cell?_alloc_lt _ _ _ (by exact hltr)]; exact r2')).mono ?_; rintro e w' ⟨rfl, rfl⟩)
  go_ret2
  exact ⟨_, rfl, by simp, henv.of ((Below.refl _ _).alloc (Nat.le_refl _) _), hk'.trans (Keep.of_below ((Below.refl _ _).alloc (Nat.le_refl _) _))⟩

set_option maxRecDepth 100000 in
theorem opt_fail (F : Interp) (mb : Nat) (x : Int) (nm z : ByteArray) (rb cb sb fb eb vb : Nat) (cr v c : Int) (sv : Value) (se : Addr) (w : World) (hF : F.answers w.tape) (hl : ∀ o, (Instr.lookup 24 (.map (some mb)) (.int .i64 x) true).run Ybaf.prog (w.alloc o) = .ok (.tuple #[.agg #[.int .i64 cr, .pointer (some ⟨rb, 0, none⟩)], .bool true]) (w.alloc o))
    (h : Env w cb sb fb eb vb c sv true se v) (h0 : 0 ≤ c) (h1 : c ≤ 10) (hz : w.cell? se = some (.string z)) (hzc : se.block ≠ cb) (hzs : se.block ≠ sb) :
    Calls Ybaf.prog 8 #[.map (some mb), .agg #[.int .i64 x, .string nm], .func (Fn.func 5) #[] #[.pointer (some ⟨cb, 0, none⟩), .pointer (some ⟨sb, 0, none⟩), .pointer (some ⟨fb, 0, none⟩), .pointer (some ⟨eb, 0, none⟩), .pointer (some ⟨vb, 0, none⟩)]] w fun e w' =>
      ∃ qb, e = .returned (.tuple #[.pointer none, .iface 56 (.pointer (some ⟨qb, 0, none⟩))]) ∧ w'.cell? ⟨qb, 1, none⟩ = some (.iface 42 (.pointer (some se))) ∧ Env w' cb sb fb eb vb (c + 1) (.pointer (some ⟨rb, 0, none⟩)) true se v ∧ Keep cb sb w w' := by
  have lc := World.block_lt_of_cell? _ _ h.hc
  have ls := World.block_lt_of_cell? _ _ h.hs
  have lz := World.block_lt_of_cell? _ _ hz
  simp only at lc ls lz
  go_enter Ybaf.func8, Ybaf.ntmps8
  go_wp2_with fail
  have hb := b2 w (.cells #[.int .i64 x, .string nm] 39) (.cells #[.int .i64 cr, .pointer (some ⟨rb, 0, none⟩)] 30)
  have k4 : ((w.alloc (.cells #[.int .i64 x, .string nm] 39)).alloc (.cells #[.int .i64 cr, .pointer (some ⟨rb, 0, none⟩)] 30)).cell? ⟨w.heap.size, 1, none⟩ = some (.string nm) := by simp
  refine (read_fail ⟨rb, 0, none⟩ cb sb fb eb vb c sv se v _ (h.of hb) h0 h1).mono ?_
  rintro e w1 ⟨rfl, henv, hk⟩
  have k4' : w1.cell? ⟨w.heap.size, 1, none⟩ = some (.string nm) := (hk.cell (p := ⟨w.heap.size, 1, none⟩) (by simp; omega) (by show w.heap.size ≠ cb; omega) (by show w.heap.size ≠ sb; omega)).trans k4
  have hz' : w1.cell? se = some (.string z) := (hk.cell (p := se) (by simp; omega) hzc hzs).trans ((hb.cell (p := se) lz).trans hz)
  have hs1 := hk.size
  simp only [World.size_alloc] at hs1
  have hlt4 : w.heap.size < w1.heap.size := by omega
  have hltz : se.block < w1.heap.size := by omega
  have hk' := (Keep.of_below (cb := cb) (sb := sb) hb).trans hk
  have hF1 : F.answers w1.tape := by rw [hk'.tape]; exact hF
  clear hk hb k4 hl h hz
  go_wp2_with (go_at_call 9; refine (errorf_wrap F nm z (w1.heap.size + 1) se _ (by exact hF1) (by simp) (by simp) (by rw [World.cell?_alloc_lt _ _ _ (by simp; omega), World.cell?_alloc_lt _ _ _ hltz]; exact hz')).mono ?_; rintro e w' ⟨t, rfl, rfl⟩)
  go_ret2
  have hb3 : Below w1.heap.size w1 (((w1.alloc (.cells #[.int .i64 0] 3)).alloc (.cells #[.iface 9 (.string nm), .iface 42 (.pointer (some se))] 20)).alloc (.cells #[.string t, .iface 42 (.pointer (some se))] 91)).drew := ((b2 w1 _ _).alloc (by simp; omega) _).drew
  exact ⟨_, rfl, (World.cell?_drew _ _).trans ((cell3n _ _ _ _ _ _).trans rfl), henv.of hb3, hk'.trans (Keep.of_below hb3)⟩

theorem req_absent (F : Interp) (mb : Nat) (x : Int) (nm : ByteArray) (fv : Value) (w : World) (hF : F.answers w.tape) (hl : ∀ o o', (Instr.lookup 24 (.map (some mb)) (.int .i64 x) true).run Ybaf.prog ((w.alloc o).alloc o') = .ok (.tuple #[.agg #[.int .i64 0, .pointer none], .bool false]) ((w.alloc o).alloc o')) :
    Calls Ybaf.prog 6 #[.map (some mb), .agg #[.int .i64 x, .string nm], fv] w fun e w' => ∃ qb, e = .returned (.tuple #[.int .i64 0, .iface 42 (.pointer (some ⟨qb, 0, none⟩))]) ∧ Below w.heap.size w w' := by
  have qp : ∀ w, (binOp .eql 45 (.pointer none) (.pointer none)).run Ybaf.prog w = .ok (.bool true) w := fun w => by
    have h : ∀ d : Nat, (Op.equalIn (d + 1) 45 (.pointer none) (.pointer none)).run Ybaf.prog w = .ok true w := fun d => by
      simp [Op.equalIn, run_underlying Ybaf.underlying45]
    simp only [binOp]
    simp [Op.equal, Op.maxDepth, h 9999]
  go_enter Ybaf.func6, Ybaf.ntmps6
  go_wp2_with fail
  refine (opt_absent mb x nm fv _ (fun o => hl _ o)).mono ?_
  rintro e w1 ⟨rfl, hb⟩
  have k : w1.cell? ⟨w.heap.size, 1, none⟩ = some (.string nm) := (hb.cell (p := ⟨w.heap.size, 1, none⟩) (by simp)).trans (by simp)
  have hs := hb.size
  simp only [World.size_alloc] at hs
  have hlt : w.heap.size < w1.heap.size := by omega
  have hb' : Below w.heap.size w w1 := ((Below.refl _ _).alloc (Nat.le_refl _) _).trans (hb.mono (by simp))
  have hF1 : F.answers w1.tape := by rw [hb'.tape]; exact hF
  clear hb hl
  go_wp2_with (go_at_call 9; refine (errorf_missing F nm w1.heap.size _ (by exact hF1) (by simp)).mono ?_; rintro e w' ⟨t, rfl, rfl⟩)
  go_ret2
  exact ⟨_, rfl, hb'.trans ((b2 w1 _ _).drew.mono hb'.size)⟩

theorem req_ok (mb : Nat) (x : Int) (nm : ByteArray) (rb cb sb fb eb vb : Nat) (cr v c : Int) (sv : Value) (se : Addr) (w : World) (hl : ∀ o o', (Instr.lookup 24 (.map (some mb)) (.int .i64 x) true).run Ybaf.prog ((w.alloc o).alloc o') = .ok (.tuple #[.agg #[.int .i64 cr, .pointer (some ⟨rb, 0, none⟩)], .bool true]) ((w.alloc o).alloc o'))
    (h : Env w cb sb fb eb vb c sv false se v) (h0 : 0 ≤ c) (h1 : c ≤ 10)
    (r0 : w.cell? ⟨rb, 0, none⟩ = some (.slice none 0 0)) (r2 : w.cell? ⟨rb, 2, none⟩ = some (.int .i64 0)) (hrc : rb ≠ cb) (hrs : rb ≠ sb) :
    Calls Ybaf.prog 6 #[.map (some mb), .agg #[.int .i64 x, .string nm], .func (Fn.func 5) #[] #[.pointer (some ⟨cb, 0, none⟩), .pointer (some ⟨sb, 0, none⟩), .pointer (some ⟨fb, 0, none⟩), .pointer (some ⟨eb, 0, none⟩), .pointer (some ⟨vb, 0, none⟩)]] w fun e w' =>
      e = .returned (.tuple #[.int .i64 v, .nilIface]) ∧ Env w' cb sb fb eb vb (c + 1) (.pointer (some ⟨rb, 0, none⟩)) false se v ∧ Keep cb sb w w' := by
  have qp : ∀ w a, (binOp .eql 45 (.pointer (some a)) (.pointer none)).run Ybaf.prog w = .ok (.bool false) w := fun w a => by
    have h : ∀ d : Nat, (Op.equalIn (d + 1) 45 (.pointer (some a)) (.pointer none)).run Ybaf.prog w = .ok false w := fun d => by
      simp [Op.equalIn, run_underlying Ybaf.underlying45]
    simp only [binOp]
    simp [Op.equal, Op.maxDepth, h 9999]
  have lr := World.block_lt_of_cell? _ _ r0
  simp only at lr
  go_enter Ybaf.func6, Ybaf.ntmps6
  go_wp2_with fail
  refine (opt_ok mb x nm rb cb sb fb eb vb cr v c sv se _ (fun o => hl _ o) (h.of ((Below.refl _ _).alloc (Nat.le_refl _) _)) h0 h1 (by rw [World.cell?_alloc_lt _ _ _ (by exact lr)]; exact r0) (by rw [World.cell?_alloc_lt _ _ _ (by exact lr)]; exact r2) hrc hrs).mono ?_
  rintro e w1 ⟨pb, rfl, hp, henv, hk⟩
  have hk' := (Keep.of_below (cb := cb) (sb := sb) ((Below.refl w.heap.size w).alloc (Nat.le_refl _) (.cells #[.int .i64 x, .string nm] 39))).trans hk
  clear hl h r0 r2 hk
  go_wp2
  go_ret2
  exact ⟨rfl, henv, hk'⟩

theorem req_fail (F : Interp) (mb : Nat) (x : Int) (nm z : ByteArray) (rb cb sb fb eb vb : Nat) (cr v c : Int) (sv : Value) (se : Addr) (w : World) (hF : F.answers w.tape) (hl : ∀ o o', (Instr.lookup 24 (.map (some mb)) (.int .i64 x) true).run Ybaf.prog ((w.alloc o).alloc o') = .ok (.tuple #[.agg #[.int .i64 cr, .pointer (some ⟨rb, 0, none⟩)], .bool true]) ((w.alloc o).alloc o'))
    (h : Env w cb sb fb eb vb c sv true se v) (h0 : 0 ≤ c) (h1 : c ≤ 10) (hz : w.cell? se = some (.string z)) (hzc : se.block ≠ cb) (hzs : se.block ≠ sb) :
    Calls Ybaf.prog 6 #[.map (some mb), .agg #[.int .i64 x, .string nm], .func (Fn.func 5) #[] #[.pointer (some ⟨cb, 0, none⟩), .pointer (some ⟨sb, 0, none⟩), .pointer (some ⟨fb, 0, none⟩), .pointer (some ⟨eb, 0, none⟩), .pointer (some ⟨vb, 0, none⟩)]] w fun e w' =>
      ∃ qb, e = .returned (.tuple #[.int .i64 0, .iface 56 (.pointer (some ⟨qb, 0, none⟩))]) ∧ w'.cell? ⟨qb, 1, none⟩ = some (.iface 42 (.pointer (some se))) ∧ Env w' cb sb fb eb vb (c + 1) (.pointer (some ⟨rb, 0, none⟩)) true se v ∧ Keep cb sb w w' := by
  have lz := World.block_lt_of_cell? _ _ hz
  go_enter Ybaf.func6, Ybaf.ntmps6
  go_wp2_with fail
  refine (opt_fail F mb x nm z rb cb sb fb eb vb cr v c sv se _ (by exact hF) (fun o => hl _ o) (h.of ((Below.refl _ _).alloc (Nat.le_refl _) _)) h0 h1 (by rw [World.cell?_alloc_lt _ _ _ (by exact lz)]; exact hz) hzc hzs).mono ?_
  rintro e w1 ⟨qb, rfl, hq, henv, hk⟩
  have hk' := (Keep.of_below (cb := cb) (sb := sb) ((Below.refl w.heap.size w).alloc (Nat.le_refl _) (.cells #[.int .i64 x, .string nm] 39))).trans hk
  clear hl h hz hk
  go_wp2
  go_ret2
  exact ⟨qb, rfl, hq, henv, hk'⟩
end Go.Proofs.YbulkbwycFmt
