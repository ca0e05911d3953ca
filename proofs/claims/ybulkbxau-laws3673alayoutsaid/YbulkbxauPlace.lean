/-
  THE WALK of '(*Tree).place': it answers nothing, and behind it every slot of every node lies in its kind's array, at the node's index.
-/
import Derived.Test.YbulkbxauTree
import Derived.Deep.RegionLaw
namespace Go.Proofs.Ybulkbxau.lawS3673ALayout
open Go.ChangeShapes Go.WideShapes Go.ChangeAt Go.RowKit
set_option linter.unusedVariables false
theorem index49 (T S o j : Nat) (hj : j < 5) (w : World) : (Instr.index 49 (.agg (kcells T S o)) (.int .i64 j)).run Yba.prog w = .ok (.agg #[.pointer (some ⟨S, o + 11 + j, none⟩), .pointer (some ⟨T, 12 + j, none⟩)]) w := by
  rcases (show j = 0 ∨ j = 1 ∨ j = 2 ∨ j = 3 ∨ j = 4 by omega) with rfl | rfl | rfl | rfl | rfl <;> rfl
theorem Keep.drew (w : World) {F : Nat → Nat → Prop} : Keep w w.drew F := Keep.of_below (Below.refl _ _).drew
theorem reg4_keep (W : World) (T j : Nat) (v : Value) (ob : Obj) : Keep W ((W.setCell ⟨T, 12 + j, none⟩ v).alloc ob).drew (fun b o => b = T ∧ o = 12 + j) :=
  (Keep.setCell _ _ _ _ ⟨rfl, rfl⟩).trans ((Keep.alloc _ _).trans (Keep.drew _))
theorem reg4_S {W : World} {T j X : Nat} {v a b : Value} {ob : Obj} (hne : X ≠ T) (c1 : W.cell? ⟨X, 1, none⟩ = some a) (h9 : W.cell? ⟨T, 9, none⟩ = some b) :
    ((W.setCell ⟨T, 12 + j, none⟩ v).alloc ob).drew.cell? ⟨X, 1, none⟩ = some a ∧ ((W.setCell ⟨T, 12 + j, none⟩ v).alloc ob).drew.cell? ⟨T, 9, none⟩ = some b :=
  ⟨((reg4_keep W T j v ob).cell X 1 (World.block_lt_of_cell? _ _ c1) (by omega)).trans c1, ((reg4_keep W T j v ob).cell T 9 (World.block_lt_of_cell? _ _ h9) (by omega)).trans h9⟩
theorem reg4_step {E : Env} {W : World} {j : Nat} {A : Nat → Nat} (ok : E.ok) (h : Pl E W E.m j A (fun _ _ => False)) (hj : j < 5) :
    Pl E ((W.setCell ⟨E.T, 12 + j, none⟩ (.slice (some ⟨W.heap.size, 0, none⟩) (bs E.m E.k) (bs E.m E.k))).alloc (.cells (madeCells #[Value.int .i64 0] (bs E.m E.k)) 2)).drew E.m (j + 1) (fun x => if x = j then W.heap.size else A x) (fun _ _ => False) := by
  have hth := h.thT (12 + j) (by omega)
  rw [Nat.zero_add] at hth
  have hT := h.T
  have hb := h.bel.size
  refine h.mkArr ok hj (reg4_keep _ _ _ _ _) ?_ (Nat.le_refl _) (by show _ < ((W.setCell _ _).alloc _).heap.size; simp) ?_ ?_
  · exact ((h.bel.setCell ok.bT _).alloc (by simp; exact hb) _).drew
  · intro i hi
    have hs : i < (madeCells #[Value.int .i64 0] (bs E.m E.k)).size := by rw [size_madeCells]; exact hi
    have e : W.heap.size = (W.setCell ⟨E.T, 12 + j, none⟩ (.slice (some ⟨W.heap.size, 0, none⟩) (bs E.m E.k) (bs E.m E.k))).heap.size := by simp
    have c := World.cell?_alloc_new (W.setCell ⟨E.T, 12 + j, none⟩ (.slice (some ⟨W.heap.size, 0, none⟩) (bs E.m E.k) (bs E.m E.k))) (madeCells #[Value.int .i64 0] (bs E.m E.k)) 2 i
    have f := World.frozen?_alloc_new (W.setCell ⟨E.T, 12 + j, none⟩ (.slice (some ⟨W.heap.size, 0, none⟩) (bs E.m E.k) (bs E.m E.k))) (madeCells #[Value.int .i64 0] (bs E.m E.k)) 2 i
    rw [← e] at c f
    rw [Nat.zero_add]
    refine ⟨?_, f⟩
    show (World.cell? _ _).isSome = true
    erw [c]
    rw [Array.getElem?_eq_getElem hs]; rfl
  · show ((W.setCell _ _).alloc _).cell? _ = _
    rw [World.cell?_alloc_lt _ _ _ (by simp; exact hT)]
    exact World.cell?_setCell_same' _ _ _ hth.1
def rowv (k : Nat) (f : Nat → Int) : List Value := (List.range k).map (fun r => Value.int .i64 (f r))
theorem rowv_len (k : Nat) (f : Nat → Int) : (rowv k f).length = k := by simp [rowv]
theorem rowv_at (k : Nat) (f : Nat → Int) (r : Nat) (v : Value) (h : (rowv k f)[r]? = some v) : r < k ∧ v = .int .i64 (f r) := by
  simp only [rowv, List.getElem?_map] at h
  by_cases hr : r < k
  · rw [List.getElem?_range hr] at h
    simp at h
    exact ⟨hr, h.symm⟩
  · rw [List.getElem?_eq_none (by simp; omega)] at h
    simp at h
theorem step_app {ops : Array Oper} {o : Oper} {a : Act} {w : World} {K : Act → World → Prop} {Q : Exit → Act → World → Prop} {E : Prop}
    (hg : o.guard = none) (s x : Operand) (hop : o.op = Op.call { callee := Callee.builtin Builtin.append, args := #[s, x], argTypes := #[22, 22] })
    (b off cap : Nat) (hs : a.eval s = .slice (some ⟨b, off, none⟩) 0 cap) (q k c : Nat) (hx : a.eval x = .slice (some ⟨q, 0, none⟩) k c) (f : Nat → Int)
    (hv : ∀ r, r < k → w.cell? ⟨q, 0 + r, none⟩ = some (.int .i64 (f r))) (hcap : k ≤ cap) (hth : w.there b off k)
    (hK : ∀ w1, Keep w w1 (fun x o => x = b ∧ off ≤ o ∧ o < off + k) → (∀ r, r < k → w1.cell? ⟨b, off + r, none⟩ = some (.int .i64 (f r))) → (∀ B a, B ≤ b → Below B a w → Below B a w1) → K (a.put o.dst (.slice (some ⟨b, off, none⟩) k cap)) w1) : if Region.wanted o (yielded ops a.tmps) = true then Oper.wp Yba.prog o a w K Q else E := by
  obtain ⟨i0, hi, hz0, hz1, hz2⟩ := info_parts info2
  refine step_append_room hg s x 22 hop 2 i0 1 Yba.underlying22 hi hz1 b off 0 cap hs ⟨q, 0, none⟩ k c (rowv k f) hx (by rw [rowv_len, Nat.mul_one]) (fun j u hu => ?_) (fun u hu => ?_) (by omega) (fun j hj => ?_) ?_
  · obtain ⟨hj, rfl⟩ := rowv_at _ _ _ _ hu
    rw [Addr.add_mid]
    exact hv j hj
  · simp only [rowv, List.mem_map] at hu
    obtain ⟨r, _, rfl⟩ := hu
    rfl
  · rw [rowv_len] at hj
    simpa using hth j hj
  · have := hK (w.setCells b off (rowv k f)) (Keep.setCells _ _ _ _ (fun j hj => ⟨rfl, by omega, by rw [rowv_len] at hj; omega⟩)) (fun r hr => ?_) (fun B a hB h => below_setCells b hB _ _ _ h)
    · simpa using this
    · have := World.rangeAt_setCells_same w b off (rowv k f) (by rw [rowv_len]; exact hth) r (.int .i64 (f r)) (by simp [rowv, hr])
      exact this
theorem reg12_step {E : Env} {W w1 : World} {A : Nat → Nat} {dn : Nat → Nat → Prop} {i j : Nat} (ok : E.ok) (h : Pl E W E.m 5 A dn) (hi : i < E.m) (hj : j < 5)
    (k1 : Keep W w1 (fun x o => x = A j ∧ bs (E.ix i) E.k ≤ o ∧ o < bs (E.ix i) E.k + E.k)) (v1 : ∀ r, r < E.k → w1.cell? ⟨A j, bs (E.ix i) E.k + r, none⟩ = some (.int .i64 (E.V i j r))) (b1 : Below E.w0.heap.size E.w0 w1) :
    Pl E (w1.setCell ⟨E.S, i * 34 + 11 + j, none⟩ (.slice (some ⟨A j, bs (E.ix i) E.k, none⟩) E.k E.k)) E.m 5 A (fun x y => dn x y ∨ (x = i ∧ y = j)) := by
  have hS := h.S
  have far := (h.arr j hj).2.2.1
  have f2 := far.nS
  have hsz := k1.size
  have t := thS_at h hi (o := 11 + j) (by omega)
  rw [← Nat.add_assoc] at t
  refine h.move ok hi hj ((k1.mono fun _ _ x => .inr x).trans (Keep.setCell _ _ _ _ (.inl ⟨rfl, rfl⟩))) (b1.setCell ok.bS _) ⟨World.cell?_setCell_same' _ _ _ (k1.some _ _ hS t.1), fun r hr => ?_⟩
  rw [World.cell?_setCell_far _ _ _ _ (by simpa using f2.symm)]
  exact v1 r hr
set_option maxRecDepth 100000 in
set_option maxHeartbeats 8000000 in
theorem place5 (E : Env) (ok : E.ok) (w : World) (A0 : Nat → Nat) (h : Pl E w E.m 0 A0 (fun _ _ => False)) :
    Calls Yba.prog 5 #[.pointer (some ⟨E.T, 0, none⟩)] w fun e w' => e = .returned (.tuple #[]) ∧ ∃ A dn, Pl E w' E.m 5 A dn ∧ ∀ i j, i < E.m → j < 5 → dn i j := by
  have h1 := h.res
  have h9 := h.ord
  have ho := h.ords 0 ok.m0
  have hm40 := ok.m40
  have hbs := bs_cast E.m E.k
  have hbl : bs E.m E.k ≤ 160 := bs_le ok.m40 ok.k4
  have hwr : IntKind.i64.wrap ((bs E.m E.k : Nat) : Int) = (bs E.m E.k : Nat) := by rw [IntKind.wrap_i64]; omega
  go_enter Yba.func5, Yba.ntmps5
  go_wp2_with (first | (go_at_call 8; refine (root8 _ E.T E.O E.m ⟨E.S, 0 * 34, none⟩ ok.m0 h9 ho).mono ?_; rintro e _ ⟨rfl, rfl⟩) | (go_at_call 7; refine (kinds7 _ E.T E.S _).mono ?_; rintro e w' ⟨rfl, nd, C, rfl⟩))
  rename_i w
  clear h1 h9 ho
  have hs := h.keep ((Keep.alloc w (.cells C 49)).trans (Keep.drewN _ nd)) (below_drewN (h.bel.alloc h.bel.size _) nd)
  generalize (w.alloc (Obj.cells C 49)).drewN nd = w1 at hs ⊢
  clear h
  go_loopw [18] (fun v wr => ∃ (n : Nat) (A : Nat → Nat), n ≤ 5 ∧ v = .int .i64 n ∧ Pl E wr E.m n A (fun _ _ => False)) (fun v _ => 5 - (intOf v).toNat)
  case atStart => exact ⟨0, A0, by omega, rfl, hs⟩
  case round =>
    clear hs w1
    obtain ⟨j, A, hj, rfl, hp⟩ := hrel
    by_cases hlt : j < 5
    · have hix := index49 E.T E.S 0 j hlt
      have hmk := make22 (bs E.m E.k) (by omega)
      go_upto_region 4 with fail
      have hp1 := hp.keep (Keep.alloc wr (.cells #[.pointer (some ⟨E.S, 11 + j, none⟩), .pointer (some ⟨E.T, 12 + j, none⟩)] 48)) (hp.bel.alloc hp.bel.size _)
      have c1 : (wr.alloc (.cells #[.pointer (some ⟨E.S, 11 + j, none⟩), .pointer (some ⟨E.T, 12 + j, none⟩)] 48)).cell? ⟨wr.heap.size, 1, none⟩ = some (.pointer (some ⟨E.T, 12 + j, none⟩)) := by simp
      have hX : E.T < wr.heap.size := hp.T
      obtain ⟨X, hXe⟩ : ∃ X, X = wr.heap.size := ⟨_, rfl⟩
      rw [← hXe] at c1 hX ⊢
      clear hXe hp hix
      generalize wr.alloc (.cells #[.pointer (some ⟨E.S, 11 + j, none⟩), .pointer (some ⟨E.T, 12 + j, none⟩)] 48) = W at *
      have hXT : X ≠ E.T := by omega
      have h9 := hp1.ord
      have hth := hp1.thT (12 + j) (by omega)
      rw [Nat.zero_add] at hth
      obtain ⟨v0, hv0⟩ := Option.isSome_iff_exists.1 hth.1
      have hf0 := hth.2
      have hTW := hp1.T
      have hXW := World.block_lt_of_cell? _ _ c1
      clear hth
      go_region_held3 (fun w' => w'.cell? ⟨X, 1, none⟩ = some (.pointer (some ⟨E.T, 12 + j, none⟩)) ∧ w'.cell? ⟨E.T, 9, none⟩ = some (.slice (some ⟨E.O, 0, none⟩) E.m E.m)) (first | (go_keep; done) | (exact reg4_S hXT c1 h9)) (fail)
      go_wp2
      go_roundw
      case rel => exact ⟨j + 1, _, by omega, by go_num, reg4_step ok hp1 hlt⟩
      case measure => simp [intOf]; omega
    · obtain rfl : j = 5 := by omega
      have h9 := hp.ord
      go_wp2
      go_loopw [38] (fun v wr => ∃ (n : Nat) (dn : Nat → Nat → Prop), n ≤ E.m ∧ v = .int .i64 n ∧ Pl E wr E.m 5 A dn ∧ (∀ x y, x < n → y < 5 → dn x y) ∧ (∀ x y, dn x y → x < n)) (fun v _ => E.m - (intOf v).toNat)
      case atStart => exact ⟨0, _, by omega, rfl, hp, fun _ _ h => absurd h (by omega), fun _ _ h => h.elim⟩
      case round =>
        clear hp h9
        obtain ⟨i, dn, hi, rfl, hp, hdn, hup⟩ := hrel
        by_cases hlti : i < E.m
        · have hoi := hp.ords i hlti
          go_wp2_with (go_at_call 7; refine (kinds7 _ E.T E.S _).mono ?_; rintro e w' ⟨rfl, nd, C, rfl⟩)
          have hs := hp.keep ((Keep.alloc wr (.cells C 49)).trans (Keep.drewN _ nd)) (below_drewN (hp.bel.alloc hp.bel.size _) nd)
          generalize (wr.alloc (Obj.cells C 49)).drewN nd = w1 at hs ⊢
          clear hp hoi
          go_loopw [45] (fun v wr => ∃ (n : Nat) (dn : Nat → Nat → Prop), n ≤ 5 ∧ v = .int .i64 n ∧ Pl E wr E.m 5 A dn ∧ (∀ x y, x < i → y < 5 → dn x y) ∧ (∀ y, y < n → dn i y) ∧ (∀ x y, dn x y → x < i ∨ (x = i ∧ y < n))) (fun v _ => 5 - (intOf v).toNat)
          case atStart => exact ⟨0, _, by omega, rfl, hs, hdn, fun _ h => absurd h (by omega), fun x y h => .inl (hup x y h)⟩
          case round =>
            clear hs hdn hup dn w1
            obtain ⟨j, dn, hj, rfl, hp, hdn, hdi, hup⟩ := hrel
            by_cases hltj : j < 5
            · have hix := index49 E.T E.S (i * 34) j hltj
              go_upto_region 12 with fail
              have hp1 := hp.keep (Keep.alloc wr (.cells #[.pointer (some ⟨E.S, i * 34 + 11 + j, none⟩), .pointer (some ⟨E.T, 12 + j, none⟩)] 48)) (hp.bel.alloc hp.bel.size _)
              have c0 : (wr.alloc (.cells #[.pointer (some ⟨E.S, i * 34 + 11 + j, none⟩), .pointer (some ⟨E.T, 12 + j, none⟩)] 48)).cell? ⟨wr.heap.size, 0, none⟩ = some (.pointer (some ⟨E.S, i * 34 + 11 + j, none⟩)) := by simp
              have c1 : (wr.alloc (.cells #[.pointer (some ⟨E.S, i * 34 + 11 + j, none⟩), .pointer (some ⟨E.T, 12 + j, none⟩)] 48)).cell? ⟨wr.heap.size, 1, none⟩ = some (.pointer (some ⟨E.T, 12 + j, none⟩)) := by simp
              have hXT : E.T < wr.heap.size := hp.T
              have hXS : E.S < wr.heap.size := hp.S
              have hXA : A j < wr.heap.size := (hp.arr j hltj).2.2.2
              obtain ⟨X, hXe⟩ : ∃ X, X = wr.heap.size := ⟨_, rfl⟩
              rw [← hXe] at c0 c1 hXT hXS hXA ⊢
              clear hXe hp hix
              generalize wr.alloc (.cells #[.pointer (some ⟨E.S, i * 34 + 11 + j, none⟩), .pointer (some ⟨E.T, 12 + j, none⟩)] 48) = W at *
              obtain ⟨q, hfar, hq, hqA, hslot⟩ := hp1.rest i j hlti hltj (fun hd => by have := hup i j hd; omega)
              obtain ⟨hA, hthA, hfA, hAl⟩ := hp1.arr j hltj
              have hq0 := hslot.head
              have hST : E.S ≠ E.T := ok.TS.symm
              have hSX : E.S ≠ X := by omega
              have hAS := hfA.nS
              have hAT := hfA.nT
              have hfit := bs_fits (k := E.k) (E.ix_lt ok i)
              have hSl := hp1.S
              have hTl := hp1.T
              have hXl : X < W.heap.size := World.block_lt_of_cell? _ _ c0
              have hth9 : W.there (A j) (bs (E.ix i) E.k) E.k := fun r hr => by
                have := hthA (bs (E.ix i) E.k + r) (by omega)
                simpa using this
              have tS := thS_at hp1 hlti (o := 11 + j) (by omega)
              rw [← Nat.add_assoc] at tS
              have fS := tS.2
              have p9 : ∀ n, Calls Yba.prog 9 #[.pointer (some ⟨E.S, i * 34, none⟩), .slice (some ⟨A j, 0, none⟩) (bs E.m E.k) (bs E.m E.k)] (W.drewN n) fun e w' => e = .returned (.slice (some ⟨A j, bs (E.ix i) E.k, none⟩) E.k (bs E.m E.k - bs (E.ix i) E.k)) ∧ ∃ n', w' = (W.drewN n).drewN n' := fun n =>
                part9 (W.drewN n) E.T E.S (i * 34) E.k E.m (E.ix i) (A j) E.R ok.k0 ok.k4 ok.m40 (E.ix_lt ok i) hp1.res (hp1.tree i hlti) (hp1.idx i hlti)
              have hkm : E.k ≤ bs E.m E.k - bs (E.ix i) E.k := by omega
              have hk4 := ok.k4
              clear tS hfar hqA
              go_region_law (first
                  | (go_simp; go_at_call 9; refine (p9 1).mono ?_; rintro e w' ⟨rfl, n', rfl⟩)
                  | (refine step_app ?_ (.tmp 57) (.tmp 61) ?_ (A j) (bs (E.ix i) E.k) E.k ?_ q E.k E.k ?_ (E.V i j) hslot.vals (Nat.le_refl _) hth9 ?_
                     · rfl
                     · rfl
                     · rfl
                     · rfl
                     intro w1 k1 v1 b1
                     have k2 : Keep W w1 (fun x o => x = A j ∧ bs (E.ix i) E.k ≤ o ∧ o < bs (E.ix i) E.k + E.k) := ⟨k1.size, k1.cell, k1.some, k1.frz⟩
                     have d0 := (k2.cell X 0 hXl (by omega)).trans c0
                     have d1 := (k2.cell X 1 hXl (by omega)).trans c1
                     have d2 := (k2.cell E.T (12 + j) hTl (by omega)).trans hA
                     have d3 := (k2.cell E.S (i * 34 + 11 + j) hSl (by omega)).trans hq0
                     have d4 := (k2.frz E.S (i * 34 + 11 + j) hSl).trans fS))
              all_goals
                have hpm := reg12_step ok hp1 hlti hltj k2 v1 (b1 _ _ hfA.old (below_drewN hp1.bel _))
                clear k1 k2 v1 b1 d0 d1 d2 d3 d4
                go_wp2
                refine ⟨?rel, ?measure⟩
                case rel => exact ⟨j + 1, _, by omega, by go_num, hpm, fun x y hx hy => .inl (hdn x y hx hy), fun y hy => (by by_cases e : y = j; exact .inr ⟨rfl, e⟩; exact .inl (hdi y (by omega))), fun x y hd => (by rcases hd with hd | ⟨rfl, rfl⟩; have := hup x y hd; omega; exact .inr ⟨rfl, by omega⟩)⟩
                case measure => simp [intOf]; omega
            · obtain rfl : j = 5 := by omega
              go_wp2
              refine ⟨?_, ?measure⟩
              (repeat apply Exists.intro)
              refine ⟨?rel, rfl⟩
              case rel => exact ⟨i + 1, _, by omega, by go_num, hp, fun x y hx hy => (by by_cases e : x = i; subst e; exact hdi y hy; exact hdn x y (by omega) hy), fun x y hd => (by have := hup x y hd; omega)⟩
              case measure => simp [intOf]; omega
        · obtain rfl : i = E.m := by omega
          go_wp2
          go_end0
          exact ⟨rfl, A, dn, hp, fun x y hx hy => hdn x y hx hy⟩
end Go.Proofs.Ybulkbxau.lawS3673ALayout
