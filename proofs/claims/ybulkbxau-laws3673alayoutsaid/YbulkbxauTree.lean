/-
  THE STATE OF THE TREE of 'LawS3673ALayout' AS CELLS OF A WORLD, and what a step leaves of it. No Go walk in this text.
-/
import Derived.Test.YbulkbxauSmall
namespace Go.Proofs.Ybulkbxau.lawS3673ALayout
open Go.ChangeShapes Go.WideShapes Go.ChangeAt Go.RowKit
set_option linter.unusedVariables false

/-- Behind the step all cells of elder blocks stand, but those of F. -/
structure Keep (w w' : World) (F : Nat → Nat → Prop) : Prop where
  size : w.heap.size ≤ w'.heap.size
  cell : ∀ b o, b < w.heap.size → ¬ F b o → w'.cell? ⟨b, o, none⟩ = w.cell? ⟨b, o, none⟩
  some : ∀ b o, b < w.heap.size → (w.cell? ⟨b, o, none⟩).isSome = true → (w'.cell? ⟨b, o, none⟩).isSome = true
  frz : ∀ b o, b < w.heap.size → w'.frozen? ⟨b, o, none⟩ = w.frozen? ⟨b, o, none⟩
theorem Keep.of_below {w w' : World} {F : Nat → Nat → Prop} (h : Below w.heap.size w w') : Keep w w' F :=
  ⟨h.size, fun b o hb _ => h.cell (p := ⟨b, o, none⟩) hb, fun b o hb hs => by rw [h.cell (p := ⟨b, o, none⟩) hb]; exact hs, fun b o hb => h.frozen (p := ⟨b, o, none⟩) hb⟩
theorem Keep.refl (w : World) (F : Nat → Nat → Prop) : Keep w w F := Keep.of_below (Below.refl _ _)
theorem Keep.trans {a b c : World} {F : Nat → Nat → Prop} (h : Keep a b F) (k : Keep b c F) : Keep a c F := by
  have hs := h.size
  refine ⟨Nat.le_trans hs k.size, fun x o hx hF => (k.cell x o (by omega) hF).trans (h.cell x o hx hF), fun x o hx h1 => k.some x o (by omega) (h.some x o hx h1), fun x o hx => (k.frz x o (by omega)).trans (h.frz x o hx)⟩
theorem Keep.mono {a b : World} {F G : Nat → Nat → Prop} (h : Keep a b F) (hFG : ∀ x o, F x o → G x o) : Keep a b G :=
  ⟨h.size, fun x o hx hG => h.cell x o hx (fun hf => hG (hFG x o hf)), h.some, h.frz⟩
theorem size_setCells (b : Nat) : ∀ (vs : List Value) (o : Nat) (w : World), (w.setCells b o vs).heap.size = w.heap.size
  | [], _, _ => rfl
  | v :: r, o, w => by rw [World.setCells, size_setCells b r]; simp
theorem below_setCells {B : Nat} {a : World} (b : Nat) (hB : B ≤ b) : ∀ (vs : List Value) (o : Nat) (w : World), Below B a w → Below B a (w.setCells b o vs)
  | [], _, _, h => h
  | v :: r, o, w, h => by
    rw [World.setCells]
    exact below_setCells b hB r (o + 1) _ (h.setCell (p := ⟨b, o, none⟩) hB v)
theorem Keep.setCells (w : World) (b o : Nat) (vs : List Value) {F : Nat → Nat → Prop} (hF : ∀ j, j < vs.length → F b (o + j)) : Keep w (w.setCells b o vs) F := by
  refine ⟨by rw [size_setCells]; exact Nat.le_refl _, fun x p hx hf => ?_, fun x p hx h1 => World.isSome_setCells _ _ _ _ _ h1, fun x p hx => World.frozen?_setCells _ _ _ _ _⟩
  refine World.cell?_setCells_out _ _ _ _ _ fun e _ => ?_
  apply Classical.byContradiction
  intro hn
  simp only at e hn
  subst e
  exact hf (by have := hF (p - o) (by omega); rwa [show o + (p - o) = p by omega] at this)
theorem Keep.setCell (w : World) (b o : Nat) (v : Value) {F : Nat → Nat → Prop} (hF : F b o) : Keep w (w.setCell ⟨b, o, none⟩ v) F := by
  have := Keep.setCells w b o [v] (F := F) (fun j hj => by simp at hj; subst hj; exact hF)
  exact this
theorem Keep.alloc (w : World) (ob : Obj) {F : Nat → Nat → Prop} : Keep w (w.alloc ob) F := Keep.of_below ((Below.refl _ _).alloc (Nat.le_refl _) _)
theorem Keep.drewN (w : World) (n : Nat) {F : Nat → Nat → Prop} : Keep w (w.drewN n) F := Keep.of_below (below_drewN (Below.refl _ _) n)
theorem Keep.there {a b : World} {F : Nat → Nat → Prop} (h : Keep a b F) {x o n : Nat} (hx : x < a.heap.size) (ht : a.there x o n) : b.there x o n := fun j hj =>
  ⟨h.some _ _ hx (ht j hj).1, (h.frz _ _ hx).trans (ht j hj).2⟩

/-- Node i's values of kind j lie behind ⟨q, o⟩. -/
structure Slot (w : World) (S k i j q o : Nat) (f : Nat → Int) : Prop where
  head : w.cell? ⟨S, i * 34 + 11 + j, none⟩ = some (.slice (some ⟨q, o, none⟩) k k)
  vals : ∀ r, r < k → w.cell? ⟨q, o + r, none⟩ = some (.int .i64 (f r))
theorem Slot.keep {w w' : World} {S k i j q o : Nat} {f : Nat → Int} {F : Nat → Nat → Prop} (h : Slot w S k i j q o f) (hk : Keep w w' F) (hS : S < w.heap.size) (hq : q < w.heap.size)
    (h1 : ¬ F S (i * 34 + 11 + j)) (h2 : ∀ r, r < k → ¬ F q (o + r)) : Slot w' S k i j q o f :=
  ⟨(hk.cell _ _ hS h1).trans h.head, fun r hr => (hk.cell _ _ hq (h2 r hr)).trans (h.vals r hr)⟩

structure Env where
  w0 : World
  T : Nat
  S : Nat
  O : Nat
  R : Option Addr
  k : Nat
  m : Nat
  ro : Nat
  V : Nat → Nat → Nat → Int
def Env.ix (E : Env) (i : Nat) : Nat := (i + E.ro) % E.m
/-- Where block x is none of the three. -/
structure Env.far (E : Env) (x : Nat) : Prop where
  old : E.w0.heap.size ≤ x
  nT : x ≠ E.T
  nS : x ≠ E.S
  nO : x ≠ E.O
structure Env.ok (E : Env) : Prop where
  k0 : 0 < E.k
  k4 : E.k ≤ 4
  m0 : 0 < E.m
  m40 : E.m ≤ 40
  r0 : E.ro < E.m
  bT : E.w0.heap.size ≤ E.T
  bS : E.w0.heap.size ≤ E.S
  bO : E.w0.heap.size ≤ E.O
  TS : E.T ≠ E.S
  TO : E.T ≠ E.O
  SO : E.S ≠ E.O
theorem Env.ix_lt {E : Env} (h : E.ok) (i : Nat) : E.ix i < E.m := Nat.mod_lt _ h.m0
theorem Env.ix_inj {E : Env} (h : E.ok) {i i' : Nat} (hi : i < E.m) (hi' : i' < E.m) (e : E.ix i = E.ix i') : i = i' := by
  unfold Env.ix at e
  have h0 := h.r0
  have q : ∀ x, x < E.m → (x + E.ro) % E.m = if x + E.ro < E.m then x + E.ro else x + E.ro - E.m := fun x hx => by
    split
    · next h => exact Nat.mod_eq_of_lt h
    · next h => rw [Nat.mod_eq_sub_mod (by omega), Nat.mod_eq_of_lt (by omega)]
  rw [q i hi, q i' hi'] at e
  split at e <;> split at e <;> omega

/-- THE STATE: n nodes are laid, na arrays are made, the slots of 'dn' have been moved into them. -/
structure Pl (E : Env) (w : World) (n na : Nat) (A : Nat → Nat) (dn : Nat → Nat → Prop) : Prop where
  bel : Below E.w0.heap.size E.w0 w
  T : E.T < w.heap.size
  S : E.S < w.heap.size
  O : E.O < w.heap.size
  thT : w.there E.T 0 17
  thS : w.there E.S 0 (E.m * 34)
  thO : w.there E.O 0 E.m
  res : w.cell? ⟨E.T, 1, none⟩ = some (.slice E.R E.k E.k)
  ord : w.cell? ⟨E.T, 9, none⟩ = some (.slice (some ⟨E.O, 0, none⟩) E.m E.m)
  tree : ∀ i, i < n → w.cell? ⟨E.S, i * 34, none⟩ = some (.pointer (some ⟨E.T, 0, none⟩))
  idx : ∀ i, i < n → w.cell? ⟨E.S, i * 34 + 2, none⟩ = some (.int .i64 (E.ix i))
  ords : ∀ i, i < n → w.cell? ⟨E.O, i, none⟩ = some (.pointer (some ⟨E.S, i * 34, none⟩))
  arr : ∀ j, j < na → w.cell? ⟨E.T, 12 + j, none⟩ = some (.slice (some ⟨A j, 0, none⟩) (bs E.m E.k) (bs E.m E.k)) ∧ w.there (A j) 0 (bs E.m E.k) ∧ E.far (A j) ∧ A j < w.heap.size
  dna : ∀ i j, dn i j → j < na
  ne : ∀ j j', j < na → j' < na → A j = A j' → j = j'
  slots : ∀ i j, i < n → j < 5 → dn i j → Slot w E.S E.k i j (A j) (bs (E.ix i) E.k) (E.V i j)
  rest : ∀ i j, i < n → j < 5 → ¬ dn i j → ∃ q, E.far q ∧ q < w.heap.size ∧ (∀ j', j' < na → q ≠ A j') ∧ Slot w E.S E.k i j q 0 (E.V i j)

theorem Pl.keep {E : Env} {w w' : World} {n na : Nat} {A : Nat → Nat} {dn : Nat → Nat → Prop} (h : Pl E w n na A dn) (k : Keep w w' fun _ _ => False) (hb : Below E.w0.heap.size E.w0 w') : Pl E w' n na A dn := by
  have s := k.size
  have hT := h.T
  have hS := h.S
  have hO := h.O
  refine ⟨hb, by omega, by omega, by omega, k.there hT h.thT, k.there hS h.thS, k.there hO h.thO, (k.cell _ _ hT id).trans h.res, (k.cell _ _ hT id).trans h.ord, fun i hi => (k.cell _ _ hS id).trans (h.tree i hi),
    fun i hi => (k.cell _ _ hS id).trans (h.idx i hi), fun i hi => (k.cell _ _ hO id).trans (h.ords i hi), fun j hj => ?_, h.dna, h.ne, fun i j hi hj hd => ?_, fun i j hi hj hd => ?_⟩
  · obtain ⟨a, b, c, d⟩ := h.arr j hj
    exact ⟨(k.cell _ _ hT id).trans a, k.there d b, c, by omega⟩
  · exact (h.slots i j hi hj hd).keep k hS (h.arr j (h.dna i j hd)).2.2.2 id (fun _ _ => id)
  · obtain ⟨q, a, b, c, d⟩ := h.rest i j hi hj hd
    exact ⟨q, a, by omega, c, d.keep k hS b id (fun _ _ => id)⟩

/-- A round of the first loop: node i, its first j0 slots laid. -/
structure Fil (E : Env) (wr W : World) (i j0 : Nat) : Prop where
  keep : Keep wr W fun b o => b = E.S ∧ i * 34 ≤ o ∧ o < i * 34 + 34
  bel : Below E.w0.heap.size E.w0 W
  tree : W.cell? ⟨E.S, i * 34, none⟩ = some (.pointer (some ⟨E.T, 0, none⟩))
  idx : W.cell? ⟨E.S, i * 34 + 2, none⟩ = some (.int .i64 (E.ix i))
  slots : ∀ j, j < j0 → ∃ q, wr.heap.size ≤ q ∧ q < W.heap.size ∧ Slot W E.S E.k i j q 0 (E.V i j)
theorem thS_at {E : Env} {w : World} {n na : Nat} {A : Nat → Nat} {dn : Nat → Nat → Prop} (h : Pl E w n na A dn) {i o : Nat} (hi : i < E.m) (ho : o < 34) : (w.cell? ⟨E.S, i * 34 + o, none⟩).isSome = true ∧ w.frozen? ⟨E.S, i * 34 + o, none⟩ = false := by
  have := h.thS (i * 34 + o) (by omega)
  simpa using this
theorem Fil.start {E : Env} {w : World} {n na : Nat} {A : Nat → Nat} {dn : Nat → Nat → Prop} (ok : E.ok) (h : Pl E w n na A dn) {i : Nat} (hi : i < E.m) :
    Fil E w ((w.setCell ⟨E.S, i * 34, none⟩ (.pointer (some ⟨E.T, 0, none⟩))).setCell ⟨E.S, i * 34 + 2, none⟩ (.int .i64 (E.ix i))) i 0 := by
  have h0 := thS_at h hi (o := 0) (by omega)
  have h2 := thS_at h hi (o := 2) (by omega)
  refine ⟨(Keep.setCell _ _ _ _ ⟨rfl, by omega, by omega⟩).trans (Keep.setCell _ _ _ _ ⟨rfl, by omega, by omega⟩), (h.bel.setCell ok.bS _).setCell ok.bS _, ?_, ?_, fun j hj => absurd hj (by omega)⟩
  · rw [World.cell?_setCell_other (h := by simp)]
    exact World.cell?_setCell_same' _ _ _ h0.1
  · refine World.cell?_setCell_same' _ _ _ ?_
    rw [World.cell?_setCell_other (h := by simp)]
    exact h2.1
theorem Fil.th {E : Env} {wr W W' : World} {i j0 : Nat} {n na : Nat} {A : Nat → Nat} {dn : Nat → Nat → Prop} (hp : Pl E wr n na A dn) (h : Fil E wr W i j0) (hi : i < E.m) (k : Keep W W' fun _ _ => False) {o : Nat} (ho : o < 34) :
    (W'.cell? ⟨E.S, i * 34 + o, none⟩).isSome = true ∧ W'.frozen? ⟨E.S, i * 34 + o, none⟩ = false := by
  have h0 := thS_at hp hi ho
  have hS := hp.S
  have := h.keep.size
  exact ⟨k.some _ _ (by omega) (h.keep.some _ _ hS h0.1), (k.frz _ _ (by omega)).trans ((h.keep.frz _ _ hS).trans h0.2)⟩
theorem Fil.step {E : Env} {wr W W' : World} {i j0 : Nat} {n na : Nat} {A : Nat → Nat} {dn : Nat → Nat → Prop} (ok : E.ok) (hp : Pl E wr n na A dn) (h : Fil E wr W i j0) (hi : i < E.m) (hj : j0 < 5) (mk : Mk W W' E.k E.k (E.V i j0)) :
    Fil E wr (W'.setCell ⟨E.S, i * 34 + 11 + j0, none⟩ (.slice (some ⟨W.heap.size, 0, none⟩) E.k E.k)) i (j0 + 1) := by
  have kk : ∀ F, Keep W W' F := fun F => Keep.of_below mk.bel
  have hS := hp.S
  have hs := h.keep.size
  have hs' := mk.sz
  have t := h.th hp hi (kk _) (o := 11 + j0) (by omega)
  rw [← Nat.add_assoc] at t
  have hB := h.bel.size
  refine ⟨(h.keep.trans (kk _)).trans (Keep.setCell _ _ _ _ ⟨rfl, by omega, by omega⟩), (h.bel.trans (mk.bel.mono hB)).setCell ok.bS _, ?_, ?_, fun j hj' => ?_⟩
  · rw [World.cell?_setCell_other (h := by simp), (kk (fun _ _ => False)).cell _ _ (by omega) id]
    exact h.tree
  · rw [World.cell?_setCell_other (h := by simp), (kk (fun _ _ => False)).cell _ _ (by omega) id]
    exact h.idx
  · by_cases e : j = j0
    · subst e
      refine ⟨W.heap.size, hs, by simp; omega, World.cell?_setCell_same' _ _ _ t.1, fun r hr => ?_⟩
      rw [World.cell?_setCell_other (h := by simp)]
      simpa using mk.row r hr
    · obtain ⟨q, q1, q2, q3⟩ := h.slots j (by omega)
      refine ⟨q, q1, by simp; omega, ?_⟩
      have k2 : Keep W (W'.setCell ⟨E.S, i * 34 + 11 + j0, none⟩ (.slice (some ⟨W.heap.size, 0, none⟩) E.k E.k)) (fun b o => b = E.S ∧ o = i * 34 + 11 + j0) := (kk _).trans (Keep.setCell _ _ _ _ ⟨rfl, rfl⟩)
      exact q3.keep k2 (by omega) q2 (by simp; omega) (fun r hr => by simp; omega)
theorem Pl.fill {E : Env} {wr W : World} {i : Nat} {A : Nat → Nat} (ok : E.ok) (hp : Pl E wr i 0 A (fun _ _ => False)) (h : Fil E wr W i 5) (hi : i < E.m) :
    Pl E (W.setCell ⟨E.O, i, none⟩ (.pointer (some ⟨E.S, i * 34, none⟩))) (i + 1) 0 A (fun _ _ => False) := by
  have k1 : Keep wr (W.setCell ⟨E.O, i, none⟩ (.pointer (some ⟨E.S, i * 34, none⟩))) (fun b o => (b = E.S ∧ i * 34 ≤ o ∧ o < i * 34 + 34) ∨ (b = E.O ∧ o = i)) :=
    (h.keep.mono fun _ _ x => .inl x).trans (Keep.setCell _ _ _ _ (.inr ⟨rfl, rfl⟩))
  have k2 : Keep W (W.setCell ⟨E.O, i, none⟩ (.pointer (some ⟨E.S, i * 34, none⟩))) (fun b o => b = E.O ∧ o = i) := Keep.setCell _ _ _ _ ⟨rfl, rfl⟩
  have hs := h.keep.size
  have hT := hp.T
  have hS := hp.S
  have hO := hp.O
  have a1 := ok.TS
  have a2 := ok.TO
  have a3 := ok.SO
  have tO := hp.thO i (by omega)
  simp only [Nat.zero_add] at tO
  generalize hw : W.setCell ⟨E.O, i, none⟩ (.pointer (some ⟨E.S, i * 34, none⟩)) = w' at *
  have s1 := k1.size
  have s2 := k2.size
  refine ⟨by rw [← hw]; exact h.bel.setCell ok.bO _, by omega, by omega, by omega, k1.there hT hp.thT, k1.there hS hp.thS, k1.there hO hp.thO, (k1.cell _ _ hT (by omega)).trans hp.res, (k1.cell _ _ hT (by omega)).trans hp.ord,
    fun x hx => ?_, fun x hx => ?_, fun x hx => ?_, fun j hj => absurd hj (by omega), fun _ _ h => h.elim, fun j _ hj => absurd hj (by omega), fun _ _ _ _ h => h.elim, fun x j hx hj _ => ?_⟩
  · by_cases e : x = i
    · subst e; exact (k2.cell _ _ (by omega) (by omega)).trans h.tree
    · exact (k1.cell _ _ hS (by omega)).trans (hp.tree x (by omega))
  · by_cases e : x = i
    · subst e; exact (k2.cell _ _ (by omega) (by omega)).trans h.idx
    · exact (k1.cell _ _ hS (by omega)).trans (hp.idx x (by omega))
  · by_cases e : x = i
    · subst e; rw [← hw]; exact World.cell?_setCell_same' _ _ _ (h.keep.some _ _ hO tO.1)
    · exact (k1.cell _ _ hO (by omega)).trans (hp.ords x (by omega))
  · by_cases e : x = i
    · subst e
      obtain ⟨q, q1, q2, q3⟩ := h.slots j hj
      have := hp.bel.size
      exact ⟨q, ⟨by omega, by omega, by omega, by omega⟩, by omega, fun _ h => absurd h (by omega), q3.keep k2 (by omega) q2 (by omega) (fun r hr => by omega)⟩
    · obtain ⟨q, q1, q2, q3, q4⟩ := hp.rest x j (by omega) hj id
      have b1 := q1.nS
      have b2 := q1.nO
      exact ⟨q, q1, by omega, q3, q4.keep k1 hS q2 (by omega) (fun r hr => by omega)⟩

/-- The first loop of 'place': array na is made and laid into the tree. -/
theorem Pl.mkArr {E : Env} {w w' : World} {na : Nat} {A : Nat → Nat} {q : Nat} (ok : E.ok) (h : Pl E w E.m na A (fun _ _ => False)) (hna : na < 5)
    (k : Keep w w' fun b o => b = E.T ∧ o = 12 + na) (bel : Below E.w0.heap.size E.w0 w') (hq : w.heap.size ≤ q) (hq' : q < w'.heap.size) (hth : w'.there q 0 (bs E.m E.k)) (hc : w'.cell? ⟨E.T, 12 + na, none⟩ = some (.slice (some ⟨q, 0, none⟩) (bs E.m E.k) (bs E.m E.k))) :
    Pl E w' E.m (na + 1) (fun j => if j = na then q else A j) (fun _ _ => False) := by
  have s := k.size
  have hT := h.T
  have hS := h.S
  have hO := h.O
  have a1 := ok.TS
  have a2 := ok.TO
  have a3 := ok.SO
  have hb := h.bel.size
  refine ⟨bel, by omega, by omega, by omega, k.there hT h.thT, k.there hS h.thS, k.there hO h.thO, (k.cell _ _ hT (by omega)).trans h.res, (k.cell _ _ hT (by omega)).trans h.ord, fun i hi => (k.cell _ _ hS (by omega)).trans (h.tree i hi),
    fun i hi => (k.cell _ _ hS (by omega)).trans (h.idx i hi), fun i hi => (k.cell _ _ hO (by omega)).trans (h.ords i hi), fun j hj => ?_, fun _ _ h => h.elim, fun j j' hj hj' => ?_, fun _ _ _ _ h => h.elim, fun i j hi hj hd => ?_⟩
  · by_cases e : j = na
    · subst e
      simp only [if_pos]
      exact ⟨hc, hth, ⟨by omega, by omega, by omega, by omega⟩, hq'⟩
    · simp only [if_neg e]
      obtain ⟨a, b, c, d⟩ := h.arr j (by omega)
      exact ⟨(k.cell _ _ hT (by omega)).trans a, k.there d b, c, by omega⟩
  · by_cases e : j = na <;> by_cases e' : j' = na <;> simp only [e, e', if_true, if_false]
    · intro; omega
    · have := (h.arr j' (by omega)).2.2.2
      intro; omega
    · have := (h.arr j (by omega)).2.2.2
      intro; omega
    · exact h.ne j j' (by omega) (by omega)
  · obtain ⟨p, a, b, c, d⟩ := h.rest i j hi hj hd
    have n1 := a.nT
    refine ⟨p, a, by omega, fun j' hj' => ?_, d.keep k hS b (by omega) (fun r hr => by omega)⟩
    by_cases e : j' = na
    · simp only [e, if_pos]; omega
    · simp only [if_neg e]; exact c j' (by omega)

/-- A round of the inner loop of 'place': slot (i, j) is moved. -/
theorem Pl.move {E : Env} {w w' : World} {A : Nat → Nat} {dn : Nat → Nat → Prop} {i j : Nat} (ok : E.ok) (h : Pl E w E.m 5 A dn) (hi : i < E.m) (hj : j < 5)
    (k : Keep w w' fun b o => (b = E.S ∧ o = i * 34 + 11 + j) ∨ (b = A j ∧ bs (E.ix i) E.k ≤ o ∧ o < bs (E.ix i) E.k + E.k)) (bel : Below E.w0.heap.size E.w0 w')
    (hs : Slot w' E.S E.k i j (A j) (bs (E.ix i) E.k) (E.V i j)) : Pl E w' E.m 5 A (fun x y => dn x y ∨ (x = i ∧ y = j)) := by
  have s := k.size
  have hT := h.T
  have hS := h.S
  have hO := h.O
  have a1 := ok.TS
  have a2 := ok.TO
  have a3 := ok.SO
  have hb := h.bel.size
  have far := (h.arr j hj).2.2.1
  have f1 := far.nT
  have f2 := far.nS
  have f3 := far.nO
  refine ⟨bel, by omega, by omega, by omega, k.there hT h.thT, k.there hS h.thS, k.there hO h.thO, (k.cell _ _ hT (by omega)).trans h.res, (k.cell _ _ hT (by omega)).trans h.ord, fun i hi => (k.cell _ _ hS (by omega)).trans (h.tree i hi),
    fun i hi => (k.cell _ _ hS (by omega)).trans (h.idx i hi), fun i hi => (k.cell _ _ hO (by omega)).trans (h.ords i hi), fun x hx => ?_, fun x y hd => ?_, h.ne, fun x y hx hy hd => ?_, fun x y hx hy hd => ?_⟩
  · obtain ⟨a, b, c, d⟩ := h.arr x hx
    exact ⟨(k.cell _ _ hT (by omega)).trans a, k.there d b, c, by omega⟩
  · rcases hd with hd | ⟨_, rfl⟩
    · exact h.dna x y hd
    · exact hj
  · by_cases e : x = i ∧ y = j
    · obtain ⟨rfl, rfl⟩ := e; exact hs
    · have hd' : dn x y := by rcases hd with hd | hd; exact hd; exact absurd hd e
      obtain ⟨a, b, c, d⟩ := h.arr y hy
      have c2 := c.nS
      refine (h.slots x y hx hy hd').keep k hS d (by omega) (fun r hr => ?_)
      intro hF
      rcases hF with ⟨hF, _⟩ | ⟨hF, h1, h2⟩
      · exact c2 hF
      · have hyj := h.ne y j hy hj hF
        have hne : E.ix x ≠ E.ix i := fun e' => e ⟨E.ix_inj ok hx hi e', hyj⟩
        rcases Nat.lt_or_gt_of_ne hne with hl | hl
        · have := bs_fits (k := E.k) hl; omega
        · have := bs_fits (k := E.k) hl; omega
  · have hd' : ¬ dn x y := fun q => hd (.inl q)
    have e : ¬ (x = i ∧ y = j) := fun q => hd (.inr q)
    obtain ⟨q, a, b, c, d⟩ := h.rest x y hx hy hd'
    have n1 := a.nS
    have n2 := c j hj
    exact ⟨q, a, by omega, c, d.keep k hS b (by omega) (fun r hr => by omega)⟩
end Go.Proofs.Ybulkbxau.lawS3673ALayout
