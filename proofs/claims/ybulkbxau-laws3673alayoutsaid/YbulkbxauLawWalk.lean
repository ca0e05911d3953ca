/-
  THE WALK of 'LawS3673ALayout': the tree is laid, 'place' moves every slot, the two loops find what they look for.
-/
import Derived.Test.YbulkbxauPlace
namespace Go.Proofs.Ybulkbxau.lawS3673ALayout
open Go.ChangeShapes Go.WideShapes Go.ChangeAt Go.RowKit
set_option linter.unusedVariables false
theorem info9 : (Yba.prog.info? 9).map (fun i => (i.zero, i.size, i.bytes)) = some (some (.string ByteArray.empty), 1, 16) := by kernel_rfl
theorem make24 (n : Nat) (hn : n ≤ 1024) (w : World) : (Instr.makeSlice 24 (.int .i64 (n : Int)) (.int .i64 (n : Int))).run Yba.prog w = .ok (.slice (some ⟨w.heap.size, 0, none⟩) n n) (w.alloc (.cells (madeCells (Value.string ByteArray.empty).cells n) 9)) := by
  obtain ⟨i0, hi, hz0, hz1, hz2⟩ := info_parts info9
  have h := run_make (P := Yba.prog) w 24 9 i0 _ Yba.underlying24 hi hz0 .i64 .i64 (n : Int) n (by omega) (by omega) (by rw [hz2]; omega) (by omega)
  simp only [Int.toNat_natCast, hz1, Nat.mul_one] at h
  exact h
theorem info35 : (Yba.prog.info? 35).map (fun i => (i.zero, i.size, i.bytes)) = some (some (.pointer none), 1, 8) := by kernel_rfl
theorem make30 (n : Nat) (hn : n ≤ 1024) (w : World) : (Instr.makeSlice 30 (.int .i64 (n : Int)) (.int .i64 (n : Int))).run Yba.prog w = .ok (.slice (some ⟨w.heap.size, 0, none⟩) n n) (w.alloc (.cells (madeCells (Value.pointer none).cells n) 35)) := by
  obtain ⟨i0, hi, hz0, hz1, hz2⟩ := info_parts info35
  have h := run_make (P := Yba.prog) w 30 35 i0 _ Yba.underlying30 hi hz0 .i64 .i64 (n : Int) n (by omega) (by omega) (by rw [hz2]; omega) (by omega)
  simp only [Int.toNat_natCast, hz1, Nat.mul_one] at h
  exact h
def z : Value := .int .u8 0
def znode : Array Value := #[.pointer none, .pointer none, .int .i64 0, .int .i64 0, .int .i64 0, .bool false, .bool false, .bool false, .bool false, .slice none 0 0, .string ByteArray.empty, .slice none 0 0, .slice none 0 0, .slice none 0 0, .slice none 0 0, .slice none 0 0, .slice none 0 0, .pointer none, z, z, z, z, z, z, z, z, z, z, z, z, z, z, z, z]
theorem info40 : (Yba.prog.info? 40).map (fun i => (i.zero, i.size, i.bytes)) = some (some (.agg znode), 34, 256) := by kernel_rfl
theorem make34 (n : Nat) (hn : n ≤ 1024) (w : World) : (Instr.makeSlice 34 (.int .i64 (n : Int)) (.int .i64 (n : Int))).run Yba.prog w = .ok (.slice (some ⟨w.heap.size, 0, none⟩) n n) (w.alloc (.cells (madeCells znode (n * 34)) 40)) := by
  obtain ⟨i0, hi, hz0, hz1, hz2⟩ := info_parts info40
  have h := run_make (P := Yba.prog) w 34 40 i0 _ Yba.underlying34 hi hz0 .i64 .i64 (n : Int) n (by omega) (by omega) (by rw [hz2]; omega) (by omega)
  simp only [Int.toNat_natCast, hz1] at h
  exact h
theorem Vals.below {w w' : World} {B : Nat} {a : Option Addr} {len : Nat} {z : List Int} (h : Vals w B a len z) (k : Below B w w') : Vals w' B a len z := fun h0 => by
  obtain ⟨b, o, e, hb, hc⟩ := h h0
  exact ⟨b, o, e, hb, fun i hi => (k.cell (p := ⟨b, o + i, none⟩) hb).trans (hc i hi)⟩
theorem new_there (w : World) (C : Array Value) (t n : Nat) (h : C.size = n) : (w.alloc (.cells C t)).there w.heap.size 0 n := fun j hj => by
  have hs : j < C.size := by omega
  constructor
  · simp [Array.getElem?_eq_getElem hs]
  · simp
theorem Pl.start {E : Env} (ok : E.ok) (hT : E.w0.heap.size + 1 = E.T) (hS : E.T + 1 = E.S) (hO : E.S + 1 = E.O) (X : Obj) (C N P : Array Value) (t1 t2 t3 : Nat) (A : Nat → Nat)
    (s1 : C.size = 17) (s2 : N.size = E.m * 34) (s3 : P.size = E.m) (c1 : C[1]? = some (.slice E.R E.k E.k)) (c9 : C[9]? = some (.slice (some ⟨E.O, 0, none⟩) E.m E.m)) :
    Pl E ((((E.w0.alloc X).alloc (.cells C t1)).alloc (.cells N t2)).alloc (.cells P t3)) 0 0 A (fun _ _ => False) := by
  have z1 : (E.w0.alloc X).heap.size = E.T := by simp; omega
  have z2 : ((E.w0.alloc X).alloc (.cells C t1)).heap.size = E.S := by simp; omega
  have z3 : (((E.w0.alloc X).alloc (.cells C t1)).alloc (.cells N t2)).heap.size = E.O := by simp; omega
  have z4 : ((((E.w0.alloc X).alloc (.cells C t1)).alloc (.cells N t2)).alloc (.cells P t3)).heap.size = E.O + 1 := by rw [← z3]; simp
  have b1 : Below E.w0.heap.size E.w0 (E.w0.alloc X) := (Below.refl _ _).alloc (Nat.le_refl _) _
  have k2 := Keep.alloc ((E.w0.alloc X).alloc (.cells C t1)) (.cells N t2) (F := fun _ _ => False)
  have k3 := Keep.alloc (((E.w0.alloc X).alloc (.cells C t1)).alloc (.cells N t2)) (.cells P t3) (F := fun _ _ => False)
  have tT := new_there (E.w0.alloc X) C t1 17 s1
  have tS := new_there ((E.w0.alloc X).alloc (.cells C t1)) N t2 _ s2
  have tO := new_there (((E.w0.alloc X).alloc (.cells C t1)).alloc (.cells N t2)) P t3 _ s3
  have cT : ∀ o, ((E.w0.alloc X).alloc (.cells C t1)).cell? ⟨E.T, o, none⟩ = C[o]? := fun o => by
    have := World.cell?_alloc_new (E.w0.alloc X) C t1 o
    rwa [z1] at this
  rw [z1] at tT
  rw [z2] at tS
  rw [z3] at tO
  have kk := k2.trans k3
  refine ⟨((b1.alloc (by rw [z1]; omega) _).alloc (by rw [z2]; omega) _).alloc (by rw [z3]; omega) _, by rw [z4]; omega, by rw [z4]; omega, by rw [z4]; omega, kk.there (by rw [z2]; omega) tT, k3.there (by rw [z3]; omega) tS, tO,
    (kk.cell _ _ (by rw [z2]; omega) id).trans ((cT 1).trans c1), (kk.cell _ _ (by rw [z2]; omega) id).trans ((cT 9).trans c9), fun i hi => absurd hi (by omega), fun i hi => absurd hi (by omega), fun i hi => absurd hi (by omega), fun i hi => absurd hi (by omega), fun _ _ h => h.elim, fun i _ hi => absurd hi (by omega), fun i _ hi => absurd hi (by omega), fun i _ hi => absurd hi (by omega)⟩
theorem neq35 (w : World) (a : Addr) : (binOp .neq 35 (.pointer (some a)) (.pointer (some a))).run Yba.prog w = .ok (.bool false) w := by
  have h2 : (Yba.prog.info? 40).isSome = true := by kernel_rfl
  obtain ⟨j, hj⟩ := Option.isSome_iff_exists.1 h2
  have h : ∀ d : Nat, (Op.equalIn (d + 1) 35 (.pointer (some a)) (.pointer (some a))).run Yba.prog w = .ok true w := fun d => by
    simp [Op.equalIn, run_underlying Yba.underlying35, sizeOf, typeInfo, hj, run_sameAddr_same]
  simp only [binOp]
  simp [Op.equal, Op.maxDepth, h 9999]
theorem neq43 (w : World) (a : Addr) : (binOp .neq 43 (.pointer (some a)) (.pointer (some a))).run Yba.prog w = .ok (.bool false) w := by
  have h2 : (Yba.prog.info? 2).isSome = true := by kernel_rfl
  obtain ⟨j, hj⟩ := Option.isSome_iff_exists.1 h2
  have h : ∀ d : Nat, (Op.equalIn (d + 1) 43 (.pointer (some a)) (.pointer (some a))).run Yba.prog w = .ok true w := fun d => by
    simp [Op.equalIn, run_underlying Yba.underlying43, sizeOf, typeInfo, hj, run_sameAddr_same]
  simp only [binOp]
  simp [Op.equal, Op.maxDepth, h 9999]
/-- Behind 'place': the state, and the law's own array of the five. -/
structure Ck (E : Env) (A : Nat → Nat) (dn : Nat → Nat → Prop) (X : Nat) (w : World) : Prop where
  pl : Pl E w E.m 5 A dn
  lt : X < w.heap.size
  row : ∀ j, j < 5 → w.cell? ⟨X, j, none⟩ = some (.slice (some ⟨A j, 0, none⟩) (bs E.m E.k) (bs E.m E.k))
theorem Ck.keep {E : Env} {A : Nat → Nat} {dn : Nat → Nat → Prop} {X : Nat} {w w' : World} (h : Ck E A dn X w) (k : Keep w w' fun _ _ => False) (b : Below w.heap.size w w') : Ck E A dn X w' :=
  ⟨h.pl.keep k (h.pl.bel.trans (b.mono h.pl.bel.size)), Nat.lt_of_lt_of_le h.lt k.size, fun j hj => (k.cell _ _ h.lt id).trans (h.row j hj)⟩
theorem Ck.below {E : Env} {A : Nat → Nat} {dn : Nat → Nat → Prop} {X : Nat} {w w' : World} (h : Ck E A dn X w) (b : Below w.heap.size w w') : Ck E A dn X w' := h.keep (Keep.of_below b) b
theorem five (P : Nat → Prop) (h0 : P 0) (h1 : P 1) (h2 : P 2) (h3 : P 3) (h4 : P 4) : ∀ j, j < 5 → P j := fun j hj => by
  rcases (show j = 0 ∨ j = 1 ∨ j = 2 ∨ j = 3 ∨ j = 4 by omega) with rfl | rfl | rfl | rfl | rfl <;> assumption
theorem mkE {E : Env} (ok : E.ok) (a : Option Addr) (len cap : Nat) (z : List Int) (hV : E.V = vl len z E.k) (hl : len ≤ 4096) (hv : Vals E.w0 E.w0.heap.size a len z) (W : World) (bel : Below E.w0.heap.size E.w0 W) (i j : Nat) (jj : Int) (hjj : jj = (j : Nat)) (hi : i < E.m) (hj : j < 5) :
    Calls Yba.prog 4 #[.slice a len cap, .int .i64 E.k, .int .i64 i, .int .i64 jj] W fun e w' => e = .returned (.slice (some ⟨W.heap.size, 0, none⟩) E.k E.k) ∧ Mk W w' E.k E.k (E.V i j) := by
  subst hjj
  have hm := ok.m40
  rw [hV]
  exact mk4 W _ bel.size a len cap z hl (hv.below bel) E.k i j ok.k4 (by omega) hj
theorem valE {E : Env} (ok : E.ok) (a : Option Addr) (len cap : Nat) (z : List Int) (hV : E.V = vl len z E.k) (hl : len ≤ 4096) (hv : Vals E.w0 E.w0.heap.size a len z) (W : World) (bel : Below E.w0.heap.size E.w0 W) (i j r : Nat) (hi : i < E.m) (hj : j < 5) (hr : r < E.k) :
    Calls Yba.prog 6 #[.slice a len cap, .int .i64 E.k, .int .i64 i, .int .i64 j, .int .i64 r] W fun e w' => e = .returned (.int .i64 (E.V i j r)) ∧ w' = W := by
  have hm := ok.m40
  have hk := ok.k4
  rw [hV]
  exact val6 W _ a len cap z hl (hv.below bel) E.k i j r ok.k4 (by omega) hj (by omega)
set_option maxRecDepth 100000 in
set_option maxHeartbeats 8000000 in
theorem law3 (E : Env) (ok : E.ok) (hT : E.w0.heap.size + 1 = E.T) (hS : E.T + 1 = E.S) (hO : E.S + 1 = E.O) (hR : E.R = some ⟨E.w0.heap.size, 0, none⟩)
    (c0 c1 c2 : Nat) (h0 : c0 < 256) (h1 : c1 < 256) (h2 : c2 < 256) (a : Option Addr) (len cap : Nat) (z : List Int) (hl : len ≤ 4096) (hv : Vals E.w0 E.w0.heap.size a len z) (hV : E.V = vl len z E.k)
    (hk : E.k = 1 + c0 % 4) (hm : E.m = 1 + c1 % 40) (hro : E.ro = c2 % E.m) :
    Calls Yba.prog 3 #[.int .u8 c0, .int .u8 c1, .int .u8 c2, .slice a len cap] E.w0 fun e w' => e = .returned (.bool true) ∧ Below E.w0.heap.size E.w0 w' := by
  have hk1 : (1 : Int) + (c0 : Int) % 4 = E.k := by omega
  have hm1 : (1 : Int) + (c1 : Int) % 40 = E.m := by omega
  have hr1 : (c2 : Int) % E.m = E.ro := by rw [hro]; push_cast; rfl
  have hk4 := ok.k4
  have hk0 := ok.k0
  have hm40 := ok.m40
  have hm0 := ok.m0
  have hr0 := ok.r0
  clear hk hm hro
  have q1 := make24 E.k (by omega)
  have q2 := make34 E.m (by omega)
  have q3 := make30 E.m (by omega)
  have hH : Hid ((E.w0.heap.size + 1 = E.T ∧ E.T + 1 = E.S ∧ E.S + 1 = E.O) ∧ E.R = some ⟨E.w0.heap.size, 0, none⟩ ∧ E.V = vl len z E.k) := ⟨⟨hT, hS, hO⟩, hR, hV⟩
  clear hT hS hO hR hV
  go_enter Yba.func3, Yba.ntmps3
  go_wp2
  obtain ⟨⟨hT, hS, hO⟩, hR, hV⟩ := hH.out
  simp only [hT, hS, hO, hr1]
  have hst := Pl.start ok hT hS hO (.cells (madeCells #[Value.string ByteArray.empty] E.k) 9) #[Value.string { data := #[] }, Value.slice (some { block := E.w0.heap.size, off := 0 }) E.k E.k,
                  Value.map none, Value.slice none 0 0, Value.int IntKind.i64 0, Value.map none, Value.slice none 0 0,
                  Value.int IntKind.i64 0, Value.map none,
                  Value.slice (some { block := E.O, off := 0 }) E.m E.m, Value.slice none 0 0,
                  Value.bool false, Value.slice none 0 0, Value.slice none 0 0, Value.slice none 0 0,
                  Value.slice none 0 0, Value.slice none 0 0] (madeCells znode (E.m * 34)) (madeCells #[Value.pointer none] E.m) 33 40 35 (fun _ => 0) rfl (size_madeCells _ _) (size_madeCells _ _) (by rw [hR]; rfl) rfl
  clear q1 q2 q3 hk1 hm1 hr1 hT hS hO hR hV
  go_loopw [14] (fun v wr => ∃ n : Nat, n ≤ E.m ∧ v = .int .i64 n ∧ Pl E wr n 0 (fun _ => 0) (fun _ _ => False)) (fun v _ => E.m - (intOf v).toNat)
  case atStart => exact ⟨0, by omega, rfl, hst⟩
  case round =>
    clear hst
    obtain ⟨i, hi, rfl, hp⟩ := hrel
    by_cases hlt : i < E.m
    · have hix : ((i : Int) + E.ro) % E.m = (E.ix i : Nat) := by unfold Env.ix; push_cast; rfl
      have hixl := E.ix_lt ok i
      have t0 := thS_at hp hlt (o := 0) (by omega)
      have t2 := thS_at hp hlt (o := 2) (by omega)
      rw [Nat.add_zero] at t0
      obtain ⟨v0, e0⟩ := Option.isSome_iff_exists.1 t0.1
      obtain ⟨v2, e2⟩ := Option.isSome_iff_exists.1 t2.1
      have f0 := t0.2
      have f2 := t2.2
      clear t0 t2
      have hV := hH.out.2.2
      have hsT : E.S ≠ E.T := ok.TS.symm
      have hsO : E.S ≠ E.O := ok.SO
      have s0 := Fil.start ok hp hlt
      have tO := hp.thO i hlt
      rw [Nat.zero_add] at tO
      go_wp2_with fail
      clear e0 e2 f0 f2 v0 v2
      generalize (wr.setCell ⟨E.S, i * 34, none⟩ (.pointer (some ⟨E.T, 0, none⟩))).setCell ⟨E.S, i * 34 + 2, none⟩ (.int .i64 (E.ix i)) = W0 at s0 ⊢
      refine (mkE ok a len cap z hV hl hv W0 s0.bel i 0 0 rfl hlt (by omega)).mono ?_
      rintro e U0 ⟨rfl, mk⟩
      have t := s0.th hp hlt (Keep.of_below mk.bel) (o := 11) (by omega)
      obtain ⟨v, e⟩ := Option.isSome_iff_exists.1 t.1
      have f := t.2
      have s1 := s0.step ok hp hlt (by omega) mk
      clear t mk s0
      go_wp2_with fail
      clear e f v
      generalize U0.setCell ⟨E.S, i * 34 + 11, none⟩ (.slice (some ⟨W0.heap.size, 0, none⟩) E.k E.k) = W1 at s1 ⊢
      refine (mkE ok a len cap z hV hl hv W1 s1.bel i 1 1 rfl hlt (by omega)).mono ?_
      rintro e U1 ⟨rfl, mk⟩
      have t := s1.th hp hlt (Keep.of_below mk.bel) (o := 12) (by omega)
      obtain ⟨v, e⟩ := Option.isSome_iff_exists.1 t.1
      have f := t.2
      have s2 := s1.step ok hp hlt (by omega) mk
      clear t mk s1
      go_wp2_with fail
      clear e f v
      generalize U1.setCell ⟨E.S, i * 34 + 12, none⟩ (.slice (some ⟨W1.heap.size, 0, none⟩) E.k E.k) = W2 at s2 ⊢
      refine (mkE ok a len cap z hV hl hv W2 s2.bel i 2 2 rfl hlt (by omega)).mono ?_
      rintro e U2 ⟨rfl, mk⟩
      have t := s2.th hp hlt (Keep.of_below mk.bel) (o := 13) (by omega)
      obtain ⟨v, e⟩ := Option.isSome_iff_exists.1 t.1
      have f := t.2
      have s3 := s2.step ok hp hlt (by omega) mk
      clear t mk s2
      go_wp2_with fail
      clear e f v
      generalize U2.setCell ⟨E.S, i * 34 + 13, none⟩ (.slice (some ⟨W2.heap.size, 0, none⟩) E.k E.k) = W3 at s3 ⊢
      refine (mkE ok a len cap z hV hl hv W3 s3.bel i 3 3 rfl hlt (by omega)).mono ?_
      rintro e U3 ⟨rfl, mk⟩
      have t := s3.th hp hlt (Keep.of_below mk.bel) (o := 14) (by omega)
      obtain ⟨v, e⟩ := Option.isSome_iff_exists.1 t.1
      have f := t.2
      have s4 := s3.step ok hp hlt (by omega) mk
      clear t mk s3
      go_wp2_with fail
      clear e f v
      generalize U3.setCell ⟨E.S, i * 34 + 14, none⟩ (.slice (some ⟨W3.heap.size, 0, none⟩) E.k E.k) = W4 at s4 ⊢
      refine (mkE ok a len cap z hV hl hv W4 s4.bel i 4 4 rfl hlt (by omega)).mono ?_
      rintro e U4 ⟨rfl, mk⟩
      have t := s4.th hp hlt (Keep.of_below mk.bel) (o := 15) (by omega)
      obtain ⟨v, e⟩ := Option.isSome_iff_exists.1 t.1
      have f := t.2
      have s5 := s4.step ok hp hlt (by omega) mk
      have kk : Keep wr U4 (fun b o => b = E.S ∧ i * 34 ≤ o ∧ o < i * 34 + 34) := s4.keep.trans (Keep.of_below mk.bel)
      have uT := (kk.cell E.T 9 hp.T (by omega)).trans hp.ord
      obtain ⟨vO, uO⟩ := Option.isSome_iff_exists.1 (kk.some E.O i hp.O tO.1)
      have uF := (kk.frz E.O i hp.O).trans tO.2
      have hfin := hp.fill ok s5 hlt
      clear t mk kk s4 s5 tO hV hp
      go_wp2
      refine ⟨?rel, ?measure⟩
      case rel => exact ⟨i + 1, by omega, by go_num, hfin⟩
      case measure => simp [intOf]; omega
    · obtain rfl : i = E.m := by omega
      go_wp2_with (go_at_call 5; refine (place5 E ok _ _ hp).mono ?_; rintro e w2 ⟨rfl, A, dn, hp2, hall⟩)
      clear hp
      have g0 : w2.cell? ⟨E.T, 12, none⟩ = some (.slice (some ⟨A 0, 0, none⟩) (bs E.m E.k) (bs E.m E.k)) := (hp2.arr 0 (by omega)).1
      have g1 : w2.cell? ⟨E.T, 13, none⟩ = some (.slice (some ⟨A 1, 0, none⟩) (bs E.m E.k) (bs E.m E.k)) := (hp2.arr 1 (by omega)).1
      have g2 : w2.cell? ⟨E.T, 14, none⟩ = some (.slice (some ⟨A 2, 0, none⟩) (bs E.m E.k) (bs E.m E.k)) := (hp2.arr 2 (by omega)).1
      have g3 : w2.cell? ⟨E.T, 15, none⟩ = some (.slice (some ⟨A 3, 0, none⟩) (bs E.m E.k) (bs E.m E.k)) := (hp2.arr 3 (by omega)).1
      have g4 : w2.cell? ⟨E.T, 16, none⟩ = some (.slice (some ⟨A 4, 0, none⟩) (bs E.m E.k) (bs E.m E.k)) := (hp2.arr 4 (by omega)).1
      have hTl := hp2.T
      have hne : w2.heap.size ≠ E.T := by omega
      go_region_held3 (fun w' => w'.cell? ⟨E.T, 12, none⟩ = some (.slice (some ⟨A 0, 0, none⟩) (bs E.m E.k) (bs E.m E.k)) ∧ w'.cell? ⟨E.T, 13, none⟩ = some (.slice (some ⟨A 1, 0, none⟩) (bs E.m E.k) (bs E.m E.k)) ∧ w'.cell? ⟨E.T, 14, none⟩ = some (.slice (some ⟨A 2, 0, none⟩) (bs E.m E.k) (bs E.m E.k)) ∧ w'.cell? ⟨E.T, 15, none⟩ = some (.slice (some ⟨A 3, 0, none⟩) (bs E.m E.k) (bs E.m E.k)) ∧ w'.cell? ⟨E.T, 16, none⟩ = some (.slice (some ⟨A 4, 0, none⟩) (bs E.m E.k) (bs E.m E.k)))
        (go_keep) (fail)
      have ck : Ck E A dn w2.heap.size (w2.alloc (.cells #[.slice (some ⟨A 0, 0, none⟩) (bs E.m E.k) (bs E.m E.k), .slice (some ⟨A 1, 0, none⟩) (bs E.m E.k) (bs E.m E.k), .slice (some ⟨A 2, 0, none⟩) (bs E.m E.k) (bs E.m E.k), .slice (some ⟨A 3, 0, none⟩) (bs E.m E.k) (bs E.m E.k), .slice (some ⟨A 4, 0, none⟩) (bs E.m E.k) (bs E.m E.k)] 42)).drew :=
        ⟨hp2.keep ((Keep.alloc _ _).trans (Keep.of_below (Below.refl _ _).drew)) (hp2.bel.alloc hp2.bel.size _).drew, by show _ < (w2.alloc _).heap.size; simp, five _ (by simp) (by simp) (by simp) (by simp) (by simp)⟩
      generalize w2.heap.size = X at ck ⊢
      generalize (w2.alloc _).drew = w3 at ck ⊢
      clear hp2 g0 g1 g2 g3 g4 hTl hne
      have hbs := bs_cast E.m E.k
      have hbl : bs E.m E.k ≤ 160 := bs_le hm40 hk4
      go_wp2
      go_loopw [17] (fun v wr => ∃ n : Nat, n ≤ 5 ∧ v = .int .i64 n ∧ Ck E A dn X wr) (fun v _ => 5 - (intOf v).toNat)
      case atStart => exact ⟨0, by omega, rfl, ck⟩
      case round =>
        clear ck
        obtain ⟨j, hj, rfl, ck⟩ := hrel
        by_cases hlj : j < 5
        · have gj := ck.row j hlj
          go_wp2
          refine ⟨?rel, ?measure⟩
          case rel => exact ⟨j + 1, by omega, by go_num, ck⟩
          case measure => simp [intOf]; omega
        · obtain rfl : j = 5 := by omega
          go_wp2
          go_loopw [18] (fun v wr => ∃ n : Nat, n ≤ E.m ∧ v = .int .i64 n ∧ Ck E A dn X wr) (fun v _ => E.m - (intOf v).toNat)
          case atStart => exact ⟨0, by omega, rfl, ck⟩
          case round =>
            clear ck
            obtain ⟨i, hi, rfl, ck⟩ := hrel
            by_cases hlt : i < E.m
            · have hix : ((i : Int) + E.ro) % E.m = (E.ix i : Nat) := by unfold Env.ix; push_cast; rfl
              have hixl := E.ix_lt ok i
              have c9 := ck.pl.ord
              have co := ck.pl.ords i hlt
              have ci := ck.pl.idx i hlt
              have q35 := neq35
              go_wp2_with fail
              go_quiet (fail)
              clear q35
              go_wp2_with fail
              have ck4 : Ck E A dn X (wr.drewN nq) := ck.below (below_drewN (Below.refl _ _) nq)
              generalize wr.drewN nq = w4 at ck4 ⊢
              clear ck c9 co ci
              have g0 : w4.cell? ⟨E.S, i * 34 + 11, none⟩ = some (.slice (some ⟨A 0, bs (E.ix i) E.k, none⟩) E.k E.k) := (ck4.pl.slots i 0 hlt (by omega) (hall i 0 hlt (by omega))).head
              have g1 : w4.cell? ⟨E.S, i * 34 + 12, none⟩ = some (.slice (some ⟨A 1, bs (E.ix i) E.k, none⟩) E.k E.k) := (ck4.pl.slots i 1 hlt (by omega) (hall i 1 hlt (by omega))).head
              have g2 : w4.cell? ⟨E.S, i * 34 + 13, none⟩ = some (.slice (some ⟨A 2, bs (E.ix i) E.k, none⟩) E.k E.k) := (ck4.pl.slots i 2 hlt (by omega) (hall i 2 hlt (by omega))).head
              have g3 : w4.cell? ⟨E.S, i * 34 + 14, none⟩ = some (.slice (some ⟨A 3, bs (E.ix i) E.k, none⟩) E.k E.k) := (ck4.pl.slots i 3 hlt (by omega) (hall i 3 hlt (by omega))).head
              have g4 : w4.cell? ⟨E.S, i * 34 + 15, none⟩ = some (.slice (some ⟨A 4, bs (E.ix i) E.k, none⟩) E.k E.k) := (ck4.pl.slots i 4 hlt (by omega) (hall i 4 hlt (by omega))).head
              have hSl := ck4.pl.S
              have hne : w4.heap.size ≠ E.S := by omega
              go_region_held3 (fun w' => w'.cell? ⟨E.S, i * 34 + 11, none⟩ = some (.slice (some ⟨A 0, bs (E.ix i) E.k, none⟩) E.k E.k) ∧ w'.cell? ⟨E.S, i * 34 + 12, none⟩ = some (.slice (some ⟨A 1, bs (E.ix i) E.k, none⟩) E.k E.k) ∧ w'.cell? ⟨E.S, i * 34 + 13, none⟩ = some (.slice (some ⟨A 2, bs (E.ix i) E.k, none⟩) E.k E.k) ∧ w'.cell? ⟨E.S, i * 34 + 14, none⟩ = some (.slice (some ⟨A 3, bs (E.ix i) E.k, none⟩) E.k E.k) ∧ w'.cell? ⟨E.S, i * 34 + 15, none⟩ = some (.slice (some ⟨A 4, bs (E.ix i) E.k, none⟩) E.k E.k))
                (go_keep) (fail)
              have cky : Ck E A dn X (w4.alloc (.cells #[.slice (some ⟨A 0, bs (E.ix i) E.k, none⟩) E.k E.k, .slice (some ⟨A 1, bs (E.ix i) E.k, none⟩) E.k E.k, .slice (some ⟨A 2, bs (E.ix i) E.k, none⟩) E.k E.k, .slice (some ⟨A 3, bs (E.ix i) E.k, none⟩) E.k E.k, .slice (some ⟨A 4, bs (E.ix i) E.k, none⟩) E.k E.k] 42)).drew := ck4.below ((Below.refl _ _).alloc (Nat.le_refl _) _).drew
              have hy : ∀ j, j < 5 → (w4.alloc (.cells #[.slice (some ⟨A 0, bs (E.ix i) E.k, none⟩) E.k E.k, .slice (some ⟨A 1, bs (E.ix i) E.k, none⟩) E.k E.k, .slice (some ⟨A 2, bs (E.ix i) E.k, none⟩) E.k E.k, .slice (some ⟨A 3, bs (E.ix i) E.k, none⟩) E.k E.k, .slice (some ⟨A 4, bs (E.ix i) E.k, none⟩) E.k E.k] 42)).drew.cell? ⟨w4.heap.size, j, none⟩ = some (.slice (some ⟨A j, bs (E.ix i) E.k, none⟩) E.k E.k) := five _ (by simp) (by simp) (by simp) (by simp) (by simp)
              have hyl : w4.heap.size < (w4.alloc (.cells #[.slice (some ⟨A 0, bs (E.ix i) E.k, none⟩) E.k E.k, .slice (some ⟨A 1, bs (E.ix i) E.k, none⟩) E.k E.k, .slice (some ⟨A 2, bs (E.ix i) E.k, none⟩) E.k E.k, .slice (some ⟨A 3, bs (E.ix i) E.k, none⟩) E.k E.k, .slice (some ⟨A 4, bs (E.ix i) E.k, none⟩) E.k E.k] 42)).drew.heap.size := by show _ < (w4.alloc _).heap.size; simp
              generalize w4.heap.size = Y at hy hyl ⊢
              generalize (w4.alloc _).drew = w5 at cky hy hyl ⊢
              clear ck4 g0 g1 g2 g3 g4 hSl hne
              go_wp2
              go_loopw [21] (fun v wr => ∃ n : Nat, n ≤ 5 ∧ v = .int .i64 n ∧ Ck E A dn X wr ∧ Y < wr.heap.size ∧ ∀ j, j < 5 → wr.cell? ⟨Y, j, none⟩ = some (.slice (some ⟨A j, bs (E.ix i) E.k, none⟩) E.k E.k)) (fun v _ => 5 - (intOf v).toNat)
              case atStart => exact ⟨0, by omega, rfl, cky, hyl, hy⟩
              case round =>
                clear cky hyl hy
                obtain ⟨j, hj, rfl, ck, hyl, hy⟩ := hrel
                by_cases hlj : j < 5
                · have yj := hy j hlj
                  have gj := ck.row j hlj
                  have ci := ck.pl.idx i hlt
                  have hbx := bs_cast (E.ix i) E.k
                  have hbxl : bs (E.ix i) E.k ≤ 160 := bs_le (by omega) hk4
                  have hfit := bs_fits (k := E.k) hixl
                  have hlt1 : bs (E.ix i) E.k < bs E.m E.k := by omega
                  have q43 := neq43
                  go_wp2_with fail
                  go_quiet (fail)
                  clear q43
                  go_wp2_with fail
                  have ck6 : Ck E A dn X (wr.drewN nq) := ck.below (below_drewN (Below.refl _ _) nq)
                  have hy6 : ∀ j, j < 5 → (wr.drewN nq).cell? ⟨Y, j, none⟩ = some (.slice (some ⟨A j, bs (E.ix i) E.k, none⟩) E.k E.k) := hy
                  have hyl6 : Y < (wr.drewN nq).heap.size := hyl
                  generalize wr.drewN nq = w6 at ck6 hy6 hyl6 ⊢
                  clear ck hyl hy yj gj ci
                  have hdj : decide ((j : Int) < 5) = true := by simp; omega
                  simp only [hdj]
                  go_loopw [24] (fun v wr => ∃ n : Nat, n ≤ E.k ∧ v = .int .i64 n ∧ Ck E A dn X wr ∧ Y < wr.heap.size ∧ ∀ j, j < 5 → wr.cell? ⟨Y, j, none⟩ = some (.slice (some ⟨A j, bs (E.ix i) E.k, none⟩) E.k E.k)) (fun v _ => E.k - (intOf v).toNat)
                  case atStart => exact ⟨0, by omega, rfl, ck6, hyl6, hy6⟩
                  case round =>
                    clear ck6 hyl6 hy6
                    obtain ⟨r, hr, rfl, ck, hyl, hy⟩ := hrel
                    by_cases hlr : r < E.k
                    · have gj := ck.row j hlj
                      have vr := (ck.pl.slots i j hlt hlj (hall i j hlt hlj)).vals r hlr
                      have hlt2 : bs (E.ix i) E.k + r < bs E.m E.k := by omega
                      have hV := hH.out.2.2
                      have hVal := fun W bel => valE ok a len cap z hV hl hv W bel i j r hlt hlj hlr
                      clear hV
                      go_wp2_with (go_at_call 6; refine (hVal _ ck.pl.bel).mono ?_; rintro e _ ⟨rfl, rfl⟩)
                      refine ⟨?rel, ?measure⟩
                      case rel => exact ⟨r + 1, by omega, by go_num, ck, hyl, hy⟩
                      case measure => simp [intOf]; omega
                    · obtain rfl : r = E.k := by omega
                      go_wp2
                      refine ⟨?rel, ?measure⟩
                      case rel => exact ⟨j + 1, by omega, by go_num, ck, hyl, hy⟩
                      case measure => simp [intOf]; omega
                · obtain rfl : j = 5 := by omega
                  go_wp2
                  refine ⟨?_, ?measure⟩
                  (repeat apply Exists.intro)
                  refine ⟨?rel, rfl⟩
                  case rel => exact ⟨i + 1, by omega, by go_num, ck⟩
                  case measure => simp [intOf]; omega
            · obtain rfl : i = E.m := by omega
              go_wp2
              go_ret
              exact ⟨rfl, ck.pl.bel⟩
end Go.Proofs.Ybulkbxau.lawS3673ALayout
