/-
  THE WALK of 'codec.LawS3665BDecode' (4).
-/
import Derived.Test.YbulkbwwmFmtReader
import Derived.WalkKit
import Derived.RowKitTokens
import Derived.WalkSpells
import Derived.WalkSmall
import Derived.Deep.QuietTactic
import Derived.BigQuiet
import Derived.LaidEqlPtr
import Derived.Stop.IfaceNil
namespace Go.Proofs.YbulkbwwmFmt
open Go.WideShapes (add_plain)
open Go.RowKit Go.Extern.Stop Go.Stop Go.Extern
set_option linter.unusedVariables false

structure UvOut (w w' : World) (rb : Nat) (bv ev : Value) : Prop where
  b : w'.cell? ⟨rb, 0, none⟩ = some bv
  e : w'.cell? ⟨rb, 1, none⟩ = some ev
  bel : Below rb w w'

theorem uvout_set (w : World) (rb : Nat) (bv v ev : Value) (hb : w.cell? ⟨rb, 0, none⟩ = some v) (he : w.cell? ⟨rb, 1, none⟩ = some ev) : UvOut w (w.setCell ⟨rb, 0, none⟩ bv) rb bv ev :=
  ⟨World.cell?_setCell_same _ _ _ hb, by rw [World.cell?_setCell_other _ _ _ _ (by simp)]; exact he, (Below.refl _ _).setCell (p := ⟨rb, 0, none⟩) (Nat.le_refl rb) _⟩

theorem uv_ok' (b off len cap rb : Nat) (w : World) (hcap : len ≤ cap) (hmax : cap ≤ 9223372036854775807) (ev : Value)
    (hb : w.cell? ⟨rb, 0, none⟩ = some (.slice (some ⟨b, off, none⟩) len cap)) (he : w.cell? ⟨rb, 1, none⟩ = some ev) (f0 : w.frozen? ⟨rb, 0, none⟩ = false) (v : Int) (n : Nat) (hn : 0 < n) (hnl : n ≤ len)
    (h30 : Calls Ybaf.prog 30 #[.slice (some ⟨b, off, none⟩) len cap] w fun e w' => e = .returned (.tuple #[.int .u64 v, .int .i64 n]) ∧ w' = w) :
    Calls Ybaf.prog 11 #[.pointer (some ⟨rb, 0, none⟩)] w fun e w' => e = .returned (.int .u64 v) ∧ ∃ a, UvOut w w' rb (.slice (some a) (len - n) (cap - n)) ev ∧ (0 < len - n → a = ⟨b, off + n, none⟩) := by
  refine (uv_ok b off len cap rb w hcap hmax hb f0 v n hn hnl h30).mono ?_
  rintro e w' ⟨rfl, a, rfl, ha⟩
  exact ⟨rfl, a, uvout_set w rb _ _ ev hb he, ha⟩

theorem uv_bad_pre' (a : Option Addr) (len cap rb : Nat) (w : World) (p : Addr) (he : w.cell? ⟨rb, 1, none⟩ = some (.iface 72 (.pointer (some p))))
    (hb : w.cell? ⟨rb, 0, none⟩ = some (.slice a len cap)) (f0 : w.frozen? ⟨rb, 0, none⟩ = false) (x n : Int) (hn : n ≤ 0)
    (h30 : Calls Ybaf.prog 30 #[.slice a len cap] w fun e w' => e = .returned (.tuple #[.int .u64 x, .int .i64 n]) ∧ w' = w) :
    Calls Ybaf.prog 11 #[.pointer (some ⟨rb, 0, none⟩)] w fun e w' => e = .returned (.int .u64 0) ∧ UvOut w w' rb (.slice none 0 0) (.iface 72 (.pointer (some p))) := by
  refine (uv_bad_pre a len cap rb w p he hb f0 x n hn h30).mono ?_
  rintro e w' ⟨rfl, rfl⟩
  exact ⟨rfl, uvout_set w rb _ _ _ hb he⟩

theorem uv_bad_nil' (F : Interp) (a : Option Addr) (len cap rb : Nat) (w : World) (hF : F.answers w.tape) (he : w.cell? ⟨rb, 1, none⟩ = some .nilIface)
    (hb : w.cell? ⟨rb, 0, none⟩ = some (.slice a len cap)) (f0 : w.frozen? ⟨rb, 0, none⟩ = false) (f1 : w.frozen? ⟨rb, 1, none⟩ = false) (hlt : rb < w.heap.size) (x n : Int) (hn : n ≤ 0)
    (h30 : Calls Ybaf.prog 30 #[.slice a len cap] w fun e w' => e = .returned (.tuple #[.int .u64 x, .int .i64 n]) ∧ w' = w) :
    Calls Ybaf.prog 11 #[.pointer (some ⟨rb, 0, none⟩)] w fun e w' => e = .returned (.int .u64 0) ∧ ∃ q, UvOut w w' rb (.slice none 0 0) (.iface 72 (.pointer (some q))) := by
  refine (uv_bad_nil F a len cap rb w hF he hb f0 f1 hlt x n hn h30).mono ?_
  rintro e w' ⟨rfl, s, t, rfl⟩
  refine ⟨rfl, ⟨w.heap.size + 1, 0, none⟩, ?_, ?_, ?_⟩
  · rw [World.cell?_drew, World.cell?_alloc_lt _ _ _ (by simp; omega), World.cell?_alloc_lt _ _ _ (by simp; omega)]
    exact World.cell?_setCell_same _ _ _ (u := .slice a len cap) (by rw [World.cell?_setCell_other _ _ _ _ (by simp)]; exact hb)
  · rw [World.cell?_drew, World.cell?_alloc_lt _ _ _ (by simp; omega), World.cell?_alloc_lt _ _ _ (by simp; omega), World.cell?_setCell_other _ _ _ _ (by simp)]
    exact World.cell?_setCell_same _ _ _ he
  · have h1 := (Below.refl rb w).setCell (p := ⟨rb, 1, none⟩) (Nat.le_refl rb) (.iface 72 (.pointer (some ⟨w.heap.size + 1, 0, none⟩)))
    have h2 := h1.setCell (p := ⟨rb, 0, none⟩) (Nat.le_refl rb) (.slice none 0 0)
    exact ((h2.alloc (by simp; omega) _).alloc (by simp; omega) _).drew

theorem dec_pos : ∀ (l : List Int) (X : Int) (k : Nat), 0 < (dec X k l).2 → (k : Int) < (dec X k l).2 ∧ (dec X k l).2 ≤ k + l.length
  | [], _, _, h => by simp [dec] at h
  | c :: r, X, k, h => by
    unfold dec at h ⊢
    by_cases h1 : k = 10
    · rw [if_pos h1] at h; simp at h; omega
    · rw [if_neg h1] at h ⊢
      by_cases h2 : c < 128
      · rw [if_pos h2] at h ⊢
        by_cases h3 : k = 9 ∧ 1 < c
        · rw [if_pos h3] at h; simp at h; omega
        · rw [if_neg h3]; simp; omega
      · rw [if_neg h2] at h ⊢
        have := dec_pos r _ (k + 1) h
        simp; omega

theorem info5 : (Ybaf.prog.info? 5).map (fun i => (i.zero, i.size, i.bytes)) = some (some (.int .u8 0), 1, 1) := by kernel_rfl

theorem app44 (w : World) {ops : Array Oper} {rest : List Oper} {o : Oper} {a : Act} {Q : Exit → Act → World → Prop} (hgd : o.guard = none) (s x : Operand)
    (ho : o.op = .call { callee := .builtin .append, args := #[s, x], argTypes := #[44, 44] }) (base : Nat)
    (v : Value) (n : Nat) (xs : List Value) (hs : a.eval s = v) (hown : w.ownsRow base 5 1 v n xs)
    (ad : Addr) (m c : Nat) (ns : List Int) (hx : a.eval x = .slice (some ad) m c) (hl : ns.length = m) (hnews : ∀ j, j < m → w.cell? (ad.add j) = some (.int .u8 (ns.getD j 0)))
    (hbytes : n + m ≤ 140737488355328) (hbase : base ≤ w.heap.size)
    (h : ∀ v' w', w'.ownsRow base 5 1 v' (n + m) (xs ++ ns.map (Value.int .u8)) → w.grownBy w' v.ownBlock → (v' = .slice none 0 0 ↔ v = .slice none 0 0 ∧ m = 0) → wpList Ybaf.prog ops Q rest (a.put o.dst v') w') : wpList Ybaf.prog ops Q (o :: rest) a w := by
  obtain ⟨i0, hi, hz0, hz1, hz2⟩ := info_parts info5
  refine wpList_append_own w hgd s x 44 ho base 5 i0 (.int .u8 0) 1 1 Ybaf.underlying44 hi hz0 hz1 hz2 rfl (by decide) v n xs hs hown ad m c (ns.map (Value.int .u8)) hx (by simp [hl]) (fun j u hj => ?_) (fun u hu => ?_) (by unfold maxLen; omega) (by omega) hbase h
  · rw [List.getElem?_map] at hj
    cases he : ns[j]? with
    | none => rw [he] at hj; simp at hj
    | some z =>
      rw [he] at hj
      simp at hj
      have hjm : j < m := by have := (List.getElem?_eq_some_iff.1 he).1; omega
      rw [hnews j hjm, ← hj]; simp [he]
  · simp at hu
    obtain ⟨z, _, rfl⟩ := hu
    rfl

theorem own_shape {w1 : World} {B len : Nat} {v : Value} {zs : List Int} (h : w1.ownsRow B 5 1 v len (List.take len (List.map (Value.int .u8) zs))) (hp : 0 < len) (hz : len ≤ zs.length) :
    ∃ g c, v = .slice (some ⟨g, 0, none⟩) len c ∧ B ≤ g ∧ g < w1.heap.size ∧ len ≤ c ∧ c ≤ 9223372036854775807 ∧ ∀ j, j < len → w1.cell? ⟨g, j, none⟩ = some (.int .u8 (zs.getD j 0)) := by
  rcases h.2 with ⟨_, h0⟩ | ⟨g, c, cur, hv, hb, hg, hnc, hcm, hcs, htake⟩
  · omega
  · subst hv
    refine ⟨g, c, rfl, hb, (Array.getElem?_eq_some_iff.1 hg).1, hnc, by unfold maxLen at hcm; omega, fun j hj => ?_⟩
    rw [h.cellAt j (by omega)]
    have hjz : j < zs.length := by omega
    simp [hj, hjz]

theorem cell2n {w : World} {A : Obj} {C : Array Value} {t : Nat} (j : Nat) : ((w.alloc A).alloc (.cells C t)).cell? ⟨w.heap.size + 1, j, none⟩ = C[j]? := by
  simp
theorem frozen2n {w : World} {A : Obj} {C : Array Value} {t : Nat} (j : Nat) : ((w.alloc A).alloc (.cells C t)).frozen? ⟨w.heap.size + 1, j, none⟩ = false := by
  simp
theorem below2 {w w1 : World} (h : Below w.heap.size w w1) (A C : Obj) : Below w.heap.size w ((w1.alloc A).alloc C) := (h.alloc h.size _).alloc (by have := h.size; simp; omega) _
theorem belowL (w1 : World) (A C : Obj) : Below w1.heap.size w1 ((w1.alloc A).alloc C) := ((Below.refl _ _).alloc (Nat.le_refl _) _).alloc (by simp) _

theorem eqErr (w : World) (a : Addr) : (binOp .eql 53 (.iface 72 (.pointer (some a))) (.iface 72 (.pointer (some a)))).run Ybaf.prog w = .ok (.bool true) w := by
  have h1 : (Ybaf.prog.info? 72).map (·.comparable) = some true := by kernel_rfl
  have h2 : (Ybaf.prog.info? 74).isSome = true := by kernel_rfl
  obtain ⟨j, hj⟩ := Option.isSome_iff_exists.1 h2
  cases hi : Ybaf.prog.info? 72 with
  | none => rw [hi] at h1; cases h1
  | some i =>
    rw [hi] at h1
    exact run_eql_iface_ptr_same w a Ybaf.underlying53 Ybaf.underlying72 hi (by simpa using h1) hj
theorem neqPtr (w : World) (a : Addr) : (binOp .neq 62 (.pointer (some a)) (.pointer (some a))).run Ybaf.prog w = .ok (.bool false) w := by
  have h2 : (Ybaf.prog.info? 5).isSome = true := by kernel_rfl
  obtain ⟨j, hj⟩ := Option.isSome_iff_exists.1 h2
  have h : ∀ d : Nat, (Op.equalIn (d + 1) 62 (.pointer (some a)) (.pointer (some a))).run Ybaf.prog w = .ok true w := fun d => by
    simp [Op.equalIn, run_underlying Ybaf.underlying62, sizeOf, typeInfo, hj, run_sameAddr_same]
  simp only [binOp]
  simp [Op.equal, Op.maxDepth, h 9999]

set_option maxHeartbeats 1600000 in
theorem decode_pre (F : Interp) (b off len cap : Nat) (zs : List Int) (w : World) (hF : F.answers w.tape) (hpos : 0 < len) (hz : len ≤ zs.length) (hlen : len ≤ 1024) (hbl : b < w.heap.size)
    (hc : ∀ j, j < len → w.cell? ⟨b, off + j, none⟩ = some (.int .u8 (zs.getD j 0)))
    (hr : ∀ j : Nat, 0 ≤ zs[j]?.getD 0 ∧ zs[j]?.getD 0 ≤ 255) :
    Calls Ybaf.prog 4 #[.slice (some ⟨b, off, none⟩) len cap, .bool true] w fun e w' => e = .returned (.bool true) ∧ Below w.heap.size w w' := by
  have hl1024 : (len : Int) ≤ 1024 := by omega
  have qe := eqErr
  have qp := neqPtr
  go_enter Ybaf.func4, Ybaf.ntmps4
  go_wp2_with (first | (at_builtin; refine app44 _ rfl (.const (.slice none 0 0)) (.tmp 15) rfl w.heap.size _ 0 [] rfl (World.ownsRow_nil _ _ _ _) ⟨b, off, none⟩ len cap (zs.take len) rfl ?c0 ?c1 (by omega) (Nat.le_refl _) ?_) | (go_at_call 10; refine (new10 _ _).mono ?_; rintro e w' ⟨rfl, rfl⟩))
  case c0 => simp; omega
  case c1 => intro j hj; rw [add_plain]; rw [hc j hj]; simp [hj]
  intro v' w1 hown hgrow hnil
  clear hnil
  obtain ⟨g, c, hv, hgB, hgl, hcl, hcm, hcg⟩ := own_shape hown hpos hz
  have hb1 : Below w.heap.size w w1 := (Below.refl _ _).grown hgrow (Nat.le_refl _) (by simp [Value.ownBlock])
  rw [hv]
  clear hv hown hgrow
  have hs1 := hb1.size
  go_wp2_with (go_at_call 10; refine (new10 _ _).mono ?_; rintro e w' ⟨rfl, rfl⟩)
  by_cases hd : (dec 0 0 (zs.take len)).2 ≤ 0
  · refine (uv_bad_pre' (some ⟨g, 0, none⟩) len c (w1.heap.size + 1) _ ⟨w1.heap.size, 0, none⟩ ((cell2n 1).trans rfl) ((cell2n 0).trans rfl) (frozen2n 0) _ _ hd (dec30 g 0 len c zs _ hz (by omega) (fun j hj => by rw [Nat.zero_add]; exact ((belowL w1 _ _).cell (by exact hgl)).trans (hcg j hj)) hr)).mono ?_
    rintro e w2 ⟨rfl, c0, c1, bel⟩
    have cg2 : ∀ j, j < len → w2.cell? ⟨g, j, none⟩ = some (.int .u8 (zs.getD j 0)) := fun j hj => (bel.cell (by show g < _; omega)).trans (((belowL w1 _ _).cell (by exact hgl)).trans (hcg j hj))
    have cb2 : ∀ j, j < len → w2.cell? ⟨b, off + j, none⟩ = some (.int .u8 (zs.getD j 0)) := fun j hj => (bel.cell (by show b < _; omega)).trans ((below2 hb1 _ _).cell (by exact hbl) |>.trans (hc j hj))
    have bel2 : Below w.heap.size w w2 := (below2 hb1 _ _).trans (bel.mono (by omega))
    clear bel hb1
    go_wp2_with fail
    go_loopw [9] (fun i wr => ∃ k m : Nat, k ≤ len ∧ i = .int .i64 k ∧ wr = w2.drewN m) (fun i _ => len - (intOf i).toNat)
    case atStart => exact ⟨0, 0, by omega, rfl, rfl⟩
    case round =>
      obtain ⟨k, m, hk, rfl, rfl⟩ := hrel
      by_cases hlt : k < len
      · have q1 := cg2 k hlt
        have q2 := cb2 k hlt
        clear cg2 cb2 c0 c1 bel2 hr hc hcg
        go_wp2_with fail
        go_quiet (fail)
        go_wp2_with fail
        go_roundw
        case rel => exact ⟨k + 1, _, by omega, by go_num, rfl⟩
        case measure => simp [intOf]; omega
      · clear cg2 hc hcg
        obtain ⟨v, hv⟩ : ∃ v, (dec 0 0 (zs.take len)).1 = v := ⟨_, rfl⟩
        obtain ⟨d, hd'⟩ : ∃ d, (dec 0 0 (zs.take len)).2 = d := ⟨_, rfl⟩
        have h12 := dec12 b off len cap zs (w2.drewN m) hz (by omega) cb2 hr
        rw [hv, hd'] at h12
        rw [hd'] at hd
        clear cb2 hr hv hd'
        go_wp2_with (first | (go_at_call 12; refine h12.mono ?_; rintro e w' ⟨rfl, rfl⟩) | (go_at_call 13; refine (len13 (w1.heap.size + 1) none 0 0 _ (by simpa using c0)).mono ?_; rintro e w' ⟨rfl, rfl⟩))
        go_ret
        exact ⟨rfl, below_drewN bel2 _⟩

  · obtain ⟨n, hn⟩ : ∃ n : Nat, (dec 0 0 (zs.take len)).2 = n := ⟨(dec 0 0 (zs.take len)).2.toNat, by omega⟩
    have hdp := dec_pos (zs.take len) 0 0 (by omega)
    have hlz : (zs.take len).length = len := by simp; omega
    have hn0 : 0 < n := by omega
    have hnl : n ≤ len := by omega
    have h30 := dec30 g 0 len c zs ((w1.alloc (.cells #[.string { data := #[122, 122] }] 74)).alloc (.cells #[.slice (some ⟨g, 0, none⟩) len c, .iface 72 (.pointer (some ⟨w1.heap.size, 0, none⟩))] 57)) hz (by omega) (fun j hj => by rw [Nat.zero_add]; exact ((belowL w1 _ _).cell (by exact hgl)).trans (hcg j hj)) hr
    have h12 := fun w2 : World => dec12 b off len cap zs w2 hz (by omega)
    rw [hn] at h30
    simp only [hn] at h12
    obtain ⟨v, hv⟩ : ∃ v, (dec 0 0 (zs.take len)).1 = v := ⟨_, rfl⟩
    rw [hv] at h30
    simp only [hv] at h12
    refine (uv_ok' g 0 len c (w1.heap.size + 1) _ hcl hcm _ ((cell2n 0).trans rfl) ((cell2n 1).trans rfl) (frozen2n 0) v n hn0 hnl h30).mono ?_
    rintro e w2 ⟨rfl, a, ⟨c0, c1, bel⟩, ha⟩
    have cg2 : ∀ j, j < len → w2.cell? ⟨g, j, none⟩ = some (.int .u8 (zs.getD j 0)) := fun j hj => (bel.cell (by show g < _; omega)).trans (((belowL w1 _ _).cell (by exact hgl)).trans (hcg j hj))
    have cb2 : ∀ j, j < len → w2.cell? ⟨b, off + j, none⟩ = some (.int .u8 (zs.getD j 0)) := fun j hj => (bel.cell (by show b < _; omega)).trans ((below2 hb1 _ _).cell (by exact hbl) |>.trans (hc j hj))
    have bel2 : Below w.heap.size w w2 := (below2 hb1 _ _).trans (bel.mono (by omega))
    clear bel hb1 h30 hv hn hd hdp hlz
    go_wp2_with fail
    go_loopw [9] (fun i wr => ∃ k m : Nat, k ≤ len ∧ i = .int .i64 k ∧ wr = w2.drewN m) (fun i _ => len - (intOf i).toNat)
    case atStart => exact ⟨0, 0, by omega, rfl, rfl⟩
    case round =>
      obtain ⟨k, m, hk, rfl, rfl⟩ := hrel
      by_cases hlt : k < len
      · have q1 := cg2 k hlt
        have q2 := cb2 k hlt
        clear cg2 cb2 c0 c1 bel2 hr hc hcg ha h12
        go_wp2_with fail
        go_quiet (fail)
        go_wp2_with fail
        go_roundw
        case rel => exact ⟨k + 1, _, by omega, by go_num, rfl⟩
        case measure => simp [intOf]; omega
      · clear cg2 hc hcg
        have h12' := h12 (w2.drewN m) cb2 hr
        clear cb2 hr h12
        by_cases hrest : 0 < len - n
        · obtain rfl := ha hrest
          have hnn : n < len := by omega
          have hb0 : (0 : Int) < (len - n : Nat) := by omega
          have hb1 : (n : Int) < len := by omega
          go_wp2_with (first | (go_at_call 12; refine h12'.mono ?_; rintro e w' ⟨rfl, rfl⟩) | (go_at_call 13; refine (len13 (w1.heap.size + 1) _ (len - n) (c - n) _ (by simpa using c0)).mono ?_; rintro e w' ⟨rfl, rfl⟩))
          go_quiet (fail)
          go_wp2
          go_ret
          exact ⟨rfl, below_drewN bel2 _⟩
        · have hle : len - n = 0 := by omega
          rw [hle] at c0
          have hd0 : decide ((0 : Int) < (0 : Nat)) = false := rfl
          have hll : (len : Int) - n = 0 := by omega
          go_wp2_with (first | (go_at_call 12; refine h12'.mono ?_; rintro e w' ⟨rfl, rfl⟩) | (go_at_call 13; refine (len13 (w1.heap.size + 1) _ 0 (c - n) _ (by simpa using c0)).mono ?_; rintro e w' ⟨rfl, rfl⟩))
          go_quiet (fail)
          go_wp2
          go_ret
          exact ⟨rfl, below_drewN bel2 _⟩

set_option maxHeartbeats 1600000 in
theorem decode_nil (F : Interp) (b off len cap : Nat) (zs : List Int) (w : World) (hF : F.answers w.tape) (hpos : 0 < len) (hz : len ≤ zs.length) (hlen : len ≤ 1024) (hbl : b < w.heap.size)
    (hc : ∀ j, j < len → w.cell? ⟨b, off + j, none⟩ = some (.int .u8 (zs.getD j 0)))
    (hr : ∀ j : Nat, 0 ≤ zs[j]?.getD 0 ∧ zs[j]?.getD 0 ≤ 255) :
    Calls Ybaf.prog 4 #[.slice (some ⟨b, off, none⟩) len cap, .bool false] w fun e w' => e = .returned (.bool true) ∧ Below w.heap.size w w' := by
  have hl1024 : (len : Int) ≤ 1024 := by omega
  have qe := eqErr
  have qp := neqPtr
  go_enter Ybaf.func4, Ybaf.ntmps4
  go_wp2_with (first | (at_builtin; refine app44 _ rfl (.const (.slice none 0 0)) (.tmp 15) rfl w.heap.size _ 0 [] rfl (World.ownsRow_nil _ _ _ _) ⟨b, off, none⟩ len cap (zs.take len) rfl ?c0 ?c1 (by omega) (Nat.le_refl _) ?_) | (go_at_call 10; refine (new10 _ _).mono ?_; rintro e w' ⟨rfl, rfl⟩))
  case c0 => simp; omega
  case c1 => intro j hj; rw [add_plain]; rw [hc j hj]; simp [hj]
  intro v' w1 hown hgrow hnil
  clear hnil
  obtain ⟨g, c, hv, hgB, hgl, hcl, hcm, hcg⟩ := own_shape hown hpos hz
  have hb1 : Below w.heap.size w w1 := (Below.refl _ _).grown hgrow (Nat.le_refl _) (by simp [Value.ownBlock])
  rw [hv]
  clear hv hown hgrow
  have hs1 := hb1.size
  go_wp2_with (go_at_call 10; refine (new10 _ _).mono ?_; rintro e w' ⟨rfl, rfl⟩)
  by_cases hd : (dec 0 0 (zs.take len)).2 ≤ 0
  · refine (uv_bad_nil' F (some ⟨g, 0, none⟩) len c (w1.heap.size + 1) _ (by rw [(below2 (Below.refl _ _) _ _).tape]; rw [hb1.tape]; exact hF) ((cell2n 1).trans rfl) ((cell2n 0).trans rfl) (frozen2n 0) (frozen2n 1) (by simp) _ _ hd (dec30 g 0 len c zs _ hz (by omega) (fun j hj => by rw [Nat.zero_add]; exact ((belowL w1 _ _).cell (by exact hgl)).trans (hcg j hj)) hr)).mono ?_
    rintro e w2 ⟨rfl, q, c0, c1, bel⟩
    have cg2 : ∀ j, j < len → w2.cell? ⟨g, j, none⟩ = some (.int .u8 (zs.getD j 0)) := fun j hj => (bel.cell (by show g < _; omega)).trans (((belowL w1 _ _).cell (by exact hgl)).trans (hcg j hj))
    have cb2 : ∀ j, j < len → w2.cell? ⟨b, off + j, none⟩ = some (.int .u8 (zs.getD j 0)) := fun j hj => (bel.cell (by show b < _; omega)).trans ((below2 hb1 _ _).cell (by exact hbl) |>.trans (hc j hj))
    have bel2 : Below w.heap.size w w2 := (below2 hb1 _ _).trans (bel.mono (by omega))
    clear bel hb1
    go_wp2_with fail
    go_loopw [9] (fun i wr => ∃ k m : Nat, k ≤ len ∧ i = .int .i64 k ∧ wr = w2.drewN m) (fun i _ => len - (intOf i).toNat)
    case atStart => exact ⟨0, 0, by omega, rfl, rfl⟩
    case round =>
      obtain ⟨k, m, hk, rfl, rfl⟩ := hrel
      by_cases hlt : k < len
      · have q1 := cg2 k hlt
        have q2 := cb2 k hlt
        clear cg2 cb2 c0 c1 bel2 hr hc hcg
        go_wp2_with fail
        go_quiet (fail)
        go_wp2_with fail
        go_roundw
        case rel => exact ⟨k + 1, _, by omega, by go_num, rfl⟩
        case measure => simp [intOf]; omega
      · clear cg2 hc hcg
        obtain ⟨v, hv⟩ : ∃ v, (dec 0 0 (zs.take len)).1 = v := ⟨_, rfl⟩
        obtain ⟨d, hd'⟩ : ∃ d, (dec 0 0 (zs.take len)).2 = d := ⟨_, rfl⟩
        have h12 := dec12 b off len cap zs (w2.drewN m) hz (by omega) cb2 hr
        rw [hv, hd'] at h12
        rw [hd'] at hd
        clear cb2 hr hv hd'
        go_wp2_with (first | (go_at_call 12; refine h12.mono ?_; rintro e w' ⟨rfl, rfl⟩) | (go_at_call 13; refine (len13 (w1.heap.size + 1) none 0 0 _ (by simpa using c0)).mono ?_; rintro e w' ⟨rfl, rfl⟩))
        go_ret
        exact ⟨rfl, below_drewN bel2 _⟩

  · obtain ⟨n, hn⟩ : ∃ n : Nat, (dec 0 0 (zs.take len)).2 = n := ⟨(dec 0 0 (zs.take len)).2.toNat, by omega⟩
    have hdp := dec_pos (zs.take len) 0 0 (by omega)
    have hlz : (zs.take len).length = len := by simp; omega
    have hn0 : 0 < n := by omega
    have hnl : n ≤ len := by omega
    have h30 := dec30 g 0 len c zs ((w1.alloc (.cells #[.string { data := #[122, 122] }] 74)).alloc (.cells #[.slice (some ⟨g, 0, none⟩) len c, .nilIface] 57)) hz (by omega) (fun j hj => by rw [Nat.zero_add]; exact ((belowL w1 _ _).cell (by exact hgl)).trans (hcg j hj)) hr
    have h12 := fun w2 : World => dec12 b off len cap zs w2 hz (by omega)
    rw [hn] at h30
    simp only [hn] at h12
    obtain ⟨v, hv⟩ : ∃ v, (dec 0 0 (zs.take len)).1 = v := ⟨_, rfl⟩
    rw [hv] at h30
    simp only [hv] at h12
    refine (uv_ok' g 0 len c (w1.heap.size + 1) _ hcl hcm _ ((cell2n 0).trans rfl) ((cell2n 1).trans rfl) (frozen2n 0) v n hn0 hnl h30).mono ?_
    rintro e w2 ⟨rfl, a, ⟨c0, c1, bel⟩, ha⟩
    have cg2 : ∀ j, j < len → w2.cell? ⟨g, j, none⟩ = some (.int .u8 (zs.getD j 0)) := fun j hj => (bel.cell (by show g < _; omega)).trans (((belowL w1 _ _).cell (by exact hgl)).trans (hcg j hj))
    have cb2 : ∀ j, j < len → w2.cell? ⟨b, off + j, none⟩ = some (.int .u8 (zs.getD j 0)) := fun j hj => (bel.cell (by show b < _; omega)).trans ((below2 hb1 _ _).cell (by exact hbl) |>.trans (hc j hj))
    have bel2 : Below w.heap.size w w2 := (below2 hb1 _ _).trans (bel.mono (by omega))
    clear bel hb1 h30 hv hn hd hdp hlz
    go_wp2_with fail
    go_loopw [9] (fun i wr => ∃ k m : Nat, k ≤ len ∧ i = .int .i64 k ∧ wr = w2.drewN m) (fun i _ => len - (intOf i).toNat)
    case atStart => exact ⟨0, 0, by omega, rfl, rfl⟩
    case round =>
      obtain ⟨k, m, hk, rfl, rfl⟩ := hrel
      by_cases hlt : k < len
      · have q1 := cg2 k hlt
        have q2 := cb2 k hlt
        clear cg2 cb2 c0 c1 bel2 hr hc hcg ha h12
        go_wp2_with fail
        go_quiet (fail)
        go_wp2_with fail
        go_roundw
        case rel => exact ⟨k + 1, _, by omega, by go_num, rfl⟩
        case measure => simp [intOf]; omega
      · clear cg2 hc hcg
        have h12' := h12 (w2.drewN m) cb2 hr
        clear cb2 hr h12
        by_cases hrest : 0 < len - n
        · obtain rfl := ha hrest
          have hnn : n < len := by omega
          have hb0 : (0 : Int) < (len - n : Nat) := by omega
          have hb1 : (n : Int) < len := by omega
          go_wp2_with (first | (go_at_call 12; refine h12'.mono ?_; rintro e w' ⟨rfl, rfl⟩) | (go_at_call 13; refine (len13 (w1.heap.size + 1) _ (len - n) (c - n) _ (by simpa using c0)).mono ?_; rintro e w' ⟨rfl, rfl⟩))
          go_quiet (fail)
          go_wp2
          go_ret
          exact ⟨rfl, below_drewN bel2 _⟩
        · have hle : len - n = 0 := by omega
          rw [hle] at c0
          have hd0 : decide ((0 : Int) < (0 : Nat)) = false := rfl
          have hll : (len : Int) - n = 0 := by omega
          go_wp2_with (first | (go_at_call 12; refine h12'.mono ?_; rintro e w' ⟨rfl, rfl⟩) | (go_at_call 13; refine (len13 (w1.heap.size + 1) _ 0 (c - n) _ (by simpa using c0)).mono ?_; rintro e w' ⟨rfl, rfl⟩))
          go_quiet (fail)
          go_wp2
          go_ret
          exact ⟨rfl, below_drewN bel2 _⟩


theorem app_empty (w : World) (ty : TypeId) (a : Option Addr) (cap : Nat) : (Builtin.append_ #[44, 44] ty #[.slice none 0 0, .slice a 0 cap]).run Ybaf.prog w = .ok (.slice none 0 0) w := by
  obtain ⟨i0, hi, hz0, hz1, hz2⟩ := info_parts info5
  cases a <;> simp [Builtin.append_, run_underlying Ybaf.underlying44, sizeOf, typeInfo, hi, Builtin.lenOf, Builtin.firstCells, loadCells, loadCellsFrom]

theorem app44_empty (w : World) {ops : Array Oper} {rest : List Oper} {o : Oper} {a : Act} {Q : Exit → Act → World → Prop} (hgd : o.guard = none) (s x : Operand)
    (ho : o.op = .call { callee := .builtin .append, args := #[s, x], argTypes := #[44, 44] }) (hs : a.eval s = .slice none 0 0) (ad : Option Addr) (c : Nat) (hx : a.eval x = .slice ad 0 c)
    (h : wpList Ybaf.prog ops Q rest (a.put o.dst (.slice none 0 0)) w) : wpList Ybaf.prog ops Q (o :: rest) a w := by
  refine wpList_plain hgd fun K hK => ?_
  have hrun := app_empty w o.type ad c
  unfold Oper.wp
  simp [execOp, ho, resolve, invoke, builtin, hs, hx, hrun, Result.andThen]
  exact hK _ _ h

theorem decode_empty_pre (a : Option Addr) (cap : Nat) (w : World) :
    Calls Ybaf.prog 4 #[.slice a 0 cap, .bool true] w fun e w' => e = .returned (.bool true) ∧ Below w.heap.size w w' := by
  have qe := eqErr
  go_enter Ybaf.func4, Ybaf.ntmps4
  go_wp2_with (first | (at_builtin; refine app44_empty _ rfl (.const (.slice none 0 0)) (.tmp 15) rfl rfl a cap rfl ?_) | (go_at_call 10; refine (new10 _ _).mono ?_; rintro e w' ⟨rfl, rfl⟩))
  refine (uv_bad_pre' none 0 0 (w.heap.size + 1) _ ⟨w.heap.size, 0, none⟩ ((cell2n 1).trans rfl) ((cell2n 0).trans rfl) (frozen2n 0) 0 0 (by omega) (dec30_empty _ _ _)).mono ?_
  rintro e w2 ⟨rfl, c0, c1, bel⟩
  have bel2 : Below w.heap.size w w2 := (belowL w _ _).trans (bel.mono (by omega))
  go_wp2_with fail
  refine wp_loop_rounds 1 ?_
  rw [rounds_succ]
  go_wp2_with (first | (go_at_call 12; refine (dec12_empty _ _ _).mono ?_; rintro e w' ⟨rfl, rfl⟩) | (go_at_call 13; refine (len13 (w.heap.size + 1) none 0 0 _ c0).mono ?_; rintro e w' ⟨rfl, rfl⟩))
  go_ret
  exact ⟨rfl, bel2⟩

theorem decode_empty_nil (F : Interp) (a : Option Addr) (cap : Nat) (w : World) (hF : F.answers w.tape) :
    Calls Ybaf.prog 4 #[.slice a 0 cap, .bool false] w fun e w' => e = .returned (.bool true) ∧ Below w.heap.size w w' := by
  go_enter Ybaf.func4, Ybaf.ntmps4
  go_wp2_with (first | (at_builtin; refine app44_empty _ rfl (.const (.slice none 0 0)) (.tmp 15) rfl rfl a cap rfl ?_) | (go_at_call 10; refine (new10 _ _).mono ?_; rintro e w' ⟨rfl, rfl⟩))
  refine (uv_bad_nil' F none 0 0 (w.heap.size + 1) _ (by exact hF) ((cell2n 1).trans rfl) ((cell2n 0).trans rfl) (frozen2n 0) (frozen2n 1) (by simp) 0 0 (by omega) (dec30_empty _ _ _)).mono ?_
  rintro e w2 ⟨rfl, q, c0, c1, bel⟩
  have bel2 : Below w.heap.size w w2 := (belowL w _ _).trans (bel.mono (by omega))
  go_wp2_with fail
  refine wp_loop_rounds 1 ?_
  rw [rounds_succ]
  go_wp2_with (first | (go_at_call 12; refine (dec12_empty _ _ _).mono ?_; rintro e w' ⟨rfl, rfl⟩) | (go_at_call 13; refine (len13 (w.heap.size + 1) none 0 0 _ c0).mono ?_; rintro e w' ⟨rfl, rfl⟩))
  go_ret
  exact ⟨rfl, bel2⟩

theorem decode_long (a : Option Addr) (len cap : Nat) (pre : Bool) (w : World) (h : 1024 < len) :
    Calls Ybaf.prog 4 #[.slice a len cap, .bool pre] w fun e w' => e = .returned (.bool true) ∧ Below w.heap.size w w' := by
  have hgt : (1024 : Int) < len := by omega
  go_enter Ybaf.func4, Ybaf.ntmps4
  go_wp2
  go_ret
  exact ⟨rfl, Below.refl _ _⟩
end Go.Proofs.YbulkbwwmFmt
