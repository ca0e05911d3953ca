/-
  THE WALKS of 'zzs3665bencode' (14) and 'codec.LawS3665BRoundTrip' (5).
-/
import Derived.Test.YbulkbwwmFmtRtPlain
import Derived.Test.YbulkbwwmFmtDecWalk
import Derived.Laws.Bits128
import Derived.Laws.AppendOwnNone
namespace Go.Proofs.YbulkbwwmFmt
open Go.WideShapes (add_plain)
open Go.RowKit Go.Extern.Stop Go.Stop Go.Extern
set_option linter.unusedVariables false

theorem app44_opt (w : World) {ops : Array Oper} {rest : List Oper} {o : Oper} {a : Act} {Q : Exit → Act → World → Prop} (hgd : o.guard = none) (s x : Operand)
    (ho : o.op = .call { callee := .builtin .append, args := #[s, x], argTypes := #[44, 44] }) (base : Nat)
    (v : Value) (n : Nat) (xs : List Value) (hs : a.eval s = v) (hown : w.ownsRow base 5 1 v n xs)
    (ad : Option Addr) (m c : Nat) (ns : List Int) (hx : a.eval x = .slice ad m c) (hl : ns.length = m) (hcase : (ad = none ∧ m = 0 ∧ c = 0) ∨ ∃ p, ad = some p ∧ ∀ j, j < m → w.cell? (p.add j) = some (.int .u8 (ns.getD j 0)))
    (hbytes : n + m ≤ 140737488355328) (hbase : base ≤ w.heap.size)
    (h : ∀ v' w', w'.ownsRow base 5 1 v' (n + m) (xs ++ ns.map (Value.int .u8)) → w.grownBy w' v.ownBlock → wpList Ybaf.prog ops Q rest (a.put o.dst v') w') : wpList Ybaf.prog ops Q (o :: rest) a w := by
  rcases hcase with ⟨rfl, rfl, rfl⟩ | ⟨p, rfl, hc⟩
  · obtain ⟨i0, hi, hz0, hz1, hz2⟩ := info_parts info5
    refine wpList_append_own_none hgd s x 44 ho base 5 i0 1 Ybaf.underlying44 hi v n xs hs hown hx (h v w ?_ ?_)
    · obtain rfl : ns = [] := List.length_eq_zero_iff.1 hl
      simpa using hown
    · exact ⟨rfl, rfl, rfl, Nat.le_refl _, fun _ _ _ => rfl⟩
  · exact app44 w hgd s x ho base v n xs hs hown p m c ns hx hl hc hbytes hbase fun v' w' h1 h2 _ => h v' w' h1 h2

theorem own_shape2 {w1 : World} {B n : Nat} {v : Value} {ns : List Int} (h : w1.ownsRow B 5 1 v n (ns.map (Value.int .u8))) (hp : 0 < n) :
    ns.length = n ∧ ∃ g c, v = .slice (some ⟨g, 0, none⟩) n c ∧ B ≤ g ∧ g < w1.heap.size ∧ n ≤ c ∧ c ≤ 9223372036854775807 ∧ ∀ j, j < n → w1.cell? ⟨g, j, none⟩ = some (.int .u8 (ns.getD j 0)) := by
  have hl : ns.length = n := by have := h.1; simpa using this
  refine ⟨hl, ?_⟩
  rcases h.2 with ⟨_, h0⟩ | ⟨g, c, cur, hv, hb, hg, hnc, hcm, hcs, htake⟩
  · omega
  · subst hv
    refine ⟨g, c, rfl, hb, (Array.getElem?_eq_some_iff.1 hg).1, hnc, by unfold maxLen at hcm; omega, fun j hj => ?_⟩
    rw [h.cellAt j (by omega)]
    have hjz : j < ns.length := by omega
    simp [hjz]

theorem enc_more (f : Nat) (y : Int) (h : 128 ≤ y) : encL (f + 1) y = (y % 128 + 128) :: encL f (y / 128) := by rw [encL, if_pos h]
theorem enc_last (f : Nat) (y : Int) (h : f = 0 ∨ y < 128) : encL f y = [y % 256] := by
  cases f with
  | zero => rfl
  | succ f => rw [encL, if_neg (by omega)]

theorem or128_all : ∀ a : Fin 256, (a.val ||| 128) = a.val % 128 + 128 := by decide +kernel
theorem or128 (y : Int) (h : 0 ≤ y) : bits .or .u8 (y % 256) 128 = y % 128 + 128 := by
  have h1 := u8_or (y % 256) 128 (by omega) (by omega) (by omega) (by omega)
  rw [h1]
  have h2 := or128_all ⟨(y % 256).toNat, by omega⟩
  simp only at h2
  rw [show ((128 : Int).toNat) = 128 from rfl, h2]
  omega
theorem one_cell (w : World) (c : Int) : ∀ j, j < 1 → (w.alloc (.cells #[.int .u8 c] 5)).cell? ((⟨w.heap.size, 0, none⟩ : Addr).add j) = some (.int .u8 ([c].getD j 0)) := by
  intro j hj
  obtain rfl : j = 0 := by omega
  rw [add_plain]
  simp
theorem bel_app {B : Nat} {w wr w1 : World} {o : Obj} {v : Value} {n : Nat} {xs : List Value} (hbel : Below B w wr) (hB : B ≤ wr.heap.size) (hown : wr.ownsRow B 5 1 v n xs) (hg : (wr.alloc o).grownBy w1 v.ownBlock) : Below B w w1 := by
  refine (hbel.alloc hB o).grown hg (by simp; omega) fun k hk => (hown.lt k hk).1

set_option maxHeartbeats 800000 in
theorem encode14 (x : Int) (w : World) (h0 : 0 ≤ x) (h1 : x ≤ 18446744073709551615) :
    Calls Ybaf.prog 14 #[.int .u64 x] w fun e w' => ∃ v, e = .returned v ∧ w'.ownsRow w.heap.size 5 1 v (encL 10 x).length ((encL 10 x).map (Value.int .u8)) ∧ Below w.heap.size w w' := by
  go_enter Ybaf.func14, Ybaf.ntmps14
  go_wp2
  go_loopw [0, 3, 4] (fun xv v i wr => ∃ (k : Nat) (pre : List Int) (y : Int), k ≤ 10 ∧ i = .int .i64 k ∧ xv = .int .u64 y ∧ 0 ≤ y ∧ y ≤ 18446744073709551615 ∧ pre.length = k ∧ wr.ownsRow w.heap.size 5 1 v k (pre.map (Value.int .u8)) ∧ Below w.heap.size w wr ∧ encL 10 x = pre ++ encL (10 - k) y) (fun _ _ i _ => 10 - (intOf i).toNat)
  case atStart => exact ⟨0, [], x, by omega, rfl, rfl, h0, h1, rfl, World.ownsRow_nil _ _ _ _, Below.refl _ _, rfl⟩
  case round =>
    obtain ⟨k, pre, y, hk, rfl, rfl, hy0, hy1, hpl, hown, hbel, henc⟩ := hrel
    have HE : Hid (encL 10 x = pre ++ encL (10 - k) y) := henc
    have HP : Hid (pre.length = k) := hpl
    clear henc hpl
    by_cases hc : k < 10 ∧ 128 ≤ y
    · obtain ⟨hk10, hy128⟩ := hc
      have hor := or128 y hy0
      have hB := hbel.size
      go_wp2_with (at_builtin; refine app44 _ rfl (.tmp 13) (.tmp 17) rfl w.heap.size u3 k (pre.map (Value.int .u8)) rfl (hown.alloc _) ⟨wr.heap.size, 0, none⟩ 1 1 [y % 128 + 128] rfl rfl (one_cell _ _) (by omega) (by simp; omega) ?_)
      intro v' w1 hown' hg' _
      have hbel' := bel_app hbel hB hown hg'
      clear hown hg' hbel hB hor
      go_wp2
      go_roundw
      case rel => exact ⟨k + 1, pre ++ [y % 128 + 128], y / 128, by omega, by go_num, rfl, by omega, by omega, by simp [HP.out], by simpa using hown', hbel', by rw [HE.out, show 10 - k = 10 - (k + 1) + 1 from by omega, enc_more _ _ hy128]; simp⟩
      case measure => simp [intOf]; omega
    · have hB := hbel.size
      have hlast := enc_last (10 - k) y (by omega)
      have HL : Hid (encL 10 x = pre ++ [y % 256]) := by rw [← hlast]; exact HE.out
      clear hlast HE
      by_cases hk10 : k < 10
      · have hy : y < 128 := by omega
        have HL' : Hid (encL 10 x = pre ++ [y]) := by have := HL.out; rwa [show y % 256 = y from by omega] at this
        clear HL
        go_wp2_with (at_builtin; refine app44 _ rfl (.tmp 21) (.tmp 24) rfl w.heap.size u3 k (pre.map (Value.int .u8)) rfl (hown.alloc _) ⟨wr.heap.size, 0, none⟩ 1 1 [y] rfl rfl (one_cell _ _) (by omega) (by simp; omega) ?_)
        intro v' w1 hown' hg' _
        have hbel' := bel_app hbel hB hown hg'
        clear hown hg' hbel hB
        go_wp2
        go_ret
        exact ⟨_, rfl, by rw [HL'.out]; simpa [HP.out] using hown', hbel'⟩
      · go_wp2_with (at_builtin; refine app44 _ rfl (.tmp 21) (.tmp 24) rfl w.heap.size u3 k (pre.map (Value.int .u8)) rfl (hown.alloc _) ⟨wr.heap.size, 0, none⟩ 1 1 [y % 256] rfl rfl (one_cell _ _) (by omega) (by simp; omega) ?_)
        intro v' w1 hown' hg' _
        have hbel' := bel_app hbel hB hown hg'
        clear hown hg' hbel hB
        go_wp2
        go_ret
        exact ⟨_, rfl, by rw [HL.out]; simpa [HP.out] using hown', hbel'⟩
theorem newReader15 (v : Value) (w : World) (hv : ∃ a l c, v = .slice a l c) :
    Calls Ybaf.prog 15 #[v] w fun e w' => e = .returned (.pointer (some ⟨w.heap.size, 0, none⟩)) ∧ w' = w.alloc (.cells #[v, .nilIface] 57) := by
  obtain ⟨a, l, c, rfl⟩ := hv
  go_enter Ybaf.func15, Ybaf.ntmps15
  go_wp2
  go_ret
  exact ⟨rfl, rfl⟩
theorem err16 (rb : Nat) (w : World) (h : w.cell? ⟨rb, 1, none⟩ = some .nilIface) :
    Calls Ybaf.prog 16 #[.pointer (some ⟨rb, 0, none⟩)] w fun e w' => e = .returned .nilIface ∧ w' = w := by
  go_enter Ybaf.func16, Ybaf.ntmps16
  go_wp2
  go_ret
  exact ⟨rfl, rfl⟩

theorem encL_le : ∀ (f : Nat) (x : Int), (encL f x).length ≤ f + 1
  | 0, x => by simp [encL]
  | f + 1, x => by
    unfold encL
    split
    · have := encL_le f (x / 128); simp; omega
    · simp
theorem cell1n {w : World} {C : Array Value} {t : Nat} (j : Nat) : (w.alloc (.cells C t)).cell? ⟨w.heap.size, j, none⟩ = C[j]? := by simp
theorem range_app (x : Int) (ns : List Int) (h : ∀ j : Nat, 0 ≤ ns[j]?.getD 0 ∧ ns[j]?.getD 0 ≤ 255) (j : Nat) : 0 ≤ (encL 10 x ++ ns)[j]?.getD 0 ∧ (encL 10 x ++ ns)[j]?.getD 0 ≤ 255 := by
  rw [List.getElem?_append]
  split
  · rename_i hj
    rw [List.getElem?_eq_getElem hj]
    exact encL_range 10 x _ (List.getElem_mem hj)
  · exact h _

set_option maxHeartbeats 1600000 in
theorem round5 (x : Int) (a : Option Addr) (len cap : Nat) (zs : List Int) (w : World) (h0 : 0 ≤ x) (h1 : x ≤ 18446744073709551615) (hlen : len ≤ 1024) (hz : len ≤ zs.length)
    (hcase : (a = none ∧ len = 0 ∧ cap = 0) ∨ ∃ p, a = some p ∧ ∀ j, j < len → w.cell? (p.add j) = some (.int .u8 (zs.getD j 0)))
    (hrow : len ≠ 0 → ∃ b o, a = some ⟨b, o, none⟩ ∧ b < w.heap.size ∧ ∀ j, j < len → w.cell? ⟨b, o + j, none⟩ = some (.int .u8 (zs.getD j 0)))
    (hr : ∀ j : Nat, 0 ≤ zs[j]?.getD 0 ∧ zs[j]?.getD 0 ≤ 255) :
    Calls Ybaf.prog 5 #[.int .u64 x, .slice a len cap] w fun e w' => e = .returned (.bool true) ∧ Below w.heap.size w w' := by
  have hl1024 : (len : Int) ≤ 1024 := by omega
  obtain ⟨N, hN⟩ : ∃ N, (encL 10 x).length = N := ⟨_, rfl⟩
  have hNp : 0 < N := by rw [← hN]; exact encL_pos _ _
  have hNl : N ≤ 11 := by rw [← hN]; exact encL_le 10 x
  go_enter Ybaf.func5, Ybaf.ntmps5
  go_wp2_with fail
  refine (encode14 x w h0 h1).mono ?_
  rintro e w1 ⟨v, rfl, hown, hb1⟩
  rw [hN] at hown
  have hs1 := hb1.size
  have hc1 : (a = none ∧ len = 0 ∧ cap = 0) ∨ ∃ p, a = some p ∧ ∀ j, j < len → w1.cell? (p.add j) = some (.int .u8 ((zs.take len).getD j 0)) := by
    rcases hcase with h | ⟨p, hp, hc⟩
    · exact .inl h
    · refine .inr ⟨p, hp, fun j hj => ?_⟩
      have hcj := hc j hj
      have hb : (p.add j).block < w.heap.size := World.block_lt_of_cell? _ _ hcj
      rw [hb1.cell hb, hcj]
      simp [hj]
  obtain ⟨_, g, c, hv, hgB, hgl, hgc, hgm, hgcell⟩ := own_shape2 hown hNp
  clear hgcell
  rw [hv] at hown ⊢
  clear hv hcase
  go_wp2_with (at_builtin; refine app44_opt _ rfl (.tmp 15) (.tmp 16) rfl w.heap.size _ N ((encL 10 x).map (Value.int .u8)) rfl hown a len cap (zs.take len) rfl (by simp; omega) hc1 (by omega) hs1 ?_)
  intro v2 w2 hown2 hg2
  have hb2 : Below w.heap.size w w2 := hb1.grown hg2 hs1 (by intro k hk; simp [Value.ownBlock] at hk; omega)
  have e2 : List.map (Value.int IntKind.u8) (encL 10 x) ++ List.take len (List.map (Value.int IntKind.u8) zs) = (encL 10 x ++ zs.take len).map (Value.int .u8) := by simp
  rw [e2] at hown2
  obtain ⟨hLl, g2, c2, hv2, hgB2, hgl2, hgc2, hgm2, hcell2⟩ := own_shape2 hown2 (by omega)
  rw [hv2]
  clear hv2 e2 hown2 hg2 hown hc1 hb1 hgB hgl hgc hgm
  have hs2 := hb2.size
  have hd : dec 0 0 ((encL 10 x ++ zs.take len).take (N + len)) = (x, (N : Int)) := by
    rw [List.take_of_length_le (by omega), roundtrip x h0 (by omega), hN]
  have hrt : ∀ j : Nat, 0 ≤ (encL 10 x ++ zs.take len)[j]?.getD 0 ∧ (encL 10 x ++ zs.take len)[j]?.getD 0 ≤ 255 := range_app x _ (fun j => by
    rw [List.getElem?_take]; split
    · exact hr j
    · simp)
  have hL : ∀ j, j < len → (encL 10 x ++ zs.take len).getD (N + j) 0 = zs.getD j 0 := fun j hj => by
    simp [List.getElem?_append, hN, hj, show ¬ N + j < N from by omega]
  obtain ⟨L, hLe⟩ : ∃ L, L = encL 10 x ++ zs.take len := ⟨_, rfl⟩
  rw [← hLe] at hd hrt hLl hcell2 hL
  clear hLe hN
  have h30 := dec30 g2 0 (N + len) c2 L (w2.alloc (.cells #[.slice (some ⟨g2, 0, none⟩) (N + len) c2, .nilIface] 57)) (by omega) (by omega) (fun j hj => by rw [Nat.zero_add]; rw [World.cell?_alloc_lt _ _ _ (by exact hgl2)]; exact hcell2 j hj) hrt
  rw [hd] at h30
  clear hd hrt
  go_wp2_with (go_at_call 15; refine (newReader15 _ _ ⟨_, _, _, rfl⟩).mono ?_; rintro e w' ⟨rfl, rfl⟩)
  refine (uv_ok' g2 0 (N + len) c2 w2.heap.size _ hgc2 hgm2 _ ((cell1n 0).trans rfl) ((cell1n 1).trans rfl) (by simp) x N hNp (by omega) h30).mono ?_
  rintro e w3 ⟨rfl, a3, ⟨c0, c1, bel⟩, ha3⟩
  rw [Nat.add_sub_cancel_left] at c0 ha3
  rw [Nat.zero_add] at ha3
  have cg3 : ∀ j, j < len → w3.cell? ⟨g2, N + j, none⟩ = some (.int .u8 (zs.getD j 0)) := fun j hj => by
    rw [bel.cell (p := ⟨g2, N + j, none⟩) (by show g2 < _; omega), World.cell?_alloc_lt _ _ _ (by exact hgl2), hcell2 (N + j) (by omega), hL j hj]
  have hb3 : Below w.heap.size w w3 := (hb2.alloc hs2 _).trans (bel.mono (by omega))
  have cb3 : ∀ b o, b < w.heap.size → (∀ j, j < len → w.cell? ⟨b, o + j, none⟩ = some (.int .u8 (zs.getD j 0))) → ∀ j, j < len → w3.cell? ⟨b, o + j, none⟩ = some (.int .u8 (zs.getD j 0)) := fun b o hb h j hj => (hb3.cell (p := ⟨b, o + j, none⟩) hb).trans (h j hj)
  clear bel hcell2 hL h30 hb2 hr hgm2 hgc2
  go_wp2_with (first | (go_at_call 16; refine (err16 w2.heap.size _ c1).mono ?_; rintro e w' ⟨rfl, rfl⟩) | (go_at_call 13; refine (len13 w2.heap.size (some a3) len (c2 - N) _ c0).mono ?_; rintro e w' ⟨rfl, rfl⟩))
  go_loopw [9] (fun i wr => ∃ k m : Nat, k ≤ len ∧ i = .int .i64 k ∧ wr = w'.drewN m) (fun i _ => len - (intOf i).toNat)
  case atStart => exact ⟨0, 0, by omega, rfl, rfl⟩
  case round =>
    obtain ⟨k, m, hk, rfl, rfl⟩ := hrel
    by_cases hlt : k < len
    · obtain ⟨b, o, rfl, hbl, hcb⟩ := hrow (by omega)
      obtain rfl := ha3 (by omega)
      have q1 := cg3 k hlt
      have q2 := cb3 b o hbl hcb k hlt
      clear cg3 cb3 hb3 hrow hcb ha3
      go_wp2_with fail
      go_quiet (fail)
      go_wp2_with fail
      go_roundw
      case rel => exact ⟨k + 1, _, by omega, by go_num, rfl⟩
      case measure => simp [intOf]; omega
    · clear cg3 cb3 hrow
      go_wp2
      go_ret
      exact ⟨rfl, below_drewN hb3 _⟩

theorem round5_long (x : Int) (a : Option Addr) (len cap : Nat) (w : World) (h : 1024 < len) :
    Calls Ybaf.prog 5 #[.int .u64 x, .slice a len cap] w fun e w' => e = .returned (.bool true) ∧ Below w.heap.size w w' := by
  have hgt : (1024 : Int) < len := by omega
  go_enter Ybaf.func5, Ybaf.ntmps5
  go_wp2
  go_ret
  exact ⟨rfl, Below.refl _ _⟩
end Go.Proofs.YbulkbwwmFmt
