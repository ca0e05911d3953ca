/-
  THE WALK of 'core.LawS3665AStep' (3).
-/
import Derived.Test.YbulkbwwmFmtCheck9
namespace Go.Proofs.YbulkbwwmFmt
open Go.WideShapes (add_plain)
open Go.RowKit
set_option linter.unusedVariables false
attribute [local go_sem ↓] Go.wp_at_zero Go.wp_at_succ

theorem Nd.keep {w w' : World} {nb : Nat} {id : ByteArray} {hv : Int} {v : Value} {n : Nat} {xs : List Value} (h : Nd w nb id hv v n xs) (hb : Below w.heap.size w w') : Nd w' nb id hv v n xs := by
  have hc : ∀ j, w'.cell? ⟨nb, j, none⟩ = w.cell? ⟨nb, j, none⟩ := fun j => hb.cell (p := ⟨nb, j, none⟩) h.lt
  refine ⟨by have := h.lt; have := hb.size; omega, (hc _).trans h.c0, (hc _).trans h.c5, (hc _).trans h.c6, (hc _).trans h.c7, (hc _).trans h.c21, (hc _).trans h.c22, (hb.frozen (p := ⟨nb, 22, none⟩) h.lt).trans h.f22, ?_⟩
  exact h.own.kept (row := none) ⟨hb.os, hb.tape, hb.output, hb.size, fun k hk _ => hb.block k hk⟩ (by cases v.ownBlock <;> simp)
theorem Nd.taken {w : World} {nb : Nat} {id : ByteArray} {hv : Int} {v : Value} {n : Nat} {xs : List Value} (h : Nd w nb id hv v n xs) : Nd (w.setCell ⟨nb, 22, none⟩ (.slice none 0 0)) nb id hv (.slice none 0 0) 0 [] := by
  have hc : ∀ j, j ≠ 22 → (w.setCell ⟨nb, 22, none⟩ (.slice none 0 0)).cell? ⟨nb, j, none⟩ = w.cell? ⟨nb, j, none⟩ := fun j hj => World.cell?_setCell_other _ _ _ _ (fun e => hj (by have := congrArg Addr.off e; exact this.symm))
  exact ⟨by have := h.lt; simpa using this, (hc _ (by omega)).trans h.c0, (hc _ (by omega)).trans h.c5, (hc _ (by omega)).trans h.c6, (hc _ (by omega)).trans h.c7, (hc _ (by omega)).trans h.c21, World.cell?_setCell_same _ _ _ h.c22, by rw [World.frozen?_setCell]; exact h.f22, World.ownsRow_nil _ _ _ _⟩

theorem own_form {w : World} {B n : Nat} {v : Value} {rs : List (List Value)} (h : w.ownsRow B 48 11 v n rs.flatten) (hl : ∀ r ∈ rs, r.length = 11) (hn : rs.length = n) :
    ∃ ga gc, v = .slice ga n gc ∧ ∀ w' : World, w'.ownsRow B 48 11 v n rs.flatten → ∀ j r, rs[j]? = some r → ∃ g, ga = some ⟨g, 0, none⟩ ∧ w'.rangeAt g (j * 11) r := by
  rcases h.2 with ⟨rfl, rfl⟩ | ⟨g, cap, cur, rfl, _⟩
  · refine ⟨none, 0, rfl, fun w' _ j r hj => ?_⟩
    have := (List.getElem?_eq_some_iff.1 hj).1
    omega
  · exact ⟨some ⟨g, 0, none⟩, cap, rfl, fun w' h' j r hj => ⟨g, rfl, row_of_own h' hl hn j r hj⟩⟩

theorem check9m (hv : Int) (zs : List Int) (id : ByteArray) (lo m m' : Nat) (ga : Option Addr) (gc : Nat) (aa : Option Addr) (ac : Nat) (w : World) (e : m' = m) (hm : m ≤ 1024) (hlo : lo ≤ 1024)
    (hg : ∀ j r, (answ hv zs id lo m)[j]? = some r → ∃ g, ga = some ⟨g, 0, none⟩ ∧ w.rangeAt g (j * 11) r)
    (ha : ∀ i, i < m → ∃ b o, aa = some ⟨b, o, none⟩ ∧ w.cell? ⟨b, o + i, none⟩ = some (.int .u64 (zs[lo + i]?.getD 0))) :
    Calls Ybaf.prog 9 #[.slice ga (answ hv zs id lo m).length gc, .string id, .int .u64 hv, .slice aa m' ac, .int .i64 lo] w fun e w' => e = .returned (.bool true) ∧ Below w.heap.size w w' := by
  subst e
  exact check9 hv zs id lo _ ga gc aa ac w hm hlo hg ha
theorem check9_0 (hv : Int) (zs : List Int) (id : ByteArray) (m : Nat) (ga : Option Addr) (gc : Nat) (aa : Option Addr) (ac : Nat) (w : World) (hm : m ≤ 1024)
    (hg : ∀ j r, (answ hv zs id 0 m)[j]? = some r → ∃ g, ga = some ⟨g, 0, none⟩ ∧ w.rangeAt g (j * 11) r)
    (ha : ∀ i, i < m → ∃ b o, aa = some ⟨b, o, none⟩ ∧ w.cell? ⟨b, o + i, none⟩ = some (.int .u64 (zs[0 + i]?.getD 0))) :
    Calls Ybaf.prog 9 #[.slice ga (answ hv zs id 0 m).length gc, .string id, .int .u64 hv, .slice aa m ac, .int .i64 0] w fun e w' => e = .returned (.bool true) ∧ Below w.heap.size w w' :=
  check9 hv zs id 0 m ga gc aa ac w hm (by omega) hg ha

set_option maxRecDepth 100000 in
set_option maxHeartbeats 6400000 in
theorem law3 (id : ByteArray) (hv : Int) (a : Option Addr) (L cap : Nat) (zs : List Int) (sp : Int) (w : World) (hL : L ≤ 1024) (hcap : L ≤ cap) (hsp0 : 0 ≤ sp) (hsp1 : sp ≤ 18446744073709551615)
    (hv0 : 0 ≤ hv) (hv1 : hv ≤ 18446744073709551615)
    (ha : L ≠ 0 → ∃ b o, a = some ⟨b, o, none⟩ ∧ b < w.heap.size ∧ ∀ i, i < L → w.cell? ⟨b, o + i, none⟩ = some (.int .u64 (zs[i]?.getD 0))) :
    Calls Ybaf.prog 3 #[.string id, .int .u64 hv, .slice a L cap, .int .u64 sp] w fun e w' => e = .returned (.bool true) ∧ Below w.heap.size w w' := by
  have hL' : (L : Int) ≤ 1024 := by omega
  obtain ⟨K, hK⟩ : ∃ K : Nat, sp % ((L : Int) + 1) = K := ⟨(sp % ((L : Int) + 1)).toNat, by have := Int.emod_nonneg sp (show (L : Int) + 1 ≠ 0 from by omega); omega⟩
  have hKL : K ≤ L := by have := Int.emod_lt_of_pos sp (show (0 : Int) < (L : Int) + 1 from by omega); omega
  have hKi : (K : Int) ≤ 1024 := by omega
  go_enter Ybaf.func3, Ybaf.ntmps3
  go_wp2_with fail
  clear hK
  go_loopw [11] (fun iv wr => ∃ (i : Nat) (v : Value), i ≤ K ∧ iv = .int .i64 i ∧ Below w.heap.size w wr ∧ Nd wr w.heap.size id hv v (answ hv zs id 0 i).length (answ hv zs id 0 i).flatten) (fun i _ => K - (intOf i).toNat)
  case atStart => exact ⟨0, .slice none 0 0, by omega, rfl, (Below.refl _ _).alloc (Nat.le_refl _) _, ⟨by simp, by simp, by simp, by simp, by simp, by simp, by simp, by simp, World.ownsRow_nil _ _ _ _⟩⟩
  case round =>
    obtain ⟨i, v, hi, rfl, hbel, hnd⟩ := hrel
    by_cases hlt : i < K
    · obtain ⟨b, o, rfl, hb, hc⟩ := ha (by omega)
      have hci : wr.cell? ⟨b, o + i, none⟩ = some (.int .u64 (zs[i]?.getD 0)) := (hbel.cell (by exact hb)).trans (hc i (by omega))
      have hiL : (i : Int) < L := by omega
      have hnl := answ_le hv zs id 0 i
      have HI : Hid (i + 0 = i) := rfl
      clear ha hc
      go_wp2_with fail
      by_cases hlh : zs[i]?.getD 0 < hv
      · have HY : Hid (answ hv zs id 0 (i + 1) = answ hv zs id 0 i ++ [mrow 11 id (fromS i) hv]) := by have := answ_yes (id := id) (lo := 0) (k := i) (zs := zs) (hv := hv) (by simpa using hlh); rwa [Nat.zero_add] at this
        go_region_held3 (fun w' => w'.cell? ⟨b, o + i, none⟩ = some (.int .u64 (zs[i]?.getD 0)))
          (first | go_keep | exact (hbel'.cell (by exact hb)).trans (by simpa using hci))
          (first
            | (go_at_call 7; refine (from7i _ i _ rfl (by omega)).mono ?_; rintro e w' ⟨rfl, rfl⟩)
            | (go_at_call 6; refine (step_yes w.heap.size id (fromS i) (zs[i]?.getD 0) hv v _ _ _ hnd.drew hlh (by omega)).mono ?_; rintro e w' ⟨rfl, hnd', hbel'⟩))
        go_wp2
        obtain ⟨v', hnd'⟩ := hnd'
        go_roundw
        case rel => exact ⟨i + 1, v', by omega, by go_num, hbel.trans (((Below.refl _ _).drew).trans hbel'), by rw [HY.out]; simpa using hnd'⟩
        case measure => simp [intOf]; omega
      · have HY : Hid (answ hv zs id 0 (i + 1) = answ hv zs id 0 i) := answ_no (id := id) (lo := 0) (k := i) (zs := zs) (hv := hv) (by simpa using hlh)
        go_region_held3 (fun w' => w'.cell? ⟨b, o + i, none⟩ = some (.int .u64 (zs[i]?.getD 0)))
          (first | go_keep | exact (hbel'.cell (by exact hb)).trans (by simpa using hci))
          (first
            | (go_at_call 7; refine (from7i _ i _ rfl (by omega)).mono ?_; rintro e w' ⟨rfl, rfl⟩)
            | (go_at_call 6; refine (step_no w.heap.size id (fromS i) (zs[i]?.getD 0) hv v _ _ _ hnd.drew (by omega)).mono ?_; rintro e w' ⟨rfl, hnd', hbel'⟩))
        go_wp2
        obtain ⟨v', hnd'⟩ := hnd'
        go_roundw
        case rel => exact ⟨i + 1, v', by omega, by go_num, hbel.trans (((Below.refl _ _).drew).trans hbel'), by rw [HY.out]; exact hnd'⟩
        case measure => simp [intOf]; omega
    · obtain rfl : i = K := by omega
      obtain ⟨ga, gc, hv', hrow⟩ := own_form hnd.own (answ_all hv zs id 0 i) rfl
      go_wp2_with (go_at_call 8; refine (take8 w.heap.size v _ ⟨ga, _, gc, hv'⟩ hnd.c22 hnd.f22).mono ?_; rintro e w' ⟨rfl, rfl⟩)
      have hnt := hnd.taken
      have hot : (wr.setCell ⟨w.heap.size, 22, none⟩ (.slice none 0 0)).ownsRow (w.heap.size + 1) 48 11 v (answ hv zs id 0 i).length (answ hv zs id 0 i).flatten := ownsRow_setCell_below hnd.own (Nat.lt_succ_self _) _
      have hbt : Below w.heap.size w (wr.setCell ⟨w.heap.size, 22, none⟩ (.slice none 0 0)) := hbel.setCell (p := ⟨w.heap.size, 22, none⟩) (Nat.le_refl w.heap.size) _
      have hrt := hrow _ hot
      clear hrow hot hnd hbel
      generalize wr.setCell ⟨w.heap.size, 22, none⟩ (.slice none 0 0) = wt at *
      refine (check9_0 hv zs id i ga gc a cap wt (by omega) hrt (fun j hj => ?_)).mono ?_
      · obtain ⟨b, o, e, hb, hc⟩ := ha (by omega)
        exact ⟨b, o, e, (hbt.cell (p := ⟨b, o + j, none⟩) hb).trans (by simpa using hc j (by omega))⟩
      rintro e w2 ⟨rfl, hb2⟩
      have hn2 := hnt.keep hb2
      have hbel2 : Below w.heap.size w w2 := hbt.trans (hb2.mono hbt.size)
      clear hnt hbt hrt hb2 hv'
      go_wp2_with fail
      go_loopw [13] (fun iv wr => ∃ (j : Nat) (v : Value), i + j ≤ L ∧ iv = .int .i64 (i + j : Nat) ∧ Below w.heap.size w wr ∧ Nd wr w.heap.size id hv v (answ hv zs id i j).length (answ hv zs id i j).flatten) (fun i _ => L - (intOf i).toNat)
      case atStart => exact ⟨0, .slice none 0 0, by omega, rfl, hbel2, hn2⟩
      case round =>
        clear hn2 hbel2
        obtain ⟨j, v2, hj, rfl, hbel, hnd⟩ := hrel
        by_cases hlt : i + j < L
        · obtain ⟨b, o, rfl, hb, hc⟩ := ha (by omega)
          have hci : wr.cell? ⟨b, o + (i + j), none⟩ = some (.int .u64 (zs[i + j]?.getD 0)) := (hbel.cell (by exact hb)).trans (hc (i + j) (by omega))
          have hiL : ((i + j : Nat) : Int) < L := by omega
          have hnl : (answ hv zs id i j).length ≤ 1024 := by have := answ_le hv zs id i j; omega
          clear ha hc
          obtain ⟨p, hp⟩ : ∃ p, p = i + j := ⟨_, rfl⟩
          rw [← hp] at hci hiL hlt hj ⊢
          by_cases hlh : zs[p]?.getD 0 < hv
          · have HY : Hid (answ hv zs id i (j + 1) = answ hv zs id i j ++ [mrow 11 id (fromS p) hv]) := by have := answ_yes (id := id) (lo := i) (k := j) (zs := zs) (hv := hv) (by rw [← hp]; exact hlh); rwa [← hp] at this
            have HP : Hid (p = i + j) := hp
            clear hp
            go_wp2_with fail
            go_region_held3 (fun w' => w'.cell? ⟨b, o + p, none⟩ = some (.int .u64 (zs[p]?.getD 0)))
              (first | go_keep | exact (hbel'.cell (by exact hb)).trans (by simpa using hci))
              (first
                | (go_at_call 7; refine (from7i _ p _ rfl (by omega)).mono ?_; rintro e w' ⟨rfl, rfl⟩)
                | (go_at_call 6; refine (step_yes w.heap.size id (fromS p) (zs[p]?.getD 0) hv v2 _ _ _ hnd.drew hlh hnl).mono ?_; rintro e w' ⟨rfl, hnd', hbel'⟩))
            go_wp2
            obtain ⟨v', hnd'⟩ := hnd'
            go_roundw
            case rel => exact ⟨j + 1, v', by have := HP.out; omega, by have := HP.out; go_num, hbel.trans (((Below.refl _ _).drew).trans hbel'), by rw [HY.out]; simpa using hnd'⟩
            case measure => simp [intOf]; omega
          · have HY : Hid (answ hv zs id i (j + 1) = answ hv zs id i j) := answ_no (id := id) (lo := i) (k := j) (zs := zs) (hv := hv) (by rw [← hp]; exact hlh)
            have HP : Hid (p = i + j) := hp
            clear hp
            go_wp2_with fail
            go_region_held3 (fun w' => w'.cell? ⟨b, o + p, none⟩ = some (.int .u64 (zs[p]?.getD 0)))
              (first | go_keep | exact (hbel'.cell (by exact hb)).trans (by simpa using hci))
              (first
                | (go_at_call 7; refine (from7i _ p _ rfl (by omega)).mono ?_; rintro e w' ⟨rfl, rfl⟩)
                | (go_at_call 6; refine (step_no w.heap.size id (fromS p) (zs[p]?.getD 0) hv v2 _ _ _ hnd.drew (by omega)).mono ?_; rintro e w' ⟨rfl, hnd', hbel'⟩))
            go_wp2
            obtain ⟨v', hnd'⟩ := hnd'
            go_roundw
            case rel => exact ⟨j + 1, v', by have := HP.out; omega, by have := HP.out; go_num, hbel.trans (((Below.refl _ _).drew).trans hbel'), by rw [HY.out]; exact hnd'⟩
            case measure => simp [intOf]; omega
        · obtain ⟨ga2, gc2, hv2, hrow⟩ := own_form hnd.own (answ_all hv zs id i j) rfl
          go_wp2_with (go_at_call 8; refine (take8 w.heap.size v2 _ ⟨ga2, _, gc2, hv2⟩ hnd.c22 hnd.f22).mono ?_; rintro e w' ⟨rfl, rfl⟩)
          · have e0 : cap = i := by assumption
            have hnt := hnd.taken
            have hot : (wr.setCell ⟨w.heap.size, 22, none⟩ (.slice none 0 0)).ownsRow (w.heap.size + 1) 48 11 v2 (answ hv zs id i j).length (answ hv zs id i j).flatten := ownsRow_setCell_below hnd.own (Nat.lt_succ_self _) _
            have hbt : Below w.heap.size w (wr.setCell ⟨w.heap.size, 22, none⟩ (.slice none 0 0)) := hbel.setCell (p := ⟨w.heap.size, 22, none⟩) (Nat.le_refl w.heap.size) _
            have hrt := hrow _ hot
            clear hrow hot hnd hbel
            generalize wr.setCell ⟨w.heap.size, 22, none⟩ (.slice none 0 0) = wt at *
            refine (check9m hv zs id i j (L - i) ga2 gc2 _ _ wt (by omega) (by omega) (by omega) hrt (fun t ht => ?_)).mono ?_
            · exact absurd ht (by omega)
            rintro e w2 ⟨rfl, hb2⟩
            have hn2 := hnt.keep hb2
            have hbel2 : Below w.heap.size w w2 := hbt.trans (hb2.mono hbt.size)
            have c21 := hn2.c21
            have q1 : ∀ (w : World) (a : Option Addr) (n c n' c' : Nat), (binOp .eql 38 (.slice a n c) (.slice none n' c')).run Ybaf.prog w = .ok (.bool a.isNone) w := fun w a n c n' c' => Lib.run_eql_slice_nil w _ _ a n c n' c' Ybaf.underlying38
            clear hnt hbt hrt hb2 hv2 ha
            go_wp2_with (go_at_call 8; refine (take8 w.heap.size (.slice none 0 0) _ ⟨_, _, _, rfl⟩ hn2.c22 hn2.f22).mono ?_; rintro e w' ⟨rfl, rfl⟩)
            go_ret
            exact ⟨rfl, hbel2.setCell (p := ⟨w.heap.size, 22, none⟩) (Nat.le_refl w.heap.size) _⟩
          · have hnt := hnd.taken
            have hot : (wr.setCell ⟨w.heap.size, 22, none⟩ (.slice none 0 0)).ownsRow (w.heap.size + 1) 48 11 v2 (answ hv zs id i j).length (answ hv zs id i j).flatten := ownsRow_setCell_below hnd.own (Nat.lt_succ_self _) _
            have hbt : Below w.heap.size w (wr.setCell ⟨w.heap.size, 22, none⟩ (.slice none 0 0)) := hbel.setCell (p := ⟨w.heap.size, 22, none⟩) (Nat.le_refl w.heap.size) _
            have hrt := hrow _ hot
            clear hrow hot hnd hbel
            generalize wr.setCell ⟨w.heap.size, 22, none⟩ (.slice none 0 0) = wt at *
            refine (check9m hv zs id i j (L - i) ga2 gc2 _ _ wt (by omega) (by omega) (by omega) hrt (fun t ht => ?_)).mono ?_
            · obtain ⟨b, o, e, hb, hc⟩ := ha (by omega)
              refine ⟨b, o + i, by rw [e]; simp [add_plain], (hbt.cell (p := ⟨b, o + i + t, none⟩) hb).trans ?_⟩
              rw [Nat.add_assoc]
              exact hc (i + t) (by omega)
            rintro e w2 ⟨rfl, hb2⟩
            have hn2 := hnt.keep hb2
            have hbel2 : Below w.heap.size w w2 := hbt.trans (hb2.mono hbt.size)
            have c21 := hn2.c21
            have q1 : ∀ (w : World) (a : Option Addr) (n c n' c' : Nat), (binOp .eql 38 (.slice a n c) (.slice none n' c')).run Ybaf.prog w = .ok (.bool a.isNone) w := fun w a n c n' c' => Lib.run_eql_slice_nil w _ _ a n c n' c' Ybaf.underlying38
            clear hnt hbt hrt hb2 hv2 ha
            go_wp2_with (go_at_call 8; refine (take8 w.heap.size (.slice none 0 0) _ ⟨_, _, _, rfl⟩ hn2.c22 hn2.f22).mono ?_; rintro e w' ⟨rfl, rfl⟩)
            go_ret
            exact ⟨rfl, hbel2.setCell (p := ⟨w.heap.size, 22, none⟩) (Nat.le_refl w.heap.size) _⟩


theorem law3_long (id : ByteArray) (hv : Int) (a : Option Addr) (L cap : Nat) (sp : Int) (w : World) (hL : 1024 < L) :
    Calls Ybaf.prog 3 #[.string id, .int .u64 hv, .slice a L cap, .int .u64 sp] w fun e w' => e = .returned (.bool true) ∧ Below w.heap.size w w' := by
  have hgt : (1024 : Int) < L := by omega
  go_enter Ybaf.func3, Ybaf.ntmps3
  go_wp2
  go_ret
  exact ⟨rfl, Below.refl _ _⟩
end Go.Proofs.YbulkbwwmFmt
