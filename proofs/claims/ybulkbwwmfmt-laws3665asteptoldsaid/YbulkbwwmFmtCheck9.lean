/-
  zzs3665acheck (9): the answers, in order; the walk.
-/
import Derived.Test.YbulkbwwmFmtStep6
namespace Go.Proofs.YbulkbwwmFmt
open Go.WideShapes (add_plain)
open Go.RowKit
set_option linter.unusedVariables false

/-- The answers to the first m requests from number lo on. -/
def answ (hv : Int) (zs : List Int) (id : ByteArray) (lo : Nat) : Nat → List (List Value)
  | 0 => []
  | k + 1 => answ hv zs id lo k ++ (if zs[lo + k]?.getD 0 < hv then [mrow 11 id (fromS (lo + k)) hv] else [])
theorem answ_yes {hv : Int} {zs : List Int} {id : ByteArray} {lo k : Nat} (h : zs[lo + k]?.getD 0 < hv) : answ hv zs id lo (k + 1) = answ hv zs id lo k ++ [mrow 11 id (fromS (lo + k)) hv] := by simp [answ, h]
theorem answ_no {hv : Int} {zs : List Int} {id : ByteArray} {lo k : Nat} (h : ¬ zs[lo + k]?.getD 0 < hv) : answ hv zs id lo (k + 1) = answ hv zs id lo k := by simp [answ, h]
theorem answ_le (hv : Int) (zs : List Int) (id : ByteArray) (lo : Nat) : ∀ k, (answ hv zs id lo k).length ≤ k
  | 0 => by simp [answ]
  | k + 1 => by
    have := answ_le hv zs id lo k
    rw [answ, List.length_append]
    split <;> simp <;> omega
theorem answ_at (hv : Int) (zs : List Int) (id : ByteArray) (lo i : Nat) (h : zs[lo + i]?.getD 0 < hv) : ∀ m, i < m → (answ hv zs id lo m)[(answ hv zs id lo i).length]? = some (mrow 11 id (fromS (lo + i)) hv)
  | 0, h0 => absurd h0 (by omega)
  | m + 1, hm => by
    by_cases e : i = m
    · subst e; rw [answ_yes h]; simp
    · have ih := answ_at hv zs id lo i h m (by omega)
      have hl := (List.getElem?_eq_some_iff.1 ih).1
      rw [answ, List.getElem?_append_left hl]; exact ih
theorem answ_all (hv : Int) (zs : List Int) (id : ByteArray) (lo : Nat) : ∀ k, ∀ r ∈ answ hv zs id lo k, r.length = 11
  | 0, r, h => by simp [answ] at h
  | k + 1, r, h => by
    rw [answ, List.mem_append] at h
    rcases h with h | h
    · exact answ_all hv zs id lo k r h
    · split at h
      · simp at h; subst h; rfl
      · simp at h
theorem flat_at : ∀ (rs : List (List Value)), (∀ r ∈ rs, r.length = 11) → ∀ (j t : Nat) (r : List Value), rs[j]? = some r → t < 11 → rs.flatten[j * 11 + t]? = r[t]?
  | [], _, j, t, r, h, _ => by simp at h
  | a :: rs, hl, 0, t, r, h, ht => by
    simp at h; subst h
    have := hl a (by simp)
    rw [List.flatten_cons, List.getElem?_append_left (by omega)]; simp
  | a :: rs, hl, j + 1, t, r, h, ht => by
    have ha := hl a (by simp)
    rw [List.flatten_cons, List.getElem?_append_right (by omega), show (j + 1) * 11 + t - a.length = j * 11 + t from by omega]
    exact flat_at rs (fun r hr => hl r (by simp [hr])) j t r (by simpa using h) ht
theorem row_of_own {w : World} {B g n cap : Nat} {rs : List (List Value)} (h : w.ownsRow B 48 11 (.slice (some ⟨g, 0, none⟩) n cap) n rs.flatten) (hl : ∀ r ∈ rs, r.length = 11) (hn : rs.length = n) (j : Nat) (r : List Value) (hj : rs[j]? = some r) : w.rangeAt g (j * 11) r := fun t u hu => by
  have hjl := (List.getElem?_eq_some_iff.1 hj).1
  have hr := hl r (List.mem_of_getElem? hj)
  have ht : t < 11 := by have := (List.getElem?_eq_some_iff.1 hu).1; omega
  rw [h.cellAt (j * 11 + t) (by omega), flat_at rs hl j t r hj ht, hu]

theorem i48s : (Ybaf.prog.info? 48).map (·.size) = some 11 := by kernel_rfl
theorem from7i (x : Int) (i : Nat) (w : World) (hx : x = i) (hi : i ≤ 4096) : Calls Ybaf.prog 7 #[.int .i64 x] w fun e w' => e = .returned (.string (fromS i)) ∧ w' = w := by subst hx; exact from7 i w hi

set_option maxHeartbeats 1600000 in
theorem check9 (hv : Int) (zs : List Int) (id : ByteArray) (lo m : Nat) (ga : Option Addr) (gc : Nat) (aa : Option Addr) (ac : Nat) (w : World) (hm : m ≤ 1024) (hlo : lo ≤ 1024)
    (hg : ∀ j r, (answ hv zs id lo m)[j]? = some r → ∃ g, ga = some ⟨g, 0, none⟩ ∧ w.rangeAt g (j * 11) r)
    (ha : ∀ i, i < m → ∃ b o, aa = some ⟨b, o, none⟩ ∧ w.cell? ⟨b, o + i, none⟩ = some (.int .u64 (zs[lo + i]?.getD 0))) :
    Calls Ybaf.prog 9 #[.slice ga (answ hv zs id lo m).length gc, .string id, .int .u64 hv, .slice aa m ac, .int .i64 lo] w fun e w' => e = .returned (.bool true) ∧ Below w.heap.size w w' := by
  obtain ⟨N, hN⟩ : ∃ N, N = (answ hv zs id lo m).length := ⟨_, rfl⟩
  have hNm := answ_le hv zs id lo m
  rw [← hN] at hNm ⊢
  have HN : Hid (N = (answ hv zs id lo m).length) := hN
  clear hN
  go_enter Ybaf.func9, Ybaf.ntmps9
  go_wp2_with fail
  go_loopw [11, 17] (fun jv iv wr => ∃ i : Nat, i ≤ m ∧ iv = .int .i64 i ∧ jv = .int .i64 ((answ hv zs id lo i).length : Nat) ∧ Below w.heap.size w wr) (fun _ i _ => m - (intOf i).toNat)
  case atStart => exact ⟨0, by omega, rfl, rfl, Below.refl _ _⟩
  case round =>
    obtain ⟨i, hi, rfl, rfl, hbel⟩ := hrel
    by_cases hlt : i < m
    · obtain ⟨b, o, rfl, hc⟩ := ha i hlt
      have hcb : b < w.heap.size := World.block_lt_of_cell? _ _ hc
      have hc' : wr.cell? ⟨b, o + i, none⟩ = some (.int .u64 (zs[lo + i]?.getD 0)) := (hbel.cell (by exact hcb)).trans hc
      clear ha hc
      by_cases hlh : zs[lo + i]?.getD 0 < hv
      · have hat := answ_at hv zs id lo i hlh m hlt
        obtain ⟨g, rfl, hr⟩ := hg _ _ hat
        have hjN := (List.getElem?_eq_some_iff.1 hat).1
        rw [← HN.out] at hjN
        have hstep : (answ hv zs id lo (i + 1)).length = (answ hv zs id lo i).length + 1 := by rw [answ_yes hlh]; simp
        have HS : Hid ((answ hv zs id lo (i + 1)).length = (answ hv zs id lo i).length + 1) := hstep
        obtain ⟨J, hJ⟩ : ∃ J, (answ hv zs id lo i).length = J := ⟨_, rfl⟩
        rw [hJ] at hr hjN hat HS ⊢
        have hcg : g < w.heap.size := World.block_lt_of_cell? _ _ (hr 0 _ rfl)
        have hr' : wr.rangeAt g (J * 11) [.int .u8 11, .string id, .string (fromS (lo + i)), .int .u64 0, .int .u64 hv, .int .u64 0, .int .u64 0, .string ByteArray.empty, .slice none 0 0, .map none, .slice none 0 0] := fun t u hu => (hbel.cell (p := ⟨g, J * 11 + t, none⟩) hcg).trans (hr t u hu)
        clear hg hat hr hJ hstep
        go_wp2_with (show wpList _ _ _ ({ dst := _, op := Op.load 48 (.tmp 31), type := _, pos := _, after := _, guard := _ } :: _) _ _; refine wpList_load_mid rfl 48 (.tmp 31) rfl g (J * 11) rfl [.int .u8 11, .string id, .string (fromS (lo + i)), .int .u64 0, .int .u64 hv, .int .u64 0, .int .u64 0, .string ByteArray.empty, .slice none 0 0, .map none, .slice none 0 0] _ hr' Ybaf.underlying48 rfl i48s ?_)
        go_quiet ((go_at_call 7; exact Calls.quiet_of_same (from7i _ (lo + i) _ (by omega) (by omega))))
        go_wp2
        go_roundw
        case rel => exact ⟨i + 1, by omega, by go_num, by rw [HS.out]; go_num, (below_drewN ((hbel.alloc hbel.size _)) _)⟩
        case measure => simp [intOf]; omega
      · have hno := answ_no (id := id) hlh
        clear hg
        have HS : Hid (answ hv zs id lo (i + 1) = answ hv zs id lo i) := hno
        clear hno
        go_wp2
        go_roundw
        case rel => exact ⟨i + 1, by omega, by go_num, by rw [HS.out], hbel⟩
        case measure => simp [intOf]; omega
    · obtain rfl : i = m := by omega
      have hN := HN.out
      clear hg ha HN
      rw [← hN]
      clear hN
      go_wp2
      go_ret
      exact ⟨rfl, hbel⟩
end Go.Proofs.YbulkbwwmFmt
