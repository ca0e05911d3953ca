/-
  THE SHELL OF A PROOF OF 'Rows.LawS3673ALayoutSaid' ('example.com/treeline/treeline.LawS3673ALayout'), WRITTEN BY PROGRAM (proof-skeleton.mjs, third state) off the guide's own print for that function.
  The one open place, the walk, is filled (YbulkbxauLawWalk.lean). ALL ELSE IS THE GUIDE's OWN WAY (howto/template/XProofs.lean; Derived/Test/ChunkProofs.lean for 'Below') at this function's number and types: leave it.
-/
import Derived.Test.YbulkbxauRows
import Derived.WalkKit
import Derived.ProofKit
import Derived.OpenShut
import Derived.ShutString
import Derived.ChangeOld
import Derived.Below
import Derived.Test.YbulkbxauLawWalk
namespace Go.Proofs.Ybulkbxau.lawS3673ALayout
open Go.ChangeShapes Go.WideShapes Go.ChangeAt Go.RowKit
open Go.ChangeMaps (open_string shut_string)
set_option linter.unusedVariables false

theorem own : ownKnob Yba.prog.godebug = none := by kernel_rfl
theorem laidOut : laidOutB Yba.prog = true := by kernel_rfl

/-- WHAT THE WALK IS TOLD OF A SLICE OF INTEGERS THAT CAME IN: it is nil; or it leads to a row of 'cap' cells, the numbers 'zs' (the first 'len' are its elements, the rest its spare room), each fitting its kind. -/
def IsRow (k : IntKind) (w : World) (a : Option Addr) (len cap : Nat) (zs : List Int) : Prop :=
  (a = none ∧ len = 0 ∧ cap = 0 ∧ zs = []) ∨
  ∃ x, a = some x ∧ len ≤ cap ∧ cap ≤ maxLen ∧ zs.length = cap ∧ (∀ i, i < zs.length → w.cell? (x.add i) = some (.int k (zs.getD i 0))) ∧ ∀ n ∈ zs, (Lit.int k n).wf = true

theorem row_at {k : IntKind} {w : World} {a : Option Addr} {len cap : Nat} {zs : List Int} (h : IsRow k w a len cap zs) (hn : len ≠ 0) :
    ∃ b o, a = some ⟨b, o, none⟩ ∧ b < w.heap.size ∧ ∀ i, i < len → w.cell? ⟨b, o + i, none⟩ = some (.int k (zs.getD i 0)) := by
  rcases h with ⟨_, h, _⟩ | ⟨⟨b, o, s⟩, rfl, hl, hm, hz, hc, hw⟩
  · exact absurd h hn
  · have h0 := hc 0 (by omega)
    have hs : s = none := by simpa [Addr.add] using World.cell?_spot h0
    subst hs
    refine ⟨b, o, rfl, ?_, fun i hi => ?_⟩
    · simpa [Addr.add] using World.block_lt_of_cell? _ _ h0
    · rw [← add_plain]; exact hc i (by omega)
theorem u8_nat {n : Int} (h : (Lit.int .u8 n).wf = true) : ∃ c : Nat, c < 256 ∧ n = (c : Nat) := by
  have hw : IntKind.u8.min ≤ n ∧ n ≤ IntKind.u8.max := by simpa [Lit.wf] using h
  have e1 : IntKind.u8.min = 0 := by rfl
  have e2 : IntKind.u8.max = 255 := by rfl
  exact ⟨n.toNat, by omega, by omega⟩

/-! ### STEP 1: THE WALK: the Go text returns true, AND WRITES NOTHING THAT WAS THERE: 'Below w.heap.size w w'' (Derived/Below.lean: '.refl', '.alloc', '.drew', '.setCell' at a new block, '.trans'). Open each 'IsRow' by 'rcases' AHEAD of 'go_enter'; part every test ahead of the walk. -/
set_option maxRecDepth 100000 in
theorem walk (a0 : Int) (a1 : Int) (a2 : Int) (a3 : Option Addr) (len3 cap3 : Nat) (z3 : List Int) (w : World) (w0 : (Lit.int .u8 a0).wf = true) (w1 : (Lit.int .u8 a1).wf = true) (w2 : (Lit.int .u8 a2).wf = true) (w3 : IsRow .i64 w a3 len3 cap3 z3) :
    Calls Yba.prog 3 #[.int .u8 a0, .int .u8 a1, .int .u8 a2, .slice a3 len3 cap3] w fun e w' => e = .returned (.bool true) ∧ Below w.heap.size w w' := by
  obtain ⟨c0, b0, rfl⟩ := u8_nat w0
  obtain ⟨c1, b1, rfl⟩ := u8_nat w1
  obtain ⟨c2, b2, rfl⟩ := u8_nat w2
  by_cases hn : len3 ≤ 4096
  · have hm0 : 0 < 1 + c1 % 40 := by omega
    exact law3 { w0 := w, T := w.heap.size + 1, S := w.heap.size + 1 + 1, O := w.heap.size + 1 + 1 + 1, R := some ⟨w.heap.size, 0, none⟩, k := 1 + c0 % 4, m := 1 + c1 % 40, ro := c2 % (1 + c1 % 40), V := vl len3 z3 (1 + c0 % 4) }
      ⟨by show 0 < 1 + c0 % 4; omega, by show 1 + c0 % 4 ≤ 4; omega, hm0, by show 1 + c1 % 40 ≤ 40; omega, Nat.mod_lt _ hm0, by show w.heap.size ≤ w.heap.size + 1; omega, by show w.heap.size ≤ w.heap.size + 1 + 1; omega, by show w.heap.size ≤ w.heap.size + 1 + 1 + 1; omega, by show w.heap.size + 1 ≠ w.heap.size + 1 + 1; omega, by show w.heap.size + 1 ≠ w.heap.size + 1 + 1 + 1; omega, by show w.heap.size + 1 + 1 ≠ w.heap.size + 1 + 1 + 1; omega⟩
      rfl rfl rfl rfl c0 c1 c2 b0 b1 b2 a3 len3 cap3 z3 hn (fun h => row_at w3 h) rfl rfl rfl rfl
  · have hgt : (4096 : Int) < len3 := by omega
    clear w0 w1 w2 w3
    go_enter Yba.func3, Yba.ntmps3
    go_wp2
    go_ret
    exact ⟨rfl, Below.refl _ _⟩

/-! ### THE ROW's STEP: WRITTEN OUT: LEAVE IT -/
set_option maxRecDepth 100000 in
theorem lifted (os : Os) (started : os.Started) (H : Type) (enc : TypeId × Value → H) :
    ReturnsInHanded {} Yba.checked os 3 .any (Rows.lawS3673ALayoutSpec.pre6 enc Yba.prog Yba.f3 Rows.lawS3673ALayoutRow.domain false) (Rows.lawS3673ALayoutSpec.post enc Yba.prog Yba.f3 false true false false) := by
  refine returnsInHanded_of_change (C := Yba.checked) own started (by kernel_rfl) Yba.func3
    (ChangeSpec.witness6 (enc := enc) (C := Yba.checked) false ⟨#[], #[.int .u8 0, .int .u8 0, .int .u8 0, .slice none 0 0], []⟩ 8 (by kernel_rfl) (by kernel_rfl) (by kernel_rfl) (by kernel_rfl)) ?_
  intro W base args ds gs before hval0 hW hcnd _
  have hval : ∀ (j : Nat) t v, Yba.f3.params[j]? = some t → args[j]? = some v → Value.okWide Yba.prog W .any base t v := hval0
  have hW' := hW
  obtain ⟨p, q, hA0, hV, rfl, hfz, hnd⟩ := hW
  have hA : DataW.TrodAll enc Yba.prog W 0 (fun _ => true) true Yba.f3.params.toList args.toList ds p := hA0
  rw [Yba.params3] at hA hval
  obtain ⟨v0, vs0, d0, ds0, p0, q0, hargs, rfl, rfl, h0, r0⟩ := trodAll_cons hA
  obtain ⟨v1, vs1, d1, ds1, p1, q1, rfl, rfl, rfl, h1, r1⟩ := trodAll_cons r0
  obtain ⟨v2, vs2, d2, ds2, p2, q2, rfl, rfl, rfl, h2, r2⟩ := trodAll_cons r1
  obtain ⟨v3, vs3, d3, ds3, p3, q3, rfl, rfl, rfl, h3, r3⟩ := trodAll_cons r2
  obtain ⟨rfl, rfl, rfl⟩ := trodAll_nil r3
  obtain rfl : args = #[v0, v1, v2, v3] := by cases args; simp_all
  obtain ⟨rfl, rfl⟩ := trodVars_none hV
  obtain ⟨a0, rfl, rfl, rfl, w0⟩ := open_int Yba.underlying5 (hval 0 5 v0 rfl rfl) h0
  obtain ⟨a1, rfl, rfl, rfl, w1⟩ := open_int Yba.underlying5 (hval 1 5 v1 rfl rfl) h1
  obtain ⟨a2, rfl, rfl, rfl, w2⟩ := open_int Yba.underlying5 (hval 2 5 v2 rfl rfl) h2
  obtain ⟨a3, len3, cap3, rfl⟩ := okWide_slice Yba.underlying22 (hval 3 22 v3 rfl rfl)
  have k3 := h3
  have lt3 : ∀ x ∈ p3, x.block < W.heap.size := by obtain ⟨m, hm⟩ := k3; exact DataW.trod_lt m _ _ _ hm
  obtain ⟨z3, w3⟩ : ∃ zs, IsRow .i64 W a3 len3 cap3 zs := by
    obtain ⟨fuel, hf⟩ := h3
    rcases open_ints Yba.underlying22 Yba.underlying2 (by kernel_rfl) hf with ⟨hcs, _⟩ | ⟨x, l, c, zs, hcs, _, hl, hm, hz, _, hcell, hwz⟩
    · simp [Value.cells] at hcs
      obtain ⟨rfl, rfl, rfl⟩ := hcs
      exact ⟨[], .inl ⟨rfl, rfl, rfl, rfl⟩⟩
    · simp [Value.cells] at hcs
      obtain ⟨rfl, rfl, rfl⟩ := hcs
      exact ⟨zs, .inr ⟨_, rfl, hl, hm, by simpa using hz, hcell, hwz⟩⟩
  clear hA0 hval0
  refine (walk a0 a1 a2 a3 len3 cap3 z3 W w0 w1 w2 w3).mono fun e W' ⟨he, bel⟩ => ?_
  subst he
  exact ⟨_, rfl, _, _, _, [], _, [], hW', trodAll_mk1 (shut_bool Yba.underlying4 _), (trodAll_cons_mk (shut_int Yba.underlying5 w0) (trodAll_cons_mk (shut_int Yba.underlying5 w1) (trodAll_cons_mk (shut_int Yba.underlying5 w2) (trodAll_cons_mk (Below.trod laidOut (by kernel_rfl) (of_decide_eq_true (by kernel_rfl)) k3 bel lt3) trodAll_mk0)))), rfl, bel.frame _, fun h => by cases h⟩

theorem over : Rows.lawS3673ALayoutRow.holds Yba.pinned (OpenSpec.ofChange Rows.lawS3673ALayoutSpec) :=
  OpenClaim.holds_of_wide 3 Yba.f3 rfl rfl rfl rfl rfl rfl rfl ⟨rfl, rfl, rfl, rfl, rfl⟩ rfl rfl rfl rfl rfl (by kernel_rfl) Yba.func3 (by kernel_rfl)
    (of_decide_eq_true (by kernel_rfl)) (by unfold Func.isWrapper; first | (rw [if_pos (by decide +kernel)]; kernel_rfl) | (rw [if_neg (by decide +kernel)]; exact ⟨rfl, rfl⟩))
    (fun os started H enc _ => lifted os started H enc)

/-- ████ THE STATEMENT ████ -/
theorem proved : Rows.LawS3673ALayoutSaid := over
end Go.Proofs.Ybulkbxau.lawS3673ALayout
