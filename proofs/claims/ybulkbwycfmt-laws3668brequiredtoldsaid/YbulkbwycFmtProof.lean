/-
  'Rows.LawS3668BRequiredToldSaid' PROVED: the told card of 'ap.LawS3668BRequired'.
-/
import Derived.Test.YbulkbwycFmtLawWalk
import Derived.Test.YbulkbwycFmtCards
import Derived.ProofKit
import Derived.Carry
import Derived.Stop.JoinedAt
import Derived.Stop.Texts
import Derived.Stop.ErrReads
import Derived.Stop.JoinedTold
import Derived.SevenToldRow
import Derived.OpenShut
import Derived.ShutString
namespace Go.Proofs.YbulkbwycFmt
open Go.ChangeShapes Go.WideShapes Go.ChangeAt Go.RowKit Go.Kit
open Go.ChangeMaps (open_string shut_string)
open Go.Extern.Stop Go.Stop Go.Extern
set_option linter.unusedVariables false

theorem Ybaf.own : ownKnob Ybaf.prog.godebug = none := by kernel_rfl
theorem Ybaf.laidOut : laidOutB Ybaf.prog = true := by kernel_rfl
theorem Ybaf.stops : Ybaf.pinned.checked.prog.stops = ["fmt.errorf"] := by kernel_rfl
theorem Ybaf.stopKnobs : Ybaf.pinned.checked.prog.stopKnobs = [] := by kernel_rfl
theorem Ybaf.quiet (os : Os) : Stop.quiet Ybaf.pinned.checked.prog os := by
  intro k hk
  rw [Ybaf.stopKnobs] at hk
  cases hk

/-- A slice of integers that came in: nil, or a row of cells. -/
def IsRow (k : IntKind) (w : World) (a : Option Addr) (len cap : Nat) (zs : List Int) : Prop :=
  (a = none ∧ len = 0 ∧ cap = 0 ∧ zs = []) ∨
  ∃ x, a = some x ∧ len ≤ cap ∧ cap ≤ maxLen ∧ zs.length = cap ∧ (∀ i, i < zs.length → w.cell? (x.add i) = some (.int k (zs.getD i 0))) ∧ ∀ n ∈ zs, (Lit.int k n).wf = true
theorem row_at {k : IntKind} {w : World} {a : Option Addr} {len cap : Nat} {zs : List Int} (h : IsRow k w a len cap zs) (hn : len ≠ 0) :
    ∃ b o, a = some ⟨b, o, none⟩ ∧ b < w.heap.size ∧ len ≤ zs.length ∧ len ≤ cap ∧ cap ≤ maxLen ∧ (∀ i, i < len → w.cell? ⟨b, o + i, none⟩ = some (.int k (zs.getD i 0))) ∧ ∀ n ∈ zs, (Lit.int k n).wf = true := by
  rcases h with ⟨_, h, _⟩ | ⟨⟨b, o, s⟩, rfl, hl, hm, hz, hc, hw⟩
  · exact absurd h hn
  · have h0 := hc 0 (by omega)
    have hs : s = none := by simpa [Addr.add] using World.cell?_spot h0
    subst hs
    refine ⟨b, o, rfl, ?_, by omega, hl, hm, fun i hi => ?_, hw⟩
    · simpa [Addr.add] using World.block_lt_of_cell? _ _ h0
    · rw [← add_plain]; exact hc i (by omega)
theorem law_any (F : Interp) (ia : Option Addr) (len cap : Nat) (zs : List Int) (sel : Int) (pk : Bool) (raw : Int) (nm : ByteArray) (v : Int) (fl : Bool) (w : World) (hF : F.answers w.tape) (h1 : (Lit.int .u8 sel).wf = true) (h : IsRow .i64 w ia len cap zs) :
    Calls Ybaf.prog 3 #[.slice ia len cap, .int .u8 sel, .bool pk, .int .i64 raw, .string nm, .int .i64 v, .bool fl] w fun e w' => e = .returned (.bool true) ∧ Below w.heap.size w w' := by
  by_cases hL : len ≤ 1024
  · have b1 := bounds_u8 h1
    refine law3 F ia len cap zs sel pk raw nm v fl w hF hL b1.1 b1.2 (fun h0 => ?_)
    obtain ⟨b, o, e, hb, _, _, _, hc, _⟩ := row_at h h0
    exact ⟨b, o, e, hb, fun i hi => by simpa using hc i hi⟩
  · exact law3_long ia len cap sel pk raw nm v fl w (by omega)

set_option maxRecDepth 100000 in
theorem law_lifted (os : Os) (started : os.Started) (H : Type) (enc : TypeId × Value → H) :
    ReturnsInTold none {} Ybaf.checked os 3 .any Input.okWide ((OpenSpec.ofChange Rows.lawS3668BRequiredSpec).preRow enc Ybaf.prog Ybaf.f3 [] false []) (fun F => ((OpenSpec.ofChange Rows.lawS3668BRequiredSpec).at F).post enc Ybaf.prog Ybaf.f3 false true false false) (aloneAtReturn Ybaf.prog) nothingAlways := by
  refine returnsInTold_of_row (C := Ybaf.checked) (s := OpenSpec.ofChange Rows.lawS3668BRequiredSpec) (by kernel_rfl) Ybaf.own started (by kernel_rfl) Ybaf.func3
    (OpenSpec.witness_stopped (enc := enc) (C := Ybaf.checked) false ⟨#[], #[.slice none 0 0, .int .u8 0, .bool false, .int .i64 0, .string ByteArray.empty, .int .i64 0, .bool false], []⟩ 8 (by kernel_rfl) (by kernel_rfl) (by kernel_rfl) (by kernel_rfl)) ?_
  intro F W base args ds gs before _ hF hval0 hW _ _ _ _ _
  have hval : ∀ (j : Nat) t v, Ybaf.f3.params[j]? = some t → args[j]? = some v → Value.okWide Ybaf.prog W .any base t v := hval0
  have hW' := hW
  obtain ⟨p, q, hA0, hV, rfl, hfz, hnd⟩ := hW
  have hA : DataW.TrodAll enc Ybaf.prog W 0 (fun _ => true) true Ybaf.f3.params.toList args.toList ds p := hA0
  rw [Ybaf.params3] at hA hval
  obtain ⟨v0, vs0, d0, ds0, p0, q0, hargs, rfl, rfl, h0, r0⟩ := trodAll_cons hA
  obtain ⟨v1, vs1, d1, ds1, p1, q1, rfl, rfl, rfl, h1, r1⟩ := trodAll_cons r0
  obtain ⟨v2, vs2, d2, ds2, p2, q2, rfl, rfl, rfl, h2, r2⟩ := trodAll_cons r1
  obtain ⟨v3, vs3, d3, ds3, p3, q3, rfl, rfl, rfl, h3, r3⟩ := trodAll_cons r2
  obtain ⟨v4, vs4, d4, ds4, p4, q4, rfl, rfl, rfl, h4, r4⟩ := trodAll_cons r3
  obtain ⟨v5, vs5, d5, ds5, p5, q5, rfl, rfl, rfl, h5, r5⟩ := trodAll_cons r4
  obtain ⟨v6, vs6, d6, ds6, p6, q6, rfl, rfl, rfl, h6, r6⟩ := trodAll_cons r5
  obtain ⟨rfl, rfl, rfl⟩ := trodAll_nil r6
  obtain rfl : args = #[v0, v1, v2, v3, v4, v5, v6] := by cases args; simp_all
  obtain ⟨rfl, rfl⟩ := trodVars_none hV
  obtain ⟨a0, len0, cap0, rfl⟩ := okWide_slice Ybaf.underlying22 (hval 0 22 v0 rfl rfl)
  obtain ⟨x1, rfl, rfl, rfl, wx1⟩ := open_int Ybaf.underlying5 (hval 1 5 v1 rfl rfl) h1
  obtain ⟨x2, rfl, rfl, rfl⟩ := open_bool Ybaf.underlying4 (hval 2 4 v2 rfl rfl) h2
  obtain ⟨x3, rfl, rfl, rfl, wx3⟩ := open_int Ybaf.underlying3 (hval 3 3 v3 rfl rfl) h3
  obtain ⟨x4, rfl, rfl, rfl, wx4⟩ := open_string Ybaf.underlying9 (hval 4 9 v4 rfl rfl) h4
  obtain ⟨x5, rfl, rfl, rfl, wx5⟩ := open_int Ybaf.underlying3 (hval 5 3 v5 rfl rfl) h5
  obtain ⟨x6, rfl, rfl, rfl⟩ := open_bool Ybaf.underlying4 (hval 6 4 v6 rfl rfl) h6
  have k0 := h0
  have lt0 : ∀ x ∈ p0, x.block < W.heap.size := by obtain ⟨m, hm⟩ := k0; exact DataW.trod_lt m _ _ _ hm
  obtain ⟨z0, w0⟩ : ∃ zs, IsRow .i64 W a0 len0 cap0 zs := by
    obtain ⟨fuel, hf⟩ := h0
    rcases open_ints Ybaf.underlying22 Ybaf.underlying3 (by kernel_rfl) hf with ⟨hcs, _⟩ | ⟨x, l, c, zs, hcs, _, hl, hm, hz, _, hcell, hwz⟩
    · simp [Value.cells] at hcs
      obtain ⟨rfl, rfl, rfl⟩ := hcs
      exact ⟨[], .inl ⟨rfl, rfl, rfl, rfl⟩⟩
    · simp [Value.cells] at hcs
      obtain ⟨rfl, rfl, rfl⟩ := hcs
      exact ⟨zs, .inr ⟨_, rfl, hl, hm, by simpa using hz, hcell, hwz⟩⟩
  clear hA0 hval0
  refine (law_any F.told a0 len0 cap0 z0 x1 x2 x3 x4 x5 x6 W hF wx1 w0).mono fun e W' ⟨he, bel⟩ => ?_
  subst he
  exact ⟨_, rfl, _, _, _, [], _, [], hW', trodAll_mk1 (shut_bool Ybaf.underlying4 _), (trodAll_cons_mk (Below.trod Ybaf.laidOut (by kernel_rfl) (of_decide_eq_true (by kernel_rfl)) k0 bel lt0) (trodAll_cons_mk (shut_int Ybaf.underlying5 wx1) (trodAll_cons_mk (shut_bool Ybaf.underlying4 _) (trodAll_cons_mk (shut_int Ybaf.underlying3 wx3) (trodAll_cons_mk (shut_string Ybaf.underlying9 wx4) (trodAll_cons_mk (shut_int Ybaf.underlying3 wx5) (trodAll_cons_mk (shut_bool Ybaf.underlying4 _) trodAll_mk0))))))), rfl, bel.frame _, fun h => by cases h⟩

theorem law_told : Rows.LawS3668BRequiredToldSaid :=
  Claim7.holds_of_told_any 3 Ybaf.f3 "fmt.errorf" [] [] (true, "3fe57962c400cfcd2c66c336d5db89362a14068a76937cca989040be00e83a54") true false (by kernel_rfl) rfl rfl rfl Ybaf.laidOut (by kernel_rfl) rfl ⟨rfl, rfl, rfl, rfl, rfl, rfl, rfl⟩ rfl rfl (by kernel_rfl) (by kernel_rfl) Ybaf.func3 (by kernel_rfl)
    (of_decide_eq_true (by kernel_rfl)) (of_decide_eq_true (by kernel_rfl)) Ybaf.stops.symm rfl Ybaf.stopKnobs.symm (by kernel_rfl)
    (by kernel_rfl) (by kernel_rfl) (by kernel_rfl) (by kernel_rfl) (by kernel_rfl) (by kernel_rfl) (by kernel_rfl) (by kernel_rfl) (by kernel_rfl) rfl (by kernel_rfl) rfl rfl
    rfl rfl
    rfl (by kernel_rfl) (by kernel_rfl) (by kernel_rfl) (by decide) (by kernel_rfl)
    (OpenClaim.moreEntering_of (by kernel_rfl) (by kernel_rfl) (by kernel_rfl) (by kernel_rfl) (by kernel_rfl) (by kernel_rfl) (by kernel_rfl) (by kernel_rfl) (by kernel_rfl) (by kernel_rfl))
    ⟨_, WideRow.started_initial, Ybaf.quiet _⟩
    (fun os started _ H enc _ => law_lifted os started H enc)
end Go.Proofs.YbulkbwycFmt
