import Derived.Test.YbulkoboFmtLawS
import Derived.Test.YbulkoboFmtCards
import Derived.Test.YbulkoboFmtTie
import Derived.WalkKit
import Derived.ProofKit
import Derived.OpenShut
import Derived.ShutString
import Derived.ChangeOld
import Derived.Below
import Derived.Stop.JoinedAt
import Derived.Stop.JoinedTold
import Derived.Stop.LaidErr
import Derived.SevenToldRow
import Derived.SevenTiedAt
namespace Go.Proofs.YbulkoboFmt.sectionLaw
open Go.ChangeShapes Go.WideShapes Go.ChangeAt Go.RowKit Go.Kit
open Go.Extern.Stop Go.Stop Go.Extern
set_option linter.unusedVariables false

theorem own : ownKnob Ybaf.prog.godebug = none := by kernel_rfl
theorem laidOut : laidOutB Ybaf.pinned.checked.prog = true := by kernel_rfl
theorem stops : Ybaf.pinned.checked.prog.stops = ["fmt.errorf", "fmt.Sprintf"] := by kernel_rfl
theorem stopKnobs : Ybaf.pinned.checked.prog.stopKnobs = [] := by kernel_rfl
theorem quiet (os : Os) : Stop.quiet Ybaf.pinned.checked.prog os := by
  intro k hk
  rw [stopKnobs] at hk
  cases hk

/-- A memory that holds what the row lists. -/
theorem laid_world (os : Os) : ∃ w0 : World, w0.os = os ∧ (w0.forCall (fun _ _ => 0) ⟨#[], #[.int .u16 0, .int .u8 0, .int .u16 0, .slice none 0 0], []⟩).variablesB Ybaf.prog = true ∧
    ((w0.forCall (fun _ _ => 0) ⟨#[], #[.int .u16 0, .int .u8 0, .int .u16 0, .slice none 0 0], []⟩).heap.toList.drop Ybaf.prog.globals.size).take ((begin Ybaf.prog (fun _ _ => 0) default).world.heap.size - Ybaf.prog.globals.size) =
      (begin Ybaf.prog (fun _ _ => 0) default).world.heap.toList.drop Ybaf.prog.globals.size ∧
    Input.okWideB Ybaf.prog (w0.forCall (fun _ _ => 0) ⟨#[], #[.int .u16 0, .int .u8 0, .int .u16 0, .slice none 0 0], []⟩) 4 ⟨#[], #[.int .u16 0, .int .u8 0, .int .u16 0, .slice none 0 0], []⟩ = true ∧
    (∀ (H : Type) (enc : TypeId × Value → H), (OpenSpec.ofChange Rows.lawS0729BSectionSpec).bare.preB enc Ybaf.prog Ybaf.f4 [] false (w0.forCall (fun _ _ => 0) ⟨#[], #[.int .u16 0, .int .u8 0, .int .u16 0, .slice none 0 0], []⟩).memory #[.int .u16 0, .int .u8 0, .int .u16 0, .slice none 0 0] 8 = true ∧
      (OpenSpec.ofChange Rows.lawS0729BSectionSpec).bare.sizedB enc Ybaf.prog Ybaf.f4 false (w0.forCall (fun _ _ => 0) ⟨#[], #[.int .u16 0, .int .u8 0, .int .u16 0, .slice none 0 0], []⟩).memory #[.int .u16 0, .int .u8 0, .int .u16 0, .slice none 0 0] 8 = true) ∧
    laidMetH Ybaf.prog Rows.lawS0729BSectionRow.laid (w0.forCall (fun _ _ => 0) ⟨#[], #[.int .u16 0, .int .u8 0, .int .u16 0, .slice none 0 0], []⟩).memory := by
  refine ⟨{ World.holding Ybaf.prog os ⟨#[.cells #[.string ⟨#[69, 79, 70]⟩] 83, .cells #[.string ⟨#[117, 110, 101, 120, 112, 101, 99, 116, 101, 100, 32, 69, 79, 70]⟩] 83, .cells #[.string ⟨#[115, 104, 111, 114, 116, 32, 98, 117, 102, 102, 101, 114]⟩] 83], #[], []⟩ with
    heap := (((World.holding Ybaf.prog os ⟨#[.cells #[.string ⟨#[69, 79, 70]⟩] 83, .cells #[.string ⟨#[117, 110, 101, 120, 112, 101, 99, 116, 101, 100, 32, 69, 79, 70]⟩] 83, .cells #[.string ⟨#[115, 104, 111, 114, 116, 32, 98, 117, 102, 102, 101, 114]⟩] 83], #[], []⟩).heap.setIfInBounds 2 (.cells #[.iface 81 (.pointer (some ⟨10, 0, none⟩))] 44)).setIfInBounds 3 (.cells #[.iface 81 (.pointer (some ⟨11, 0, none⟩))] 44)).setIfInBounds 4 (.cells #[.iface 81 (.pointer (some ⟨12, 0, none⟩))] 44) }, rfl, by kernel_rfl, by kernel_rfl, by kernel_rfl, fun H enc => ⟨by kernel_rfl, by kernel_rfl⟩, ?_⟩
  exact laidMet_of_run (ps := [.cell 4 0, .cell 12 0, .cell 2 0, .cell 10 0, .cell 3 0, .cell 11 0]) 8 (by kernel_rfl) (by kernel_rfl) (by kernel_rfl)

set_option maxRecDepth 100000 in
set_option maxHeartbeats 1600000 in
theorem lifted (os : Os) (started : os.Started) (H : Type) (enc : TypeId × Value → H) :
    ReturnsInTold none {} Ybaf.checked os 4 .any Input.okWide ((OpenSpec.ofChange Rows.lawS0729BSectionSpec).preRow enc Ybaf.prog Ybaf.f4 [] false Rows.lawS0729BSectionRow.laid) (fun F => ((OpenSpec.ofChange Rows.lawS0729BSectionSpec).at F).post enc Ybaf.prog Ybaf.f4 false true false false) (aloneAtReturn Ybaf.prog) nothingAlways := by
  obtain ⟨w0, k1, k2, k3, k4, k5, k6⟩ := laid_world os
  refine returnsInTold_of_row (C := Ybaf.checked) (s := OpenSpec.ofChange Rows.lawS0729BSectionSpec) (by kernel_rfl) own started (by kernel_rfl) Ybaf.func4
    (OpenSpec.witness_stopped_at (enc := enc) (C := Ybaf.checked) false w0 #[.int .u16 0, .int .u8 0, .int .u16 0, .slice none 0 0] k1 k2 k3 k4
      (OpenSpec.preRow_of_B rfl 8 (k5 H enc).1 (k5 H enc).2 k6)) ?_
  intro F W base args ds gs before _ hF hval0 hW _ _ _ _ _
  have hval : ∀ (j : Nat) t v, Ybaf.f4.params[j]? = some t → args[j]? = some v → Value.okWide Ybaf.prog W .any base t v := hval0
  have hW' := hW
  obtain ⟨p, q, hA0, hV, rfl, hfz, hnd⟩ := hW
  have hA : DataW.TrodAll enc Ybaf.prog W 0 (fun _ => true) true Ybaf.f4.params.toList args.toList ds p := hA0
  rw [Ybaf.params4] at hA hval
  obtain ⟨v0, vs0, d0, ds0, p0, q0, hargs, rfl, rfl, h0, r0⟩ := trodAll_cons hA
  obtain ⟨v1, vs1, d1, ds1, p1, q1, rfl, rfl, rfl, h1, r1⟩ := trodAll_cons r0
  obtain ⟨v2, vs2, d2, ds2, p2, q2, rfl, rfl, rfl, h2, r2⟩ := trodAll_cons r1
  obtain ⟨v3, vs3, d3, ds3, p3, q3, rfl, rfl, rfl, h3, r3⟩ := trodAll_cons r2
  obtain ⟨rfl, rfl, rfl⟩ := trodAll_nil r3
  obtain rfl : args = #[v0, v1, v2, v3] := by cases args; simp_all
  obtain ⟨rfl, rfl⟩ := trodVars_none hV
  obtain ⟨a0, rfl, rfl, rfl, w0⟩ := open_int Ybaf.underlying29 (hval 0 29 v0 rfl rfl) h0
  obtain ⟨a1, rfl, rfl, rfl, w1⟩ := open_int Ybaf.underlying5 (hval 1 5 v1 rfl rfl) h1
  obtain ⟨a2, rfl, rfl, rfl, w2⟩ := open_int Ybaf.underlying29 (hval 2 29 v2 rfl rfl) h2
  obtain ⟨a3, len3, cap3, rfl⟩ := okWide_slice Ybaf.underlying23 (hval 3 23 v3 rfl rfl)
  have k3 := h3
  have lt3 : ∀ x ∈ p3, x.block < W.heap.size := by obtain ⟨m, hm⟩ := k3; exact DataW.trod_lt m _ _ _ hm
  obtain ⟨z3, w3⟩ : ∃ zs, IsRow .u8 W a3 len3 cap3 zs := by
    obtain ⟨fuel, hf⟩ := h3
    rcases open_ints Ybaf.underlying23 Ybaf.underlying5 (by kernel_rfl) hf with ⟨hcs, _⟩ | ⟨x, l, c, zs, hcs, _, hl, hm, hz, _, hcell, hwz⟩
    · simp [Value.cells] at hcs
      obtain ⟨rfl, rfl, rfl⟩ := hcs
      exact ⟨[], .inl ⟨rfl, rfl, rfl, rfl⟩⟩
    · simp [Value.cells] at hcs
      obtain ⟨rfl, rfl, rfl⟩ := hcs
      exact ⟨zs, .inr ⟨_, rfl, hl, hm, by simpa using hz, hcell, hwz⟩⟩
  clear hA0 hval0
  have b0 := bounds_u16 w0
  have b1 := bounds_u8 w1
  have b2 := bounds_u16 w2
  refine (sec_law a0 a1 a2 a3 len3 cap3 z3 W w3 b0.1 (by omega) b1.1 b1.2 b2.1 (by omega)).mono fun e W' ⟨he, bel⟩ => ?_
  subst he
  exact ⟨_, rfl, _, _, _, [], _, [], hW', trodAll_mk1 (shut_bool Ybaf.underlying4 _), (trodAll_cons_mk (shut_int Ybaf.underlying29 w0) (trodAll_cons_mk (shut_int Ybaf.underlying5 w1) (trodAll_cons_mk (shut_int Ybaf.underlying29 w2) (trodAll_cons_mk (Below.trod laidOut (by kernel_rfl) (of_decide_eq_true (by kernel_rfl)) k3 bel lt3) trodAll_mk0)))), rfl, bel.frame _, fun h => by cases h⟩

/-- ████ THE STATEMENT ████ -/
theorem proved : Rows.LawS0729BSectionToldSaid :=
  Claim7.holds_of_told_tied_any_at .later 4 Ybaf.f4 "fmt.errorf" ["fmt.Sprintf"] [] _ _ _ _ _ (by kernel_rfl) rfl rfl rfl laidOut (by kernel_rfl) rfl ⟨rfl, rfl, rfl, rfl, rfl, rfl, rfl⟩ rfl rfl (by kernel_rfl) (by kernel_rfl) Ybaf.func4 (by kernel_rfl)
    (of_decide_eq_true (by kernel_rfl)) (of_decide_eq_true (by kernel_rfl)) stops.symm rfl stopKnobs.symm (by kernel_rfl)
    (by kernel_rfl) (by kernel_rfl) (by kernel_rfl) (by kernel_rfl) (by kernel_rfl) (by kernel_rfl) (by kernel_rfl) (by kernel_rfl) (by kernel_rfl) rfl (by kernel_rfl) rfl rfl
    rfl rfl
    rfl (by kernel_rfl) (by kernel_rfl) (by kernel_rfl) (by decide) (by kernel_rfl) lawS0729BSection_row_tie
    (OpenClaim.moreEntering_of (by kernel_rfl) (by kernel_rfl) (by kernel_rfl) (by kernel_rfl) (by kernel_rfl) (by kernel_rfl) (by kernel_rfl) (by kernel_rfl) (by kernel_rfl) (by kernel_rfl))
    ⟨_, WideRow.started_initial, quiet _⟩
    (fun os started _ H enc _ => lifted os started H enc)
end Go.Proofs.YbulkoboFmt.sectionLaw
