import Derived.Test.YbulkoboLaw
import Derived.ProofKit
import Derived.OpenShut
import Derived.ShutString
import Derived.ChangeOld
import Derived.Below
namespace Go.Proofs.Ybulkobo
open Go.ChangeShapes Go.WideShapes Go.ChangeAt Go.RowKit
set_option linter.unusedVariables false
set_option linter.unusedSimpArgs false

theorem own : ownKnob Yba.prog.godebug = none := by kernel_rfl
theorem laidOut : laidOutB Yba.prog = true := by kernel_rfl
theorem Yba.cells5 : Yba.prog.cellsOf 5 = 1 := by kernel_rfl
theorem Yba.cells23 : Yba.prog.cellsOf 23 = 8 := by kernel_rfl

theorem list8 {α : Type} {cs : Array α} (h : cs.size = 8) : ∃ c0 c1 c2 c3 c4 c5 c6 c7, cs = #[c0, c1, c2, c3, c4, c5, c6, c7] := by
  obtain ⟨l⟩ := cs
  match l, h with
  | [c0, c1, c2, c3, c4, c5, c6, c7], _ => exact ⟨c0, c1, c2, c3, c4, c5, c6, c7, rfl⟩

theorem int_cell {H : Type} {enc : TypeId × Value → H} {w : World} {m : Nat} {c : Value} {x : DataW H × List MemPlace}
    (h : DataW.trod enc Yba.prog w 0 (fun _ => true) true m 5 [c] = some x) : ∃ z, c = .int .u8 z := by
  obtain ⟨z, h1, _⟩ := DataW.trod_int Yba.underlying5 h
  exact ⟨z, by simpa using h1⟩

theorem open_arr8 {H : Type} {enc : TypeId × Value → H} {w : World} {r : Reach} {b0 : Nat} {v : Value} {d : DataW H} {p : List MemPlace}
    (hv : Value.okWide Yba.prog w r b0 23 v) (h : DataW.Trod enc Yba.prog w 0 (fun _ => true) true 23 v d p) :
    ∃ o0 o1 o2 o3 o4 o5 o6 o7, v = .agg #[.int .u8 o0, .int .u8 o1, .int .u8 o2, .int .u8 o3, .int .u8 o4, .int .u8 o5, .int .u8 o6, .int .u8 o7] := by
  obtain ⟨cs, rfl, hsz⟩ : ∃ cs, v = .agg cs ∧ cs.size = 8 := by
    simp only [Value.okWide, Yba.underlying23] at hv
    obtain ⟨cs, h1, h2, _⟩ := hv
    exact ⟨cs, h1, h2.trans Yba.cells23⟩
  obtain ⟨fuel, hf⟩ := h
  obtain ⟨xs, m, _, _, _, hxl, hx⟩ := DataW.trod_array Yba.underlying23 hf
  rw [Yba.cells5] at hx
  obtain ⟨c0, c1, c2, c3, c4, c5, c6, c7, rfl⟩ := list8 hsz
  have key : ∀ i c, i < 8 → (([c0, c1, c2, c3, c4, c5, c6, c7] : List Value).drop i).take 1 = [c] → ∃ z, c = .int .u8 z := by
    intro i c hi hc
    have := hx i hi
    simp only [Value.cells, Nat.mul_one] at this
    rw [hc] at this
    rw [List.getElem?_eq_getElem (by omega)] at this
    exact int_cell this
  obtain ⟨o0, rfl⟩ := key 0 c0 (by omega) rfl
  obtain ⟨o1, rfl⟩ := key 1 c1 (by omega) rfl
  obtain ⟨o2, rfl⟩ := key 2 c2 (by omega) rfl
  obtain ⟨o3, rfl⟩ := key 3 c3 (by omega) rfl
  obtain ⟨o4, rfl⟩ := key 4 c4 (by omega) rfl
  obtain ⟨o5, rfl⟩ := key 5 c5 (by omega) rfl
  obtain ⟨o6, rfl⟩ := key 6 c6 (by omega) rfl
  obtain ⟨o7, rfl⟩ := key 7 c7 (by omega) rfl
  exact ⟨o0, o1, o2, o3, o4, o5, o6, o7, rfl⟩

theorem open_row {H : Type} {enc : TypeId × Value → H} {W : World} {a : Option Addr} {len cap : Nat} {d : DataW H} {p : List MemPlace}
    (h : DataW.Trod enc Yba.prog W 0 (fun _ => true) true 22 (.slice a len cap) d p) : len ≤ maxLen ∧ ∃ zs, IsRow W.heap.size .u8 W a len cap zs := by
  obtain ⟨fuel, hf⟩ := h
  rcases open_ints Yba.underlying22 Yba.underlying5 (by kernel_rfl) hf with ⟨hcs, _⟩ | ⟨x, l, c, zs, hcs, _, hl, hm, hz, _, hcell, hwz⟩
  · simp [Value.cells] at hcs
    obtain ⟨rfl, rfl, rfl⟩ := hcs
    exact ⟨Nat.zero_le _, [], .inl ⟨rfl, rfl, rfl, rfl⟩⟩
  · simp [Value.cells] at hcs
    obtain ⟨rfl, rfl, rfl⟩ := hcs
    refine ⟨Nat.le_trans hl hm, zs, .inr ⟨_, rfl, fun h0 => ?_, hl, hm, by simpa using hz, hcell, hwz⟩⟩
    have := World.block_lt_of_cell? W _ (hcell 0 h0)
    rwa [add_block] at this

set_option maxRecDepth 100000 in
theorem lifted (os : Os) (started : os.Started) (H : Type) (enc : TypeId × Value → H) :
    ReturnsInHanded {} Yba.checked os 3 .any (Rows.lawS0729AStartSpec.pre6 enc Yba.prog Yba.f3 Rows.lawS0729AStartRow.domain false) (Rows.lawS0729AStartSpec.post enc Yba.prog Yba.f3 false true false false) := by
  refine returnsInHanded_of_change (C := Yba.checked) own started (by kernel_rfl) Yba.func3
    (ChangeSpec.witness6 (enc := enc) (C := Yba.checked) false ⟨#[], #[.slice none 0 0, .agg #[.int .u8 0, .int .u8 0, .int .u8 0, .int .u8 0, .int .u8 0, .int .u8 0, .int .u8 0, .int .u8 0]], []⟩ 8 (by kernel_rfl) (by kernel_rfl) (by kernel_rfl) (by kernel_rfl)) ?_
  intro W base args ds gs before hval0 hW hcnd _
  have hval : ∀ (j : Nat) t v, Yba.f3.params[j]? = some t → args[j]? = some v → Value.okWide Yba.prog W .any base t v := hval0
  have hW' := hW
  obtain ⟨p, q, hA0, hV, rfl, hfz, hnd⟩ := hW
  have hA : DataW.TrodAll enc Yba.prog W 0 (fun _ => true) true Yba.f3.params.toList args.toList ds p := hA0
  rw [Yba.params3] at hA hval
  obtain ⟨v0, vs0, d0, ds0, p0, q0, hargs, rfl, rfl, h0, r0⟩ := trodAll_cons hA
  obtain ⟨v1, vs1, d1, ds1, p1, q1, rfl, rfl, rfl, h1, r1⟩ := trodAll_cons r0
  obtain ⟨rfl, rfl, rfl⟩ := trodAll_nil r1
  obtain rfl : args = #[v0, v1] := by cases args; simp_all
  obtain ⟨rfl, rfl⟩ := trodVars_none hV
  obtain ⟨a0, len0, cap0, rfl⟩ := okWide_slice Yba.underlying22 (hval 0 22 v0 rfl rfl)
  have lt0 : ∀ x ∈ p0, x.block < W.heap.size := by obtain ⟨m, hm⟩ := h0; exact DataW.trod_lt m _ _ _ hm
  have lt1 : ∀ x ∈ p1, x.block < W.heap.size := by obtain ⟨m, hm⟩ := h1; exact DataW.trod_lt m _ _ _ hm
  obtain ⟨hlen, zs, hrow⟩ := open_row h0
  obtain ⟨o0, o1, o2, o3, o4, o5, o6, o7, rfl⟩ := open_arr8 (hval 1 23 v1 rfl rfl) h1
  clear hA0 hval0
  refine (walk a0 len0 cap0 zs o0 o1 o2 o3 o4 o5 o6 o7 W hlen hrow).mono fun e W' ⟨he, bel⟩ => ?_
  subst he
  exact ⟨_, rfl, _, _, _, [], _, [], hW', trodAll_mk1 (shut_bool Yba.underlying4 _), (trodAll_cons_mk (Below.trod laidOut (by kernel_rfl) (of_decide_eq_true (by kernel_rfl)) h0 bel lt0) (trodAll_cons_mk (Below.trod laidOut (by kernel_rfl) (of_decide_eq_true (by kernel_rfl)) h1 bel lt1) trodAll_mk0)), rfl, bel.frame _, fun h => by cases h⟩

theorem over : Rows.lawS0729AStartRow.holds Yba.pinned (OpenSpec.ofChange Rows.lawS0729AStartSpec) :=
  OpenClaim.holds_of_wide 3 Yba.f3 rfl rfl rfl rfl rfl rfl rfl ⟨rfl, rfl, rfl, rfl, rfl⟩ rfl rfl rfl rfl rfl (by kernel_rfl) Yba.func3 (by kernel_rfl)
    (of_decide_eq_true (by kernel_rfl)) (by unfold Func.isWrapper; first | (rw [if_pos (by decide +kernel)]; kernel_rfl) | (rw [if_neg (by decide +kernel)]; exact ⟨rfl, rfl⟩))
    (fun os started H enc _ => lifted os started H enc)

theorem proved : Rows.LawS0729AStartSaid := over
end Go.Proofs.Ybulkobo
