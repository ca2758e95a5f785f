import Derived.Test.YbulkogyLaw
import Derived.ProofKit
import Derived.OpenShut
import Derived.ShutString
import Derived.ChangeOld
import Derived.Below
namespace Go.Proofs.Ybulkogy
open Go.ChangeShapes Go.WideShapes Go.ChangeAt Go.RowKit
set_option linter.unusedVariables false
set_option linter.unusedSimpArgs false

theorem own : ownKnob Yba.prog.godebug = none := by kernel_rfl
theorem laidOut : laidOutB Yba.prog = true := by kernel_rfl
theorem Yba.cells5 : Yba.prog.cellsOf 5 = 1 := by kernel_rfl
theorem Yba.cells35 : Yba.prog.cellsOf 35 = 1 := by kernel_rfl
theorem Yba.cells37 : Yba.prog.cellsOf 37 = 2 := by kernel_rfl

theorem list_of {α : Type} {Q : Nat → α → Prop} (n : Nat) (h : ∀ i, i < n → ∃ x, Q i x) : ∃ R : List α, R.length = n ∧ ∀ i x, R[i]? = some x → Q i x := by
  induction n with
  | zero => exact ⟨[], rfl, fun i x hx => by simp at hx⟩
  | succ n ih =>
    obtain ⟨R, h1, h2⟩ := ih (fun i hi => h i (by omega))
    obtain ⟨x, hx⟩ := h n (by omega)
    refine ⟨R ++ [x], by simp [h1], fun i y hy => ?_⟩
    by_cases e : i < R.length
    · rw [List.getElem?_append_left e] at hy; exact h2 i y hy
    · have hi := (List.getElem?_eq_some_iff.1 hy).1
      simp at hi
      obtain rfl : i = n := by omega
      rw [List.getElem?_append_right (by omega), h1, Nat.sub_self] at hy
      simp at hy
      exact hy ▸ hx

theorem open_steps {H : Type} {enc : TypeId × Value → H} {W : World} {a : Option Addr} {len cap : Nat} {d : DataW H} {p : List MemPlace}
    (h : DataW.Trod enc Yba.prog W 0 (fun _ => true) true 22 (.slice a len cap) d p) : len ≤ maxLen ∧ ∃ R, R.length = len ∧ ArgSt W a R := by
  obtain ⟨fuel, hf⟩ := h
  rcases DataW.trod_slice Yba.underlying22 hf with ⟨h0, _⟩ | ⟨x, l, c, elems, rest, m, _, hcs, _, hb, hl, hm, hlen, hel, hsp, hns⟩
  · simp [Value.cells] at h0
    obtain ⟨rfl, rfl, rfl⟩ := h0
    exact ⟨Nat.zero_le _, [], rfl, fun i b ms hi => by simp at hi⟩
  · simp [Value.cells] at hcs
    obtain ⟨rfl, rfl, rfl⟩ := hcs
    refine ⟨Nat.le_trans hl hm, ?_⟩
    have key : ∀ i, i < len → ∃ x' : Int × List Int, (∃ (g off : Nat) (am : Option Addr) (cm : Nat), some x = some (⟨g, off, none⟩ : Addr) ∧ 0 ≤ x'.1 ∧ x'.1 ≤ 255 ∧ (x'.2.length : Int) ≤ 9223372036854775807 ∧
        W.cell? ⟨g, off + i * 2, none⟩ = some (.int .u8 x'.1) ∧ W.cell? ⟨g, off + i * 2 + 1, none⟩ = some (.slice am x'.2.length cm) ∧ ∀ (j : Nat) (m : Int), x'.2[j]? = some m → ∃ (g' off' : Nat), am = some ⟨g', off', none⟩ ∧ W.cell? ⟨g', off' + j, none⟩ = some (.int .u8 m) ∧ 0 ≤ m ∧ m ≤ 255) := by
      intro i hi
      have he := hel i hi
      rw [List.getElem?_eq_getElem (by omega), Option.bind_eq_some_iff] at he
      obtain ⟨cs, hcs, hst⟩ := he
      rw [Yba.cells37] at hcs
      obtain ⟨y0, y1, m', _, hcl, t0, t1⟩ := trod_struct2 Yba.underlying37 hst
      rw [Yba.cells37] at hcl
      match cs, hcl with
      | [c0, c1], _ =>
        have q0 := (World.cells?_some hcs).2.2 0 (by simp)
        have q1 := (World.cells?_some hcs).2.2 1 (by simp)
        rw [Yba.cells5] at t0
        rw [Yba.cells35] at t1
        have t0' : DataW.trod enc Yba.prog W 0 (fun _ => true) true m' 5 [c0] = some y0 := t0
        have t1' : DataW.trod enc Yba.prog W 0 (fun _ => true) true m' 35 [c1] = some y1 := t1
        have q0' : W.cell? ((x.add (i * 2)).add 0) = some c0 := by rw [q0]; rfl
        have q1' : W.cell? ((x.add (i * 2)).add 1) = some c1 := by rw [q1]; rfl
        obtain ⟨b, hb1, _, wf0⟩ := DataW.trod_int Yba.underlying5 t0'
        simp at hb1
        subst hb1
        obtain ⟨g, off, spot⟩ := x
        have hspot : spot = none := by
          have he0 := hel 0 (by omega)
          rw [List.getElem?_eq_getElem (by omega), Option.bind_eq_some_iff] at he0
          obtain ⟨cs0, hcs0, _⟩ := he0
          rw [Yba.cells37] at hcs0
          have hl0 := (World.cells?_some hcs0).2.1
          have r0 := (World.cells?_some hcs0).2.2 0 (by omega)
          rw [List.getElem?_eq_getElem (by omega)] at r0
          simpa [Addr.add] using World.cell?_spot r0
        subst hspot
        rw [Addr.add_lit, Addr.add_lit] at q0' q1'
        have bb := bounds_u8 wf0
        rcases open_ints Yba.underlying35 Yba.underlying5 (by kernel_rfl) t1' with ⟨hcs', _⟩ | ⟨a', l', c', zs, hcs', _, hl', hm', hz, _, hcell, hwz⟩
        · simp at hcs'
          subst hcs'
          exact ⟨(b, []), g, off, none, 0, rfl, bb.1, bb.2, by simp, q0', q1', fun j m hj => by simp at hj⟩
        · simp at hcs'
          subst hcs'
          have hzl : zs.length = c' := by simpa using hz
          have hlen' : (zs.take l').length = l' := by simp; omega
          refine ⟨(b, zs.take l'), g, off, some a', c', rfl, bb.1, bb.2, ?_, q0', ?_, fun j m hj => ?_⟩
          · simp only [hlen']; unfold maxLen at hm'; omega
          · simp only [hlen']; exact q1'
          · have hj1 := (List.getElem?_eq_some_iff.1 hj).1
            simp at hj1
            simp only [] at hj
            rw [List.getElem?_take_of_lt (by omega)] at hj
            have hc := hcell j (by omega)
            have hm2 : zs.getD j 0 = m := by rw [List.getD_eq_getElem?_getD, hj]; rfl
            rw [hm2] at hc
            obtain ⟨g', off', spot'⟩ := a'
            have hsp' : spot' = none := by simpa [Addr.add] using World.cell?_spot (hcell 0 (by omega))
            subst hsp'
            rw [Addr.add_lit] at hc
            have bm := bounds_u8 (hwz m (List.mem_of_getElem? hj))
            exact ⟨g', off', rfl, hc, bm.1, bm.2⟩
    obtain ⟨R, h1, h2⟩ := list_of len key
    refine ⟨R, h1, fun i b ms hi => ?_⟩
    exact h2 i (b, ms) hi

set_option maxRecDepth 100000 in
theorem lifted (os : Os) (started : os.Started) (H : Type) (enc : TypeId × Value → H) :
    ReturnsInHanded {} Yba.checked os 3 .any (Rows.lawS0739AMatchesCausalitySpec.pre6 enc Yba.prog Yba.f3 Rows.lawS0739AMatchesCausalityRow.domain false) (Rows.lawS0739AMatchesCausalitySpec.post enc Yba.prog Yba.f3 false true false false) := by
  refine returnsInHanded_of_change (C := Yba.checked) own started (by kernel_rfl) Yba.func3
    (ChangeSpec.witness6 (enc := enc) (C := Yba.checked) false ⟨#[], #[.int .u8 0, .slice none 0 0, .int .u8 0, .int .u8 0, .int .u8 0], []⟩ 8 (by kernel_rfl) (by kernel_rfl) (by kernel_rfl) (by kernel_rfl)) ?_
  intro W base args ds gs before hval0 hW hcnd _
  have hval : ∀ (j : Nat) t v, Yba.f3.params[j]? = some t → args[j]? = some v → Value.okWide Yba.prog W .any base t v := hval0
  have hW' := hW
  obtain ⟨p, q, hA0, hV, rfl, hfz, hnd⟩ := hW
  have hA : DataW.TrodAll enc Yba.prog W 0 (fun _ => true) true Yba.f3.params.toList args.toList ds p := hA0
  rw [Yba.params3] at hA hval
  obtain ⟨v0, vs0, d0, ds0, p0, q0, hargs, rfl, rfl, h0, r0⟩ := trodAll_cons hA
  obtain ⟨v1, vs1, d1, ds1, p1, q1, rfl, rfl, rfl, h1, r1⟩ := trodAll_cons r0
  obtain ⟨v2, vs2, d2, ds2, p2, q2, rfl, rfl, rfl, h2, r2⟩ := trodAll_cons r1
  obtain ⟨v3, vs3, d3, ds3, p3, q3, rfl, rfl, rfl, h3, r3⟩ := trodAll_cons r2
  obtain ⟨v4, vs4, d4, ds4, p4, q4, rfl, rfl, rfl, h4, r4⟩ := trodAll_cons r3
  obtain ⟨rfl, rfl, rfl⟩ := trodAll_nil r4
  obtain rfl : args = #[v0, v1, v2, v3, v4] := by cases args; simp_all
  obtain ⟨rfl, rfl⟩ := trodVars_none hV
  obtain ⟨a0, rfl, rfl, rfl, w0⟩ := open_int Yba.underlying5 (hval 0 5 v0 rfl rfl) h0
  obtain ⟨a1, len1, cap1, rfl⟩ := okWide_slice Yba.underlying22 (hval 1 22 v1 rfl rfl)
  have lt1 : ∀ x ∈ p1, x.block < W.heap.size := by obtain ⟨m, hm⟩ := h1; exact DataW.trod_lt m _ _ _ hm
  obtain ⟨hlen, R, hRl, hR⟩ := open_steps h1
  obtain ⟨a2, rfl, rfl, rfl, w2⟩ := open_int Yba.underlying5 (hval 2 5 v2 rfl rfl) h2
  obtain ⟨a3, rfl, rfl, rfl, w3⟩ := open_int Yba.underlying5 (hval 3 5 v3 rfl rfl) h3
  obtain ⟨a4, rfl, rfl, rfl, w4⟩ := open_int Yba.underlying5 (hval 4 5 v4 rfl rfl) h4
  clear hA0 hval0
  have b0 := bounds_u8 w0
  have b2 := bounds_u8 w2
  have b3 := bounds_u8 w3
  have b4 := bounds_u8 w4
  refine (cause_law W a0 a2 a3 a4 a1 len1 cap1 R hR hRl (by unfold maxLen at hlen; omega) b0.1 b0.2 b2.1 b2.2 b3.1 b3.2 b4.1 b4.2).mono fun e W' ⟨he, bel⟩ => ?_
  subst he
  exact ⟨_, rfl, _, _, _, [], _, [], hW', trodAll_mk1 (shut_bool Yba.underlying4 _), (trodAll_cons_mk (shut_int Yba.underlying5 w0) (trodAll_cons_mk (Below.trod laidOut (by kernel_rfl) (of_decide_eq_true (by kernel_rfl)) h1 bel lt1) (trodAll_cons_mk (shut_int Yba.underlying5 w2) (trodAll_cons_mk (shut_int Yba.underlying5 w3) (trodAll_cons_mk (shut_int Yba.underlying5 w4) trodAll_mk0))))), rfl, bel.frame _, fun h => by cases h⟩

theorem over : Rows.lawS0739AMatchesCausalityRow.holds Yba.pinned (OpenSpec.ofChange Rows.lawS0739AMatchesCausalitySpec) :=
  OpenClaim.holds_of_wide 3 Yba.f3 rfl rfl rfl rfl rfl rfl rfl ⟨rfl, rfl, rfl, rfl, rfl⟩ rfl rfl rfl rfl rfl (by kernel_rfl) Yba.func3 (by kernel_rfl)
    (of_decide_eq_true (by kernel_rfl)) (by unfold Func.isWrapper; first | (rw [if_pos (by decide +kernel)]; kernel_rfl) | (rw [if_neg (by decide +kernel)]; exact ⟨rfl, rfl⟩))
    (fun os started H enc _ => lifted os started H enc)

/-- ████ THE STATEMENT ████ -/
theorem proved : Rows.LawS0739AMatchesCausalitySaid := over
end Go.Proofs.Ybulkogy
