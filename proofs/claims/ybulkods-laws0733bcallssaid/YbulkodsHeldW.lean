import Derived.Test.YbulkodsHeld
namespace Go.Proofs.Ybulkods
open Go.RowKit
set_option linter.unusedSimpArgs false
set_option linter.unusedVariables false

theorem take_snoc {l : List Int} {k : Nat} {x : Int} (h : l[k]? = some x) : l.take (k + 1) = l.take k ++ [x] := by
  have hk := (List.getElem?_eq_some_iff.1 h).1
  rw [List.take_succ_eq_append_getElem hk, (List.getElem?_eq_some_iff.1 h).2]
theorem step_hit {fr r m b x : Int} (h1 : fr ≤ x) (h2 : (x % m == r) = true) (h3 : b < 0 ∨ x < b) : step fr r m b x = x := by
  unfold step good; rw [if_pos]; exact ⟨by simp at h2; simp [h1, h2], h3⟩
theorem step_far {fr r m b x : Int} (h1 : ¬ fr ≤ x) : step fr r m b x = b := by
  unfold step good; rw [if_neg]; simp [h1]
theorem step_res {fr r m b x : Int} (h2 : (x % m == r) = false) : step fr r m b x = b := by
  unfold step good; rw [if_neg]; simp [h2]
theorem step_big {fr r m b x : Int} (h3 : ¬ b < 0) (h4 : ¬ x < b) : step fr r m b x = b := by
  unfold step; rw [if_neg]; rintro ⟨_, h | h⟩ <;> contradiction

set_option maxRecDepth 100000 in
set_option maxHeartbeats 2000000 in
theorem Held_walk (w : World) (T B : Nat) (hv fv av : Value) (to b r m fr : Int) (h F A : List Int) (hs : Sk w T B hv fv av to b r m h F A) (hm0 : 0 < m) (hm8 : m ≤ 8) (hh : ∀ x ∈ h, 0 ≤ x ∧ x ≤ 1000000)
    (hhl : h.length ≤ 1024) (hFl : F.length ≤ 1000000) (hAl : A.length ≤ 1000000) :
    Calls Yba.prog 26 #[.pointer (some ⟨T, 0, none⟩), .int .i64 to, .int .i64 b, .int .i64 fr, .int .i64 r, .int .i64 m] w fun e w' =>
      ∃ fv' av', ((best fr r m h < 0 ∧ e = .returned (.tuple #[.int .i64 0, .bool false]) ∧ Sk w' T B hv fv' av' to b r m h (F ++ [fr]) A) ∨ (0 ≤ best fr r m h ∧ e = .returned (.tuple #[.int .i64 (best fr r m h), .bool true]) ∧ Sk w' T B hv fv' av' to b r m h (F ++ [fr]) (A ++ [best fr r m h]))) ∧ Keep w w' ∧ Below B w w' := by
  obtain ⟨i0, hi, hz0, hz1, hz2⟩ := info_parts Yba.info3
  have c5 : w.cell? ⟨T, 5, none⟩ = some fv := cell_blk hs.hT rfl
  have hTl := lt_of_block hs.hT
  replace hs := hide hs; replace hh := hide hh
  obtain ⟨ao, ci, rfl⟩ := own_form hs.out.oF
  obtain ⟨ah, ch, rfl⟩ := own_form hs.out.oh
  obtain ⟨aa, ca, rfl⟩ := own_form hs.out.oA
  have hmn : ¬ m ≤ 0 := by omega
  have hmd : decide (m ≤ 0) = false := by simp; omega
  go_enter Yba.func26, Yba.ntmps26
  go_wp2_with (at_builtin; refine wpList_append_far _ rfl _ _ 28 rfl B 3 i0 (.int .i64 0) 1 8 Yba.underlying28 hi hz0 hz1 hz2 rfl (by decide) _ F.length (ns F) rfl (hs.out.oF.alloc _) ⟨w.heap.size, 0, none⟩ 1 1 [.int .i64 fr] rfl rfl (fun j u hj => new_cells1 w [.int .i64 fr] 3 hj) (by simp [Value.oneCell']) ?h3 ?h4 ?h5 ?_)
  case h3 => unfold maxLen; omega
  case h4 => omega
  case h5 => have := hs.out.hB; simp; omega
  intro v1 w1 ho hg hw
  obtain ⟨a1, c1, rfl⟩ := own_form ho
  have hx := hide (hs.out.froms ho hg (by simpa using hw))
  have d5 : w1.cell? ⟨T, 5, none⟩ = some (.slice ao F.length ci) := cell_blk hx.out.2.1 rfl
  have f5 : w1.frozen? ⟨T, 5, none⟩ = false := froz_blk hx.out.2.1 _
  have d1 : w1.cell? ⟨T, 1, none⟩ = some (.int .i64 to) := cell_blk hx.out.2.1 rfl
  have d2 : w1.cell? ⟨T, 2, none⟩ = some (.int .i64 b) := cell_blk hx.out.2.1 rfl
  have d3 : w1.cell? ⟨T, 3, none⟩ = some (.int .i64 r) := cell_blk hx.out.2.1 rfl
  have d4 : w1.cell? ⟨T, 4, none⟩ = some (.int .i64 m) := cell_blk hx.out.2.1 rfl
  have d0 : w1.cell? ⟨T, 0, none⟩ = some (.slice ah h.length ch) := cell_blk hx.out.2.1 rfl
  have d6 : w1.cell? ⟨T, 6, none⟩ = some (.slice aa A.length ca) := cell_blk hx.out.2.1 rfl
  clear ho hg hw c5
  go_wp2_with fail
  clear d0 d1 d2 d3 d4 d5 d6 f5
  generalize w1.setCell ⟨T, 5, none⟩ (.slice a1 (F.length + 1) c1) = W2 at hx ⊢
  have hs2 := hide hx.out.1
  have d6 : W2.cell? ⟨T, 6, none⟩ = some (.slice aa A.length ca) := cell_blk hs2.out.hT rfl
  have hhl' : (h.length : Int) ≤ 1024 := by omega
  go_loop [14, 67] (fun bb i => ∃ k : Nat, k ≤ h.length ∧ i = .int .i64 k ∧ bb = .int .i64 (best fr r m (h.take k))) (fun _ i => h.length - (intOf i).toNat)
  case atStart => exact ⟨0, Nat.zero_le _, rfl, rfl⟩
  case round =>
    obtain ⟨k, hk, rfl, rfl⟩ := hrel
    by_cases hlt : k < h.length
    · obtain ⟨x, hxk⟩ : ∃ x, h[k]? = some x := ⟨_, List.getElem?_eq_getElem hlt⟩
      obtain ⟨g, rfl, hcell⟩ := own_cell hs2.out.oh hxk
      have hx0 : 0 ≤ x := (hh.out x (List.mem_of_getElem? hxk)).1
      have hx1 : x ≤ 1000000 := (hh.out x (List.mem_of_getElem? hxk)).2
      have hlt' : (k : Int) < (h.length : Int) := by omega
      have hsn := hide (show best fr r m (h.take (k + 1)) = step fr r m (best fr r m (h.take k)) x by rw [take_snoc hxk, best_snoc])
      replace hxk := hide hxk
      generalize best fr r m (h.take k) = bk at hsn ⊢
      by_cases h1 : fr ≤ x
      · cases h2 : (x % m == r)
        · rw [step_res h2] at hsn
          go_wp2
          exact ⟨⟨k + 1, by omega, by go_num, by rw [hsn.out]⟩, by simp [intOf]; omega⟩
        · by_cases h3 : bk < 0
          · rw [step_hit h1 h2 (.inl h3)] at hsn
            go_wp2
            exact ⟨⟨k + 1, by omega, by go_num, by rw [hsn.out]⟩, by simp [intOf]; omega⟩
          · have h3' : decide (bk < 0) = false := by simpa using h3
            by_cases h4 : x < bk
            · rw [step_hit h1 h2 (.inr h4)] at hsn
              go_wp2
              exact ⟨⟨k + 1, by omega, by go_num, by rw [hsn.out]⟩, by simp [intOf]; omega⟩
            · have h4' : decide (x < bk) = false := by simpa using h4
              rw [step_big h3 h4] at hsn
              go_wp2
              exact ⟨⟨k + 1, by omega, by go_num, by rw [hsn.out]⟩, by simp [intOf]; omega⟩
      · rw [step_far h1] at hsn
        have h1' : decide (fr ≤ x) = false := by simpa using h1
        go_wp2
        exact ⟨⟨k + 1, by omega, by go_num, by rw [hsn.out]⟩, by simp [intOf]; omega⟩
    · have hlt' : ¬ (k : Int) < (h.length : Int) := by omega
      obtain rfl : k = h.length := by omega
      rw [List.take_length]
      have hbs := hide (best_spec fr r m h fun x hx => (hh.out x hx).1)
      have hbd : Hid (best fr r m h ≤ 1000000) := by
        rcases hbs.out with ⟨h1, _⟩ | ⟨h1, h2, _⟩
        · show best fr r m h ≤ 1000000; rw [h1]; decide
        · exact (hh.out _ h2).2
      generalize hb : best fr r m h = bb at hbs hbd ⊢
      replace hb := hide hb
      by_cases hneg : bb < 0
      · go_wp2
        go_ret2
        exact ⟨⟨_, _, .inl ⟨by rw [hb.out]; exact hneg, rfl, hs2.out⟩⟩, hx.out.2.2.1, hx.out.2.2.2⟩
      · go_wp2_with (at_builtin; refine wpList_append_far _ rfl _ _ 28 rfl B 3 i0 (.int .i64 0) 1 8 Yba.underlying28 hi hz0 hz1 hz2 rfl (by decide) _ A.length (ns A) rfl (hs2.out.oA.alloc _) ⟨W2.heap.size, 0, none⟩ 1 1 [.int .i64 bb] rfl rfl (fun j u hj => new_cells1 W2 [.int .i64 bb] 3 hj) (by simp [Value.oneCell']) ?g3 ?g4 ?g5 ?_)
        case g3 => unfold maxLen; omega
        case g4 => omega
        case g5 => have := hs2.out.hB; simp; omega
        intro v3 w3 ho hg hw
        obtain ⟨a3, c3, rfl⟩ := own_form ho
        have hy := hide (hs2.out.answers ho hg (by simpa using hw))
        have e6 : w3.cell? ⟨T, 6, none⟩ = some (.slice aa A.length ca) := cell_blk hy.out.2.1 rfl
        have f6 : w3.frozen? ⟨T, 6, none⟩ = false := froz_blk hy.out.2.1 _
        clear ho hg hw d6
        go_wp2
        go_ret2
        exact ⟨_, _, .inr ⟨by rw [hb.out]; omega, by rw [hb.out]; rfl, by rw [hb.out]; exact hy.out.1⟩, hx.out.2.2.1.trans hy.out.2.2.1, hx.out.2.2.2.trans hy.out.2.2.2⟩
end Go.Proofs.Ybulkods
