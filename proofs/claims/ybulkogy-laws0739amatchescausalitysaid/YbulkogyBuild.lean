import Derived.Test.YbulkogyBuildKit
namespace Go.Proofs.Ybulkogy
open Go.RowKit
set_option linter.unusedSimpArgs false
set_option linter.unusedVariables false

theorem wrap_i64_id {x : Int} (h0 : 0 ≤ x) (h1 : x ≤ 255) : IntKind.i64.wrap x = x := by
  simp [IntKind.wrap, IntKind.bits, IntKind.signed, Int.bmod]
  omega
def BP (w w' : World) (p n : Nat) (L : List (Nat × List Nat)) (e : Ending) : Prop := ∃ X H ao cap, e = .returned (.pointer (some ⟨X, 0, none⟩)) ∧ Ex w' X H p n L ao cap ∧ Below w.heap.size w w'

set_option maxRecDepth 100000 in
set_option maxHeartbeats 4000000 in
theorem build_any (w : World) (a0 : Int) (a1 : Option Addr) (n cap p : Nat) (R : List (Int × List Int)) (hR : ArgSt w a1 R) (hl : R.length = n) (hn : n ≤ 256) (hms : ∀ x ∈ R, x.2.length ≤ 256) (h00 : 0 ≤ a0) (h01 : a0 ≤ 255) (hp : a0 % 4 + 1 = (p : Int)) :
    Calls Yba.prog 6 #[.int .u8 a0, .slice a1 n cap] w fun e w' => BP w w' p n (mkL p R) e := by
  obtain ⟨i3, hi3, a0', a1', a2'⟩ := info_parts Yba.info3
  obtain ⟨i9, hi9, b0, b1, b2⟩ := info_parts Yba.info9
  obtain ⟨i44, hi44, c0, c1, c2⟩ := info_parts Yba.info44
  have hp4 : p ≤ 4 := by omega
  have hp0 : 0 < p := by omega
  have hp4' : (p : Int) ≤ 4 := by omega
  have hn' : (n : Int) ≤ 256 := by omega
  have hp0' : ¬ (p : Int) = 0 := by omega
  have hwf := hide (mkL_wf (R := R) hp0 hms)
  replace hR := hide hR; replace hl := hide hl; replace hms := hide hms
  go_enter Yba.func6, Yba.ntmps6
  go_wp2_with (at_make; refine wpList_make_full _ rfl _ _ 38 rfl w.heap.size 9 i9 (.string ⟨#[]⟩) 1 Yba.underlying38 hi9 b0 b1 .i64 .i64 p p p rfl rfl rfl rfl (by rw [b2]; omega) (by unfold maxLen; omega) (Nat.le_refl _) ?_)
  intro w1 hown hg
  have hb1 : Hid (Below w.heap.size w w1) := (Below.refl _ w).grown hg (Nat.le_refl _) (by simp)
  have hsl := hb1.out.size
  clear hown hg
  go_wp2_with fail
  obtain ⟨X, hX⟩ : ∃ X, X = w1.heap.size := ⟨_, rfl⟩
  obtain ⟨H, hH⟩ : ∃ H, H = w.heap.size := ⟨_, rfl⟩
  have h1 : Hid (BI w (w1.alloc (.cells #[.slice (some ⟨H, 0, none⟩) p p, .slice none 0 0, .slice none 0 0] 42)) X H p 0 (mkL p R) (.slice none 0 0) []) :=
    ⟨by rw [hX]; exact heap_alloc_new w1 _, World.ownsRow_nil _ _ _ _, fun k q ms hk => by omega, hb1.out.alloc hsl _, by omega⟩
  rw [hH] at h1
  rw [← hX]
  replace hX := hide hX
  clear hb1
  go_loopw [22] (fun t wr => ∃ (i : Nat) (sv : Value) (cs : List Value), i ≤ n ∧ t = .int .i64 (i : Int) ∧ Hid (BI w wr X w.heap.size p i (mkL p R) sv cs)) (fun t _ => n - (intOf t).toNat)
  case atStart => exact ⟨0, _, _, by omega, rfl, h1⟩
  case round =>
    clear h1
    obtain ⟨i, sv, cs, hi, rfl, h1⟩ := hrel
    by_cases hil : i < n
    · have hil' : (i : Int) < (n : Int) := by omega
      obtain ⟨⟨b, ms⟩, hx⟩ : ∃ x, R[i]? = some x := ⟨_, List.getElem?_eq_getElem (by rw [hl.out]; exact hil)⟩
      have hmc := hms.out _ (List.mem_of_getElem? hx)
      obtain ⟨g, off, am, cm, rfl, k1, k2, k3, k4, k5, k6⟩ := hR.out i b ms hx
      replace k4 := (h1.out.bel.cell (World.block_lt_of_cell? w _ k4)).trans k4
      replace k5 := (h1.out.bel.cell (World.block_lt_of_cell? w _ k5)).trans k5
      have k7 : Hid (∀ w', Below w.heap.size w w' → ∀ (j : Nat) (m : Int), ms[j]? = some m → ∃ (g' off' : Nat), am = some ⟨g', off', none⟩ ∧ w'.cell? ⟨g', off' + j, none⟩ = some (.int .u8 m) ∧ 0 ≤ m ∧ m ≤ 255) := by
        intro w' hb j m hj
        obtain ⟨g', off', e1, e2, e3⟩ := k6 j m hj
        exact ⟨g', off', e1, (hb.cell (World.block_lt_of_cell? w _ e2)).trans e2, e3⟩
      have hLi := hide (mkL_get (p := p) hx)
      obtain ⟨lm, hlm⟩ : ∃ lm, lm = ms.length := ⟨_, rfl⟩
      simp only [] at hmc
      rw [← hlm] at k5 k3 hmc
      have hlm' : (lm : Int) ≤ 256 := by omega
      obtain ⟨S, hS⟩ : ∃ S, S = wr.heap.size := ⟨_, rfl⟩
      replace k6 := hide k6; replace hlm := hide hlm; replace hx := hide hx
      obtain ⟨qi, hqi⟩ : ∃ qi : Nat, b % (p : Int) = (qi : Int) := ⟨(b % (p : Int)).toNat, by have := Int.emod_nonneg b hp0'; omega⟩
      have hqt : Hid ((b % (p : Int)).toNat = qi) := by show _ = _; rw [hqi]; rfl
      have hp0n : ¬ p = 0 := by omega
      have hwb : IntKind.i64.wrap b = b := wrap_i64_id (by omega) (by omega)
      have htm : b.tmod (p : Int) = (qi : Int) := by rw [Int.tmod_eq_emod_of_nonneg k1]; exact hqi
      by_cases hi0 : 0 < i
      · have hi0' : (0 : Int) < (i : Int) := by omega
        have hi0n : ¬ (i : Int) = 0 := by omega
        rw [if_neg (by omega), hqt.out] at hLi
        go_wp2_with fail
        obtain ⟨w2, hw2⟩ : ∃ w2, w2 = wr.alloc (.cells #[.int .u8 b, .slice am lm cm] 37) := ⟨_, rfl⟩
        have hb2 : Hid (Below wr.heap.size wr w2) := by rw [hw2]; exact (Below.refl _ wr).alloc (Nat.le_refl _) _
        have hS2 : Hid (w2.heap[S]? = some (.cells #[.int .u8 b, .slice am lm cm] 37 (0, 0))) := by show _ = _; rw [hw2, hS]; exact heap_alloc_new wr _
        rw [← hw2, ← hS]
        replace hS := hide hS
        have h2 := hide (h1.out.move hb2.out)
        clear hw2 hb2 h1 k4 k5
        go_loopw [9, 32] (fun v t wr2 => ∃ j : Nat, j ≤ lm ∧ t = .int .i64 (j : Int) ∧ Hid (wr2.ownsRow w2.heap.size 3 1 v j (ints .i64 ((ms.take j).map fun m => (m % (i : Int)).toNat))) ∧ Hid (Below w2.heap.size w2 wr2)) (fun _ t _ => lm - (intOf t).toNat)
        case atStart => exact ⟨0, by omega, rfl, hide (World.ownsRow_nil _ _ _ _), hide (Below.refl _ _)⟩
        case round =>
          obtain ⟨j, hj, rfl, ho, hb3⟩ := hrel
          by_cases hjl : j < lm
          · have hjl' : (j : Int) < (lm : Int) := by omega
            obtain ⟨m, hm⟩ : ∃ m, ms[j]? = some m := ⟨_, List.getElem?_eq_getElem (by rw [← hlm.out]; exact hjl)⟩
            obtain ⟨g', off', rfl, k2', k3', k4'⟩ := k7.out wr (h2.out.bel.trans (hb3.out.mono h2.out.bel.size)) j m hm
            obtain ⟨mm, hmm⟩ : ∃ mm : Nat, m % (i : Int) = (mm : Int) := ⟨(m % (i : Int)).toNat, by have := Int.emod_nonneg m hi0n; omega⟩
            have hnx : Hid (ints .i64 ((ms.take (j + 1)).map fun m => (m % (i : Int)).toNat) = ints .i64 ((ms.take j).map fun m => (m % (i : Int)).toNat) ++ [.int .i64 (mm : Int)]) := by
              show _ = _
              have hj' := (List.getElem?_eq_some_iff.1 hm).1
              rw [List.take_succ_eq_append_getElem hj', (List.getElem?_eq_some_iff.1 hm).2, List.map_append, List.map_singleton, hmm]
              simp [ints]
            obtain ⟨pre, hpre⟩ : ∃ pre, pre = ints .i64 ((ms.take j).map fun m => (m % (i : Int)).toNat) := ⟨_, rfl⟩
            rw [← hpre] at ho hnx
            clear hpre
            have hsz3 := hb3.out.size
            replace hm := hide hm
            go_wp2_with (at_builtin; refine wpList_append_own _ rfl _ _ 40 rfl w2.heap.size 3 i3 (.int .i64 0) 1 8 Yba.underlying40 hi3 a0' a1' a2' rfl (by decide) _ j pre rfl (ho.out.alloc _) ⟨wr.heap.size, 0, none⟩ 1 1 [.int .i64 (mm : Int)] rfl rfl ?q2 ?q6 ?q3 ?q4 ?q5 ?_)
            case q2 => intro j' u hj'; exact new_cells1 wr [.int .i64 (mm : Int)] 3 hj'
            case q6 => simp [Value.oneCell']
            case q3 => unfold maxLen; omega
            case q4 => omega
            case q5 => simp; omega
            intro v' w4 hown4 hg4 _
            rw [← hnx.out] at hown4
            have hb4 := hide ((hb3.out.alloc hsz3 _).grown hg4 (by simp; omega) fun k hk => (ho.out.lt k hk).1)
            replace hown4 := hide hown4
            clear hg4
            go_wp2
            exact ⟨⟨j + 1, by omega, by simp, hown4, hb4⟩, by simp [intOf]; omega⟩
          · obtain rfl : j = lm := by omega
            have e : ms.take j = ms := List.take_of_length_le (by rw [← hlm.out]; omega)
            rw [e] at ho
            clear e
            have hlmm : j = (ms.map fun m => (m % (i : Int)).toNat).length := by rw [List.length_map]; exact hlm.out
            have hmsk : Hid (MsOk wr.drew _ (ms.map fun m => (m % (i : Int)).toNat)) := MsOk.of_own (by rw [← hlmm]; exact ho.out.drew)
            obtain ⟨va, vc, rfl⟩ := own_form ho.out
            obtain ⟨vn, hvn⟩ : ∃ vn, vn = j := ⟨_, rfl⟩
            have h5 : Hid (BI w wr.drew X w.heap.size p i (mkL p R) sv cs) := (h2.out.move hb3.out).move (Below.refl _ wr).drew
            have x1 : wr.cell? ⟨X, 1, none⟩ = some sv := cell_blk h5.out.hX rfl
            have s0 : wr.cell? ⟨S, 0, none⟩ = some (.int .u8 b) := (hb3.out.cell (p := ⟨S, 0, none⟩) (lt_of_block hS2.out)).trans (cell_blk hS2.out rfl)
            have hXl : X < wr.heap.size := lt_of_block h5.out.hX
            have hSl : S < wr.heap.size := World.block_lt_of_cell? wr _ s0
            obtain ⟨sa, sc, hsv⟩ := own_form h5.out.own
            subst hsv
            rw [← hvn] at hmsk ⊢
            replace hlmm := hide hlmm; replace hvn := hide hvn
            clear ho h2 hb3
            go_wp2_with fail
            go_region_law (first
              | (refine step_append_own rfl (.tmp 48) (.tmp 57) 39 rfl w.heap.size 44 i44 (.agg #[.int .i64 0, .int .i64 0, .slice none 0 0]) 3 40 Yba.underlying39 hi44 c0 c1 c2 rfl (by decide) _ i cs rfl (h5.out.own.alloc _) ⟨wr.drew.heap.size, 0, none⟩ 1 1 [.int .i64 (i : Int), .int .i64 (qi : Int), .slice va vn vc] rfl rfl (fun j' u hj' => new_cells1 wr.drew [.int .i64 (i : Int), .int .i64 (qi : Int), .slice va vn vc] 44 hj') (by simp [Value.oneCell']) (by unfold maxLen; omega) (by omega) (by have := h5.out.bel.size; simp at this ⊢; omega) ?_; intro v6 w6 hown6 hg6 _; obtain ⟨ao6, ci6, rfl⟩ := own_form hown6; have hX6 := hide (h5.out.x6 hg6); replace hown6 := hide hown6; replace hg6 := hide hg6; have u4 : w6.cell? ⟨X, 1, none⟩ = some (.slice sa i sc) := cell_blk hX6.out rfl; have uf : w6.frozen? ⟨X, 1, none⟩ = false := froz_blk hX6.out _))
            all_goals
              have hni := hide (h5.out.next hLi.out hmsk.out hown6.out hg6.out)
              go_wp2
              exact ⟨⟨i + 1, _, _, by omega, by simp, hni⟩, by simp [intOf]; omega⟩
      · have hi00 : i = 0 := by omega
        have hi0' : ¬ (0 : Int) < (i : Int) := by omega
        rw [if_pos hi00, hqt.out] at hLi
        replace hi00 := hide hi00
        have hb2 := hide (fun o => ((Below.refl _ wr).alloc (Nat.le_refl _) o : Below wr.heap.size wr (wr.alloc o)))
        have h5 : Hid (BI w (wr.alloc (.cells #[.int .u8 b, .slice am lm cm] 37)).drew X w.heap.size p i (mkL p R) sv cs) := h1.out.move ((hb2.out _).drew)
        have hmsk : Hid (MsOk (wr.alloc (.cells #[.int .u8 b, .slice am lm cm] 37)).drew (.slice none 0 0) []) := ⟨none, 0, rfl, fun j m hj => by simp at hj⟩
        have x1 : wr.cell? ⟨X, 1, none⟩ = some sv := cell_blk h1.out.hX rfl
        have hXl : X < wr.heap.size := lt_of_block h1.out.hX
        obtain ⟨sa, sc, hsv⟩ := own_form h5.out.own
        subst hsv
        clear hS
        go_wp2_with fail
        go_region_law (first
          | (refine step_append_own rfl (.tmp 48) (.tmp 57) 39 rfl w.heap.size 44 i44 (.agg #[.int .i64 0, .int .i64 0, .slice none 0 0]) 3 40 Yba.underlying39 hi44 c0 c1 c2 rfl (by decide) _ i cs rfl (h5.out.own.alloc _) ⟨wr.heap.size + 1, 0, none⟩ 1 1 [.int .i64 (i : Int), .int .i64 (qi : Int), .slice none 0 0] rfl rfl (fun j' u hj' => by have := new_cells1 (wr.alloc (.cells #[.int .u8 b, .slice am lm cm] 37)).drew [.int .i64 (i : Int), .int .i64 (qi : Int), .slice none 0 0] 44 hj'; rwa [show (wr.alloc (.cells #[.int .u8 b, .slice am lm cm] 37)).drew.heap.size = wr.heap.size + 1 by simp [World.drew]] at this) (by simp [Value.oneCell']) (by unfold maxLen; omega) (by omega) (by have := h5.out.bel.size; simp at this ⊢; omega) ?_; intro v6 w6 hown6 hg6 _; obtain ⟨ao6, ci6, rfl⟩ := own_form hown6; have hX6 := hide (h5.out.x6 hg6); replace hown6 := hide hown6; replace hg6 := hide hg6; have u4 : w6.cell? ⟨X, 1, none⟩ = some (.slice sa i sc) := cell_blk hX6.out rfl; have uf : w6.frozen? ⟨X, 1, none⟩ = false := froz_blk hX6.out _))
        all_goals
          have hni := hide (h5.out.next hLi.out hmsk.out hown6.out hg6.out)
          go_wp2
          exact ⟨⟨i + 1, _, _, by omega, by simp, hni⟩, by simp [intOf]; omega⟩
    · obtain rfl : i = n := by omega
      go_wp2
      go_ret
      obtain ⟨ao, cap', hE⟩ := h1.out.ex (by rw [mkL_len]; exact hl.out) hn hp4 hp0 hwf.out
      exact ⟨X, _, ao, cap', rfl, hE, h1.out.bel⟩
end Go.Proofs.Ybulkogy
