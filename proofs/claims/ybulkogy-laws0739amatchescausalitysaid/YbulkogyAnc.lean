import Derived.Test.YbulkogyGuard
namespace Go.Proofs.Ybulkogy
open Go.RowKit
set_option linter.unusedSimpArgs false
set_option linter.unusedVariables false

def lastCells (L : List (Nat × List Nat)) (p i : Nat) : List Value := (List.range p).map fun q => Value.int .i64 (lastV L i q)
theorem last_get {L : List (Nat × List Nat)} {p i q : Nat} (h : q < p) : (lastCells L p i).toArray[q]? = some (.int .i64 (lastV L i q)) := by simp [lastCells, h]
theorem last_zero (L : List (Nat × List Nat)) (p : Nat) : lastCells L p 0 = List.replicate p (.int .i64 (-1)) := by simp [lastCells, lastV, lastOf, List.map_const']
theorem lastV_succ {L : List (Nat × List Nat)} {i q t : Nat} {ms : List Nat} (h : L[i]? = some (q, ms)) : lastV L (i + 1) t = if q = t then (i : Int) else lastV L i t := by
  unfold lastV
  simp only [lastOf]
  rw [getD_of h]
  by_cases e : q = t
  · simp [e]
  · simp [e]
theorem last_set {L : List (Nat × List Nat)} {p i q : Nat} {ms : List Nat} (h : L[i]? = some (q, ms)) : (lastCells L p i).toArray.setIfInBounds q (.int .i64 (i : Int)) = (lastCells L p (i + 1)).toArray := by
  apply Array.ext
  · simp [lastCells]
  · intro t h1 h2
    simp [lastCells] at h2
    by_cases e : q = t
    · subst e; simp [lastCells, lastV_succ h]
    · simp [lastCells, lastV_succ h, e, Array.getElem_setIfInBounds]
def ancCells (n W : Nat) (bl : List Nat) : List Value := (bl.map fun b => Value.slice (some ⟨b, 0, none⟩) W W) ++ List.replicate (n - bl.length) (.slice none 0 0)
theorem anc_get {n W k b : Nat} {bl : List Nat} (h : bl[k]? = some b) : (ancCells n W bl).toArray[k]? = some (.slice (some ⟨b, 0, none⟩) W W) := by
  have hk := (List.getElem?_eq_some_iff.1 h).1
  rw [List.getElem?_toArray, ancCells, List.getElem?_append_left (by simpa using hk)]
  simp [h]
theorem anc_get0 {n W : Nat} {bl : List Nat} (h : bl.length < n) : (ancCells n W bl).toArray[bl.length]? = some (.slice none 0 0) := by
  rw [List.getElem?_toArray, ancCells, List.getElem?_append_right (by simp)]
  simp [List.getElem?_replicate]; omega
theorem anc_set {n W b : Nat} {bl : List Nat} (h : bl.length < n) : (ancCells n W bl).toArray.setIfInBounds bl.length (.slice (some ⟨b, 0, none⟩) W W) = (ancCells n W (bl ++ [b])).toArray := by
  obtain ⟨r, hr⟩ : ∃ r, n - bl.length = r + 1 := ⟨n - bl.length - 1, by omega⟩
  unfold ancCells
  rw [hr, show n - (bl ++ [b]).length = r by simp; omega, List.replicate_succ]
  simp [List.set_append]

theorem take_snocI {l : List Int} {j : Nat} {x : Int} (h : l[j]? = some x) : l.take (j + 1) = l.take j ++ [x] := by
  have hj := (List.getElem?_eq_some_iff.1 h).1
  rw [List.take_succ_eq_append_getElem hj, (List.getElem?_eq_some_iff.1 h).2]

structure AI (w wr : World) (p n W Lb Ab : Nat) (L : List (Nat × List Nat)) (bl : List Nat) : Prop where
  hL : wr.heap[Lb]? = some (.cells (lastCells L p bl.length).toArray 3 (0, 0))
  hA : wr.heap[Ab]? = some (.cells (ancCells n W bl).toArray 31 (0, 0))
  hb : ∀ (k b : Nat), bl[k]? = some b → wr.heap[b]? = some (.cells (words W (ancOf L k)).toArray 30 (0, 0))
  hu : Upd [] w wr
  n1 : w.heap.size ≤ Lb
  n2 : w.heap.size ≤ Ab
theorem AI.move {w wr w1 : World} {p n W Lb Ab : Nat} {L : List (Nat × List Nat)} {bl : List Nat} (h : AI w wr p n W Lb Ab L bl) (hu : Upd [] wr w1) : AI w w1 p n W Lb Ab L bl :=
  ⟨hu.blk h.hL (by simp), hu.blk h.hA (by simp), fun k b hk => hu.blk (h.hb k b hk) (by simp), h.hu.trans hu, h.n1, h.n2⟩
/-- A write into the new set. -/
theorem AI.moveN {w wr w1 : World} {p n W Lb Ab Nb : Nat} {L : List (Nat × List Nat)} {bl : List Nat} (h : AI w wr p n W Lb Ab L bl) (hu : Upd [Nb] wr w1) (hn : w.heap.size ≤ Nb) (hN : ∃ c, wr.heap[Nb]? = some (.cells c 30 (0, 0))) (hb : Nb ∉ bl) : AI w w1 p n W Lb Ab L bl := by
  obtain ⟨c, hc⟩ := hN
  refine ⟨hu.blk h.hL (by simpa using blk_ne h.hL hc (by decide)), hu.blk h.hA (by simpa using blk_ne h.hA hc (by decide)), fun k b hk => hu.blk (h.hb k b hk) (by simp; rintro rfl; exact hb (List.mem_of_getElem? hk)), h.hu.fresh hu hn, h.n1, h.n2⟩
theorem AI.next {w wr : World} {p n W Lb Ab Nb q : Nat} {L : List (Nat × List Nat)} {bl ms : List Nat} (h : AI w wr p n W Lb Ab L bl) (hL : L[bl.length]? = some (q, ms)) (hn : bl.length < n) (hN : wr.heap[Nb]? = some (.cells (words W (ancOf L bl.length)).toArray 30 (0, 0))) :
    AI w ((wr.setCell ⟨Ab, bl.length, none⟩ (.slice (some ⟨Nb, 0, none⟩) W W)).setCell ⟨Lb, q, none⟩ (.int .i64 (bl.length : Int))) p n W Lb Ab L (bl ++ [Nb]) := by
  have hne : Lb ≠ Ab := blk_ne h.hL h.hA (by decide)
  have hu1 : Upd [Ab] wr (wr.setCell ⟨Ab, bl.length, none⟩ (.slice (some ⟨Nb, 0, none⟩) W W)) := (Upd.refl _ wr).setCell (p := ⟨Ab, bl.length, none⟩) (by simp) _
  have hL1 := hu1.blk h.hL (by simpa using hne)
  have hA1 := set_blk h.hA bl.length (.slice (some ⟨Nb, 0, none⟩) W W)
  rw [anc_set hn] at hA1
  have hu2 : Upd [Lb] (wr.setCell ⟨Ab, bl.length, none⟩ (.slice (some ⟨Nb, 0, none⟩) W W)) ((wr.setCell ⟨Ab, bl.length, none⟩ (.slice (some ⟨Nb, 0, none⟩) W W)).setCell ⟨Lb, q, none⟩ (.int .i64 (bl.length : Int))) := (Upd.refl _ _).setCell (p := ⟨Lb, q, none⟩) (by simp) _
  refine ⟨?_, hu2.blk hA1 (by simpa using Ne.symm hne), fun k b hk => ?_, (h.hu.fresh hu1 h.n2).fresh hu2 h.n1, h.n1, h.n2⟩
  · rw [set_blk hL1, last_set hL]; simp
  · have : wr.heap[b]? = some (.cells (words W (ancOf L k)).toArray 30 (0, 0)) := by
      by_cases e : k < bl.length
      · rw [List.getElem?_append_left e] at hk; exact h.hb k b hk
      · rw [List.getElem?_append_right (by omega)] at hk
        have hk0 : k = bl.length := by
          have := (List.getElem?_eq_some_iff.1 hk).1
          simp at this; omega
        subst hk0
        simp at hk
        subst hk
        exact hN
    exact hu2.blk (hu1.blk this (by simpa using blk_ne this h.hA (by decide))) (by simpa using blk_ne (hu1.blk this (by simpa using blk_ne this h.hA (by decide))) hL1 (by decide))

set_option maxRecDepth 100000 in
set_option maxHeartbeats 4000000 in
theorem anc_any (w : World) (a0 : Int) (a1 : Option Addr) (n cap p W : Nat) (R : List (Int × List Int)) (hR : ArgSt w a1 R) (hl : R.length = n) (hn : n ≤ 256) (hms : ∀ x ∈ R, x.2.length ≤ 256) (h00 : 0 ≤ a0) (h01 : a0 ≤ 255) (hp : a0 % 4 + 1 = (p : Int)) (hW : ((n : Int) + 63) / 64 = (W : Int)) :
    Calls Yba.prog 8 #[.int .u8 a0, .slice a1 n cap] w fun e w' => ∃ Lb Ab bl, e = .returned (.slice (some ⟨Ab, 0, none⟩) n n) ∧ bl.length = n ∧ AI w w' p n W Lb Ab (mkL p R) bl := by
  obtain ⟨i3, hi3, a0', a1', a2'⟩ := info_parts Yba.info3
  obtain ⟨i30, hi30, b0, b1, b2⟩ := info_parts Yba.info30
  obtain ⟨i31, hi31, c0, c1, c2⟩ := info_parts Yba.info31
  have hp4 : p ≤ 4 := by omega
  have hp0 : 0 < p := by omega
  have hp4' : (p : Int) ≤ 4 := by omega
  have hn' : (n : Int) ≤ 256 := by omega
  have hW4 : W ≤ 4 := by omega
  have hW4' : (W : Int) ≤ 4 := by omega
  have hp0' : ¬ (p : Int) = 0 := by omega
  have hwf := hide (mkL_wf (R := R) hp0 hms)
  replace hR := hide hR; replace hl := hide hl; replace hms := hide hms
  go_enter Yba.func8, Yba.ntmps8
  go_wp2_with (at_make; refine wpList_make_full _ rfl _ _ 40 rfl w.heap.size 3 i3 (.int .i64 0) 1 Yba.underlying40 hi3 a0' a1' .i64 .i64 p p p rfl rfl rfl rfl (by rw [a2']; omega) (by unfold maxLen; omega) (Nat.le_refl _) ?_)
  intro w1 hown hg
  have hL1 := hide (made_blk hown)
  have hu1 := hide (Upd.of_grown hg)
  clear hown hg
  go_wp2_with fail
  go_loopw [34] (fun t wr => ∃ q : Nat, q ≤ p ∧ t = .int .i64 (q : Int) ∧ Hid (wr.heap[w.heap.size]? = some (.cells (List.replicate q (Value.int .i64 (-1)) ++ List.replicate (p - q) (Value.int .i64 0)).toArray 3 (0, 0))) ∧ Hid (Upd [] w wr)) (fun t _ => p - (intOf t).toNat)
  case atStart => exact ⟨0, by omega, rfl, hide (by simpa using hL1.out), hu1⟩
  case round =>
    clear hL1 hu1
    obtain ⟨q, hq, rfl, hL1, hu1⟩ := hrel
    by_cases hql : q < p
    · have hql' : (q : Int) < (p : Int) := by omega
      have d1 : wr.cell? ⟨w.heap.size, q, none⟩ = some (.int .i64 0) := cell_blk hL1.out (by
        rw [List.getElem?_toArray, List.getElem?_append_right (by simp)]
        simp [List.getElem?_replicate]; omega)
      have f1 : wr.frozen? ⟨w.heap.size, q, none⟩ = false := froz_blk hL1.out _
      have hnx : Hid ((wr.setCell ⟨w.heap.size, q, none⟩ (.int .i64 (-1))).heap[w.heap.size]? = some (.cells (List.replicate (q + 1) (Value.int .i64 (-1)) ++ List.replicate (p - (q + 1)) (Value.int .i64 0)).toArray 3 (0, 0))) := by
        show _ = _
        rw [set_blk hL1.out]
        obtain ⟨r, hr⟩ : ∃ r, p - q = r + 1 := ⟨p - q - 1, by omega⟩
        rw [hr, show p - (q + 1) = r by omega, List.replicate_succ, List.replicate_succ']
        simp
      have hun := hide (hu1.out.fresh ((Upd.refl [w.heap.size] wr).setCell (p := ⟨w.heap.size, q, none⟩) (by simp) (.int .i64 (-1))) (Nat.le_refl _))
      go_wp2_with fail
      exact ⟨⟨q + 1, by omega, by simp, hnx, hun⟩, by simp [intOf]; omega⟩
    · obtain rfl : q = p := by omega
      go_wp2_with (at_make; refine wpList_make_full _ rfl _ _ 28 rfl wr.heap.size 31 i31 (.slice none 0 0) 1 Yba.underlying28 hi31 c0 c1 .i64 .i64 n n n rfl rfl rfl rfl (by rw [c2]; omega) (by unfold maxLen; omega) (Nat.le_refl _) ?_)
      intro w2 hown hg
      obtain ⟨Lb, Ab, hAI, e1, e2⟩ : ∃ Lb Ab, Hid (AI w w2 q n W Lb Ab (mkL q R) []) ∧ Lb = w.heap.size ∧ Ab = wr.heap.size := by
        have hu2 := Upd.of_grown hg
        refine ⟨_, _, ⟨?_, ?_, fun k b h => by simp at h, hu1.out.trans hu2, Nat.le_refl _, hu1.out.size⟩, rfl, rfl⟩
        · rw [List.length_nil, last_zero]
          have := hu2.blk hL1.out (by simp)
          simpa using this
        · have := made_blk hown
          simpa [ancCells] using this
      rw [← e1, ← e2]
      clear hown hg e1 e2 hL1 hu1
      go_wp2_with fail
      go_loopw [45] (fun t wr => ∃ (i : Nat) (bl : List Nat), i ≤ n ∧ t = .int .i64 (i : Int) ∧ Hid (bl.length = i) ∧ Hid (AI w wr q n W Lb Ab (mkL q R) bl)) (fun t _ => n - (intOf t).toNat)
      case atStart => exact ⟨0, [], by omega, rfl, hide rfl, hAI⟩
      case round =>
        clear hAI
        obtain ⟨i, bl, hi, rfl, hbl, h1⟩ := hrel
        by_cases hil : i < n
        · have hil' : (i : Int) < (n : Int) := by omega
          obtain ⟨⟨b, ms⟩, hx⟩ : ∃ x, R[i]? = some x := ⟨_, List.getElem?_eq_getElem (by rw [hl.out]; exact hil)⟩
          have hmc := hms.out _ (List.mem_of_getElem? hx)
          obtain ⟨g, off, am, cm, rfl, k1, k2, k3, k4, k5, k6⟩ := hR.out i b ms hx
          have hbw := h1.out.hu.below (Nat.le_refl _) (by simp)
          replace k4 := (hbw.cell (World.block_lt_of_cell? w _ k4)).trans k4
          replace k5 := (hbw.cell (World.block_lt_of_cell? w _ k5)).trans k5
          have k7 : Hid (∀ w', Below w.heap.size w w' → ∀ (j : Nat) (m : Int), ms[j]? = some m → ∃ (g' off' : Nat), am = some ⟨g', off', none⟩ ∧ w'.cell? ⟨g', off' + j, none⟩ = some (.int .u8 m) ∧ 0 ≤ m ∧ m ≤ 255) := by
            intro w' hb j m hj
            obtain ⟨g', off', e1, e2, e3⟩ := k6 j m hj
            exact ⟨g', off', e1, (hb.cell (World.block_lt_of_cell? w _ e2)).trans e2, e3⟩
          have hLi := hide (mkL_get (p := q) hx)
          obtain ⟨lm, hlm⟩ : ∃ lm, lm = ms.length := ⟨_, rfl⟩
          simp only [] at hmc
          rw [← hlm] at k5 k3 hmc
          replace k6 := hide k6; replace hlm := hide hlm; replace hx := hide hx
          have hlm' : (lm : Int) ≤ 256 := by omega
          obtain ⟨S, hS⟩ : ∃ S, S = wr.heap.size := ⟨_, rfl⟩
          go_wp2_with (at_make; refine wpList_make_full _ rfl _ _ 31 rfl (wr.heap.size + 1) 30 i30 (.int .u64 0) 1 Yba.underlying31 hi30 b0 b1 .i64 .i64 W W W rfl rfl rfl rfl (by rw [b2]; omega) (by unfold maxLen; omega) (by simp) ?_)
          intro w2 hown hg
          have hS2 := hide ((Upd.of_grown hg).blk (heap_alloc_new wr _) (by simp))
          have hN2 : Hid (w2.heap[wr.heap.size + 1]? = some (.cells (words W 0).toArray 30 (0, 0))) := by show _ = _; rw [words_zero]; exact made_blk hown
          have h2 := hide (h1.out.move (((Upd.refl _ wr).alloc _).trans (Upd.of_grown hg)))
          obtain ⟨Nb, hNb⟩ : ∃ Nb, Nb = wr.heap.size + 1 := ⟨_, rfl⟩
          have hNn : Hid (w.heap.size ≤ Nb ∧ Nb ∉ bl) := by
            refine ⟨by have := h1.out.hu.size; omega, fun hm => ?_⟩
            obtain ⟨k, hk⟩ := List.getElem?_of_mem hm
            have := lt_of_block (h1.out.hb k Nb hk)
            omega
          rw [← hNb] at hN2 ⊢
          rw [← hS] at hS2 ⊢
          replace hS := hide hS; replace hNb := hide hNb
          clear hown hg h1 k4 k5
          obtain ⟨iw, hiw⟩ : ∃ iw : Nat, (i : Int) / 64 = (iw : Int) := ⟨i / 64, by omega⟩
          obtain ⟨ir, hir⟩ : ∃ ir : Nat, (i : Int) % 64 = (ir : Int) := ⟨i % 64, by omega⟩
          have hiwW : iw < W := by omega
          have hiwW' : (iw : Int) < (W : Int) := by omega
          have hir' : (ir : Int) < 64 := by omega
          have d1 : w2.cell? ⟨Nb, iw, none⟩ = some (.int .u64 0) := cell_blk hN2.out (by rw [words_get hiwW, word_zero]; rfl)
          have f1 : w2.frozen? ⟨Nb, iw, none⟩ = false := froz_blk hN2.out _
          have s0 : w2.cell? ⟨S, 0, none⟩ = some (.int .u8 b) := cell_blk hS2.out rfl
          have s1 : w2.cell? ⟨S, 1, none⟩ = some (.slice am lm cm) := cell_blk hS2.out rfl
          obtain ⟨qi, hqi⟩ : ∃ qi : Nat, b % (q : Int) = (qi : Int) := ⟨(b % (q : Int)).toNat, by have := Int.emod_nonneg b hp0'; omega⟩
          have hqq : qi < q := by have := Int.emod_lt_of_pos b (show (0 : Int) < q by omega); omega
          have hqq' : (qi : Int) < (q : Int) := by omega
          have hSN : ¬ S = Nb := by have := hS.out; have := hNb.out; omega
          have hNS : ¬ Nb = S := fun h => hSN h.symm
          have hLN : ¬ Lb = Nb := blk_ne h2.out.hL hN2.out (by decide)
          have hNL : ¬ Nb = Lb := fun h => hLN h.symm
          have dL : w2.cell? ⟨Lb, qi, none⟩ = some (.int .i64 (lastV (mkL q R) i qi)) := by
            have := cell_blk h2.out.hL (last_get hqq)
            rwa [hbl.out] at this
          have hv : bits BinOp.or IntKind.u64 0 (IntKind.u64.wrap (2 ^ ir)) = ((1 <<< (i % 64) : Nat) : Int) := by
            have e1 : (i % 64 : Nat) = ir := by omega
            rw [e1, Nat.one_shiftLeft]
            have e2 : ((2 : Int) ^ ir) = ((2 ^ ir : Nat) : Int) := by simp
            have e3 : 2 ^ ir < 18446744073709551616 := Nat.lt_of_lt_of_le (Nat.pow_lt_pow_right (by omega) (show ir < 64 by omega)) (by decide)
            rw [e2]
            generalize 2 ^ ir = P2 at e3
            rw [IntKind.wrap_u64, Int.emod_eq_of_lt (by omega) (by omega)]
            have := bits_or_u64_nat 0 P2 (by decide) e3
            simpa using this
          obtain ⟨v1, hv1⟩ : ∃ v1, v1 = 1 <<< (i % 64) := ⟨_, rfl⟩
          rw [← hv1] at hv
          have hiwn : iw = i / 64 := by omega
          have hN3' : Hid ((w2.setCell ⟨Nb, iw, none⟩ (.int .u64 (v1 : Int))).heap[Nb]? = some (.cells (words W (1 <<< i)).toArray 30 (0, 0))) := by
            show _ = _
            rw [set_blk hN2.out, hiwn, hv1, words_one (by omega)]
          have hu3' := hide ((Upd.refl [Nb] w2).setCell (p := ⟨Nb, iw, none⟩) (by simp) (.int .u64 (v1 : Int)))
          have h3' := hide (h2.out.moveN hu3'.out hNn.out.1 ⟨_, hN2.out⟩ hNn.out.2)
          have hS3' := hide (hu3'.out.blk hS2.out (by simpa using hSN))
          have hqt : Hid ((b % (q : Int)).toNat = qi) := by show _ = _; rw [hqi]; rfl
          have hancs := hide (ancs_of (fun k q' ms' h => (hwf.out k q' ms' h).2.2))
          replace hv1 := hide hv1; replace hiwn := hide hiwn
          cases hlo' : lastOf (mkL q R) i qi with
          | none =>
            have hlo := hide hlo'
            have hlv : lastV (mkL q R) i qi = -1 := by unfold lastV; rw [hlo']
            rw [hlv] at dL
            clear hlv hlo'
            have hN3n : Hid ((w2.setCell ⟨Nb, iw, none⟩ (.int .u64 (v1 : Int))).heap[Nb]? = some (.cells (words W ((1 <<< i) ||| 0)).toArray 30 (0, 0))) := by show _ = _; rw [Nat.or_zero]; exact hN3'.out
            have hAN : ¬ Ab = Nb := blk_ne h2.out.hA hN2.out (by decide)
            have hNA : ¬ Nb = Ab := fun h => hAN h.symm
            have nAL : ¬ Lb = Ab := blk_ne h2.out.hL h2.out.hA (by decide)
            have nLA : ¬ Ab = Lb := fun h => nAL h.symm
            have gA : w2.cell? ⟨Ab, i, none⟩ = some (.slice none 0 0) := by have := cell_blk h2.out.hA (anc_get0 (W := W) (by rw [hbl.out]; exact hil)); rwa [hbl.out] at this
            have fA : w2.frozen? ⟨Ab, i, none⟩ = false := froz_blk h2.out.hA _
            have fL : w2.frozen? ⟨Lb, qi, none⟩ = false := froz_blk h2.out.hL _
            by_cases hi0 : 0 < i
            · have hi0' : (0 : Int) < (i : Int) := by omega
              have hi0n : ¬ (i : Int) = 0 := by omega
              have s1 : (w2.setCell ⟨Nb, iw, none⟩ (.int .u64 (v1 : Int))).cell? ⟨S, 1, none⟩ = some (.slice am lm cm) := cell_blk hS3'.out rfl
              go_wp2_with fail
              try simp only [hqi]
              try simp only [hiw]
              try simp only [hir]
              try simp only [hv]
              go_loopw [100] (fun t wr => ∃ jj : Nat, jj ≤ lm ∧ t = .int .i64 (jj : Int) ∧ Hid (wr.heap[Nb]? = some (.cells (words W ((((ms.take jj).map fun m => (m % (i : Int)).toNat)).foldl (fun a m => a ||| ancOf (mkL q R) m) ((1 <<< i) ||| 0))).toArray 30 (0, 0))) ∧ Hid (AI w wr q n W Lb Ab (mkL q R) bl) ∧ Hid (wr.heap[S]? = some (.cells #[.int .u8 b, .slice am lm cm] 37 (0, 0)))) (fun t _ => lm - (intOf t).toNat)
              case atStart => exact ⟨0, by omega, rfl, hN3n, h3', hS3'⟩
              case round =>
                clear s1
                obtain ⟨jj, hjj, rfl, hNx, hx4, hSx⟩ := hrel
                by_cases hjl2 : jj < lm
                · have hjl2' : (jj : Int) < (lm : Int) := by omega
                  obtain ⟨m, hm⟩ : ∃ m, ms[jj]? = some m := ⟨_, List.getElem?_eq_getElem (by rw [← hlm.out]; exact hjl2)⟩
                  obtain ⟨g', off', rfl, k2', k3', k4'⟩ := k7.out wr (hx4.out.hu.below (Nat.le_refl _) (by simp)) jj m hm
                  obtain ⟨mm, hmm⟩ : ∃ mm : Nat, m % (i : Int) = (mm : Int) := ⟨(m % (i : Int)).toNat, by have := Int.emod_nonneg m hi0n; omega⟩
                  have hmi : mm < i := by have := Int.emod_lt_of_pos m hi0'; omega
                  have hmn : (mm : Int) < (n : Int) := by omega
                  obtain ⟨bk, hbk⟩ : ∃ bk, bl[mm]? = some bk := ⟨_, List.getElem?_eq_getElem (by rw [hbl.out]; exact hmi)⟩
                  have gA2 := cell_blk hx4.out.hA (anc_get (n := n) (W := W) hbk)
                  replace hbk := hide hbk
                  have hstp : Hid (((ms.take (jj + 1)).map fun m => (m % (i : Int)).toNat).foldl (fun a m => a ||| ancOf (mkL q R) m) ((1 <<< i) ||| 0) = (((ms.take jj).map fun m => (m % (i : Int)).toNat).foldl (fun a m => a ||| ancOf (mkL q R) m) ((1 <<< i) ||| 0)) ||| ancOf (mkL q R) mm) := by
                    show _ = _
                    rw [take_snocI hm, List.map_append, List.foldl_append, List.map_singleton, hmm]
                    rfl
                  obtain ⟨ac, hac⟩ : ∃ ac, ac = ((ms.take jj).map fun m => (m % (i : Int)).toNat).foldl (fun a m => a ||| ancOf (mkL q R) m) ((1 <<< i) ||| 0) := ⟨_, rfl⟩
                  rw [← hac] at hNx hstp
                  replace hac := hide hac; replace hm := hide hm
                  have h3 := hx4; have hN3 := hNx; have hS3 := hSx
                  obtain ⟨w3, hw3⟩ : ∃ w3, w3 = wr := ⟨_, rfl⟩
                  rw [← hw3] at h3 hN3 hS3 gA2 k2' ⊢
                  clear hw3 hx4 hNx hSx
                  have hbk3 := hide (h3.out.hb _ _ hbk.out)
                  have hbkn : ¬ bk = Nb := fun h => hNn.out.2 (h ▸ List.mem_of_getElem? hbk.out)
                  have hbkn' : ¬ Nb = bk := fun h => hbkn h.symm
                  go_wp2_with fail
                  try simp only [hqi]
                  try simp only [hiw]
                  try simp only [hir]
                  try simp only [hv]
                  try simp only [hmm]
                  go_loopw [20] (fun t wr => ∃ j : Nat, j ≤ W ∧ t = .int .i64 (j : Int) ∧ Hid (wr.heap[Nb]? = some (.cells (orTo W j (ac) (ancOf (mkL q R) mm)).toArray 30 (0, 0))) ∧ Hid (Upd [Nb] w3 wr)) (fun t _ => W - (intOf t).toNat)
                  case atStart => exact ⟨0, by omega, rfl, hide (by rw [orTo_zero]; exact hN3.out), hide (Upd.refl _ _)⟩
                  case round =>
                    obtain ⟨j, hj, rfl, hN4, hu4⟩ := hrel
                    by_cases hjl : j < W
                    · have hjl' : (j : Int) < (W : Int) := by omega
                      have e1 := cell_blk hN4.out (orTo_get hjl (Nat.le_refl _))
                      have e2 := cell_blk (hu4.out.blk hbk3.out (by simpa using hbkn)) (words_get hjl)
                      have f1 : wr.frozen? ⟨Nb, j, none⟩ = false := froz_blk hN4.out _
                      have hor := bits_or_u64_nat (word (ac) j) (word (ancOf (mkL q R) mm) j) (word_lt _ _) (word_lt _ _)
                      have hst := hide (orTo_set (a := ac) (b := ancOf (mkL q R) mm) hjl)
                      obtain ⟨xv, hxv⟩ : ∃ xv, xv = word (ac) j := ⟨_, rfl⟩
                      obtain ⟨yv, hyv⟩ : ∃ yv, yv = word (ancOf (mkL q R) mm) j := ⟨_, rfl⟩
                      obtain ⟨zv, hzv⟩ : ∃ zv, zv = xv ||| yv := ⟨_, rfl⟩
                      rw [← hxv, ← hyv, ← hzv] at hor
                      rw [← hxv, ← hyv, ← hzv] at hst
                      rw [← hxv] at e1
                      rw [← hyv] at e2
                      clear hxv hyv hzv
                      have hN5 : Hid ((wr.setCell ⟨Nb, j, none⟩ (.int .u64 (zv : Int))).heap[Nb]? = some (.cells (orTo W (j + 1) (ac) (ancOf (mkL q R) mm)).toArray 30 (0, 0))) := by show _ = _; rw [set_blk hN4.out, hst.out]
                      go_wp2_with fail
                      go_region_law (fail)
                      all_goals
                        go_wp2
                        exact ⟨⟨j + 1, by omega, by simp, hide (by first | exact hN5.out | exact (set_blk (w := wr.drewN _) hN4.out j _).trans (by rw [hst.out])), hide (by first | exact hu4.out.setCell (p := ⟨Nb, j, none⟩) (by simp) _ | exact (hu4.out.drewN _).setCell (p := ⟨Nb, j, none⟩) (by simp) _ | exact (hu4.out.drew).setCell (p := ⟨Nb, j, none⟩) (by simp) _ | exact (hu4.out.setCell (p := ⟨Nb, j, none⟩) (by simp) _).drew)⟩, by simp [intOf]; omega⟩
                    · have hjW : j = W := by omega
                      rw [hjW, orTo_all] at hN4
                      clear hjW
                      have h4 := hide (h3.out.moveN hu4.out hNn.out.1 ⟨_, hN3.out⟩ hNn.out.2)
                      have hS4 := hide (hu4.out.blk hS3.out (by simpa using hSN))
                      go_wp2_with fail
                      exact ⟨⟨jj + 1, by omega, by simp, hide (by rw [hstp.out]; exact hN4.out), h4, hS4⟩, by simp [intOf]; omega⟩
                · obtain rfl : jj = lm := by omega
                  have e : ms.take jj = ms := List.take_of_length_le (by rw [← hlm.out]; omega)
                  rw [e] at hNx
                  clear e
                  rw [if_neg (by omega)] at hLi
                  have hanc : Hid (ancOf (mkL q R) i = (ms.map fun m => (m % (i : Int)).toNat).foldl (fun a m => a ||| ancOf (mkL q R) m) ((1 <<< i) ||| 0)) := by show _ = _; rw [hancs.out i _ _ hLi.out, hqt.out, hlo.out]; try rfl
                  rw [hqt.out] at hLi
                  have hNf : Hid (wr.heap[Nb]? = some (.cells (words W (ancOf (mkL q R) bl.length)).toArray 30 (0, 0))) := by show _ = _; rw [hbl.out, hanc.out]; exact hNx.out
                  have hfin := hide (hx4.out.next (q := qi) (by rw [hbl.out]; exact hLi.out) (by rw [hbl.out]; exact hil) hNf.out)
                  rw [hbl.out] at hfin
                  have gA : wr.cell? ⟨Ab, i, none⟩ = some (.slice none 0 0) := by have := cell_blk hx4.out.hA (anc_get0 (W := W) (by rw [hbl.out]; exact hil)); rwa [hbl.out] at this
                  have fA : wr.frozen? ⟨Ab, i, none⟩ = false := froz_blk hx4.out.hA _
                  have gL := cell_blk hx4.out.hL (last_get hqq)
                  have fL : wr.frozen? ⟨Lb, qi, none⟩ = false := froz_blk hx4.out.hL _
                  have nAL : ¬ Lb = Ab := blk_ne hx4.out.hL hx4.out.hA (by decide)
                  have nLA : ¬ Ab = Lb := fun h => nAL h.symm
                  go_wp2_with fail
                  exact ⟨⟨i + 1, bl ++ [Nb], by omega, by simp, hide (by simp [hbl.out]), hfin⟩, by simp [intOf]; omega⟩
            · have hi00 : i = 0 := by omega
              have hi0' : ¬ (0 : Int) < (i : Int) := by omega
              rw [if_pos hi00] at hLi
              have hanc : Hid (ancOf (mkL q R) i = (1 <<< i) ||| 0) := by show _ = _; rw [hancs.out i _ _ hLi.out, hqt.out, hlo.out]; try rfl
              rw [hqt.out] at hLi
              have hNf : Hid ((w2.setCell ⟨Nb, iw, none⟩ (.int .u64 (v1 : Int))).heap[Nb]? = some (.cells (words W (ancOf (mkL q R) bl.length)).toArray 30 (0, 0))) := by show _ = _; rw [hbl.out, hanc.out]; exact hN3n.out
              have hfin := hide (h3'.out.next (q := qi) (by rw [hbl.out]; exact hLi.out) (by rw [hbl.out]; exact hil) hNf.out)
              rw [hbl.out] at hfin
              replace hi00 := hide hi00
              go_wp2_with fail
              exact ⟨⟨i + 1, bl ++ [Nb], by omega, by simp, hide (by simp [hbl.out]), hfin⟩, by simp [intOf]; omega⟩
          | some l =>
            have hlo := hide hlo'
            have hli := (lastOf_some hlo').1
            have hlv : lastV (mkL q R) i qi = (l : Int) := by unfold lastV; rw [hlo']
            rw [hlv] at dL
            have hln : (l : Int) < (n : Int) := by omega
            obtain ⟨bk, hbk⟩ : ∃ bk, bl[l]? = some bk := ⟨_, List.getElem?_eq_getElem (by rw [hbl.out]; exact hli)⟩
            have gA := cell_blk h2.out.hA (anc_get (n := n) (W := W) hbk)
            have hAN : ¬ Ab = Nb := blk_ne h2.out.hA hN2.out (by decide)
            have hNA : ¬ Nb = Ab := fun h => hAN h.symm
            replace hbk := hide hbk
            clear hlv hlo'
            have h3 := h3'; have hN3 := hN3'; have hS3 := hS3'
            have gA3 : (w2.setCell ⟨Nb, iw, none⟩ (.int .u64 (v1 : Int))).cell? ⟨Ab, l, none⟩ = some (.slice (some ⟨bk, 0, none⟩) W W) := cell_blk h3.out.hA (anc_get (n := n) (W := W) hbk.out)
            have hbk3 := hide (h3.out.hb _ _ hbk.out)
            have hbkn : ¬ bk = Nb := fun h => hNn.out.2 (h ▸ List.mem_of_getElem? hbk.out)
            have hbkn' : ¬ Nb = bk := fun h => hbkn h.symm
            go_wp2_with fail
            try simp only [hqi]
            try simp only [hiw]
            try simp only [hir]
            try simp only [hv]
            generalize hw3 : World.setCell w2 _ _ = w3 at h3 hN3 hS3 hbk3 ⊢
            clear hw3
            go_loopw [16] (fun t wr => ∃ j : Nat, j ≤ W ∧ t = .int .i64 (j : Int) ∧ Hid (wr.heap[Nb]? = some (.cells (orTo W j (1 <<< i) (ancOf (mkL q R) l)).toArray 30 (0, 0))) ∧ Hid (Upd [Nb] w3 wr)) (fun t _ => W - (intOf t).toNat)
            case atStart => exact ⟨0, by omega, rfl, hide (by rw [orTo_zero]; exact hN3.out), hide (Upd.refl _ _)⟩
            case round =>
              obtain ⟨j, hj, rfl, hN4, hu4⟩ := hrel
              by_cases hjl : j < W
              · have hjl' : (j : Int) < (W : Int) := by omega
                have e1 := cell_blk hN4.out (orTo_get hjl (Nat.le_refl _))
                have e2 := cell_blk (hu4.out.blk hbk3.out (by simpa using hbkn)) (words_get hjl)
                have f1 : wr.frozen? ⟨Nb, j, none⟩ = false := froz_blk hN4.out _
                have hor := bits_or_u64_nat (word (1 <<< i) j) (word (ancOf (mkL q R) l) j) (word_lt _ _) (word_lt _ _)
                have hst := hide (orTo_set (a := 1 <<< i) (b := ancOf (mkL q R) l) hjl)
                obtain ⟨xv, hxv⟩ : ∃ xv, xv = word (1 <<< i) j := ⟨_, rfl⟩
                obtain ⟨yv, hyv⟩ : ∃ yv, yv = word (ancOf (mkL q R) l) j := ⟨_, rfl⟩
                obtain ⟨zv, hzv⟩ : ∃ zv, zv = xv ||| yv := ⟨_, rfl⟩
                rw [← hxv, ← hyv, ← hzv] at hor
                rw [← hxv, ← hyv, ← hzv] at hst
                rw [← hxv] at e1
                rw [← hyv] at e2
                clear hxv hyv hzv
                have hN5 : Hid ((wr.setCell ⟨Nb, j, none⟩ (.int .u64 (zv : Int))).heap[Nb]? = some (.cells (orTo W (j + 1) (1 <<< i) (ancOf (mkL q R) l)).toArray 30 (0, 0))) := by show _ = _; rw [set_blk hN4.out, hst.out]
                go_wp2_with fail
                go_region_law (fail)
                all_goals
                  go_wp2
                  exact ⟨⟨j + 1, by omega, by simp, hide (by first | exact hN5.out | exact (set_blk (w := wr.drewN _) hN4.out j _).trans (by rw [hst.out])), hide (by first | exact hu4.out.setCell (p := ⟨Nb, j, none⟩) (by simp) _ | exact (hu4.out.drewN _).setCell (p := ⟨Nb, j, none⟩) (by simp) _ | exact (hu4.out.drew).setCell (p := ⟨Nb, j, none⟩) (by simp) _ | exact (hu4.out.setCell (p := ⟨Nb, j, none⟩) (by simp) _).drew)⟩, by simp [intOf]; omega⟩
              · have hjW : j = W := by omega
                rw [hjW, orTo_all] at hN4
                clear hjW
                have h4 := hide (h3.out.moveN hu4.out hNn.out.1 ⟨_, hN3.out⟩ hNn.out.2)
                have hS4 := hide (hu4.out.blk hS3.out (by simpa using hSN))
                clear h3 hN3 hS3 hbk3 hu4
                by_cases hi0 : 0 < i
                · have hi0' : (0 : Int) < (i : Int) := by omega
                  have hi0n : ¬ (i : Int) = 0 := by omega
                  have s1 : wr.cell? ⟨S, 1, none⟩ = some (.slice am lm cm) := cell_blk hS4.out rfl
                  go_wp2_with fail
                  try simp only [hqi]
                  try simp only [hiw]
                  try simp only [hir]
                  try simp only [hv]
                  go_loopw [100] (fun t wr => ∃ jj : Nat, jj ≤ lm ∧ t = .int .i64 (jj : Int) ∧ Hid (wr.heap[Nb]? = some (.cells (words W ((((ms.take jj).map fun m => (m % (i : Int)).toNat)).foldl (fun a m => a ||| ancOf (mkL q R) m) ((1 <<< i) ||| ancOf (mkL q R) l))).toArray 30 (0, 0))) ∧ Hid (AI w wr q n W Lb Ab (mkL q R) bl) ∧ Hid (wr.heap[S]? = some (.cells #[.int .u8 b, .slice am lm cm] 37 (0, 0)))) (fun t _ => lm - (intOf t).toNat)
                  case atStart => exact ⟨0, by omega, rfl, hN4, h4, hS4⟩
                  case round =>
                    clear s1
                    obtain ⟨jj, hjj, rfl, hNx, hx4, hSx⟩ := hrel
                    by_cases hjl2 : jj < lm
                    · have hjl2' : (jj : Int) < (lm : Int) := by omega
                      obtain ⟨m, hm⟩ : ∃ m, ms[jj]? = some m := ⟨_, List.getElem?_eq_getElem (by rw [← hlm.out]; exact hjl2)⟩
                      obtain ⟨g', off', rfl, k2', k3', k4'⟩ := k7.out wr (hx4.out.hu.below (Nat.le_refl _) (by simp)) jj m hm
                      obtain ⟨mm, hmm⟩ : ∃ mm : Nat, m % (i : Int) = (mm : Int) := ⟨(m % (i : Int)).toNat, by have := Int.emod_nonneg m hi0n; omega⟩
                      have hmi : mm < i := by have := Int.emod_lt_of_pos m hi0'; omega
                      have hmn : (mm : Int) < (n : Int) := by omega
                      obtain ⟨bk, hbk⟩ : ∃ bk, bl[mm]? = some bk := ⟨_, List.getElem?_eq_getElem (by rw [hbl.out]; exact hmi)⟩
                      have gA2 := cell_blk hx4.out.hA (anc_get (n := n) (W := W) hbk)
                      replace hbk := hide hbk
                      have hstp : Hid (((ms.take (jj + 1)).map fun m => (m % (i : Int)).toNat).foldl (fun a m => a ||| ancOf (mkL q R) m) ((1 <<< i) ||| ancOf (mkL q R) l) = (((ms.take jj).map fun m => (m % (i : Int)).toNat).foldl (fun a m => a ||| ancOf (mkL q R) m) ((1 <<< i) ||| ancOf (mkL q R) l)) ||| ancOf (mkL q R) mm) := by
                        show _ = _
                        rw [take_snocI hm, List.map_append, List.foldl_append, List.map_singleton, hmm]
                        rfl
                      obtain ⟨ac, hac⟩ : ∃ ac, ac = ((ms.take jj).map fun m => (m % (i : Int)).toNat).foldl (fun a m => a ||| ancOf (mkL q R) m) ((1 <<< i) ||| ancOf (mkL q R) l) := ⟨_, rfl⟩
                      rw [← hac] at hNx hstp
                      replace hac := hide hac; replace hm := hide hm
                      have h3 := hx4; have hN3 := hNx; have hS3 := hSx
                      obtain ⟨w3, hw3⟩ : ∃ w3, w3 = wr := ⟨_, rfl⟩
                      rw [← hw3] at h3 hN3 hS3 gA2 k2' ⊢
                      clear hw3 hx4 hNx hSx
                      have hbk3 := hide (h3.out.hb _ _ hbk.out)
                      have hbkn : ¬ bk = Nb := fun h => hNn.out.2 (h ▸ List.mem_of_getElem? hbk.out)
                      have hbkn' : ¬ Nb = bk := fun h => hbkn h.symm
                      go_wp2_with fail
                      try simp only [hqi]
                      try simp only [hiw]
                      try simp only [hir]
                      try simp only [hv]
                      try simp only [hmm]
                      go_loopw [20] (fun t wr => ∃ j : Nat, j ≤ W ∧ t = .int .i64 (j : Int) ∧ Hid (wr.heap[Nb]? = some (.cells (orTo W j (ac) (ancOf (mkL q R) mm)).toArray 30 (0, 0))) ∧ Hid (Upd [Nb] w3 wr)) (fun t _ => W - (intOf t).toNat)
                      case atStart => exact ⟨0, by omega, rfl, hide (by rw [orTo_zero]; exact hN3.out), hide (Upd.refl _ _)⟩
                      case round =>
                        obtain ⟨j, hj, rfl, hN4, hu4⟩ := hrel
                        by_cases hjl : j < W
                        · have hjl' : (j : Int) < (W : Int) := by omega
                          have e1 := cell_blk hN4.out (orTo_get hjl (Nat.le_refl _))
                          have e2 := cell_blk (hu4.out.blk hbk3.out (by simpa using hbkn)) (words_get hjl)
                          have f1 : wr.frozen? ⟨Nb, j, none⟩ = false := froz_blk hN4.out _
                          have hor := bits_or_u64_nat (word (ac) j) (word (ancOf (mkL q R) mm) j) (word_lt _ _) (word_lt _ _)
                          have hst := hide (orTo_set (a := ac) (b := ancOf (mkL q R) mm) hjl)
                          obtain ⟨xv, hxv⟩ : ∃ xv, xv = word (ac) j := ⟨_, rfl⟩
                          obtain ⟨yv, hyv⟩ : ∃ yv, yv = word (ancOf (mkL q R) mm) j := ⟨_, rfl⟩
                          obtain ⟨zv, hzv⟩ : ∃ zv, zv = xv ||| yv := ⟨_, rfl⟩
                          rw [← hxv, ← hyv, ← hzv] at hor
                          rw [← hxv, ← hyv, ← hzv] at hst
                          rw [← hxv] at e1
                          rw [← hyv] at e2
                          clear hxv hyv hzv
                          have hN5 : Hid ((wr.setCell ⟨Nb, j, none⟩ (.int .u64 (zv : Int))).heap[Nb]? = some (.cells (orTo W (j + 1) (ac) (ancOf (mkL q R) mm)).toArray 30 (0, 0))) := by show _ = _; rw [set_blk hN4.out, hst.out]
                          go_wp2_with fail
                          go_region_law (fail)
                          all_goals
                            go_wp2
                            exact ⟨⟨j + 1, by omega, by simp, hide (by first | exact hN5.out | exact (set_blk (w := wr.drewN _) hN4.out j _).trans (by rw [hst.out])), hide (by first | exact hu4.out.setCell (p := ⟨Nb, j, none⟩) (by simp) _ | exact (hu4.out.drewN _).setCell (p := ⟨Nb, j, none⟩) (by simp) _ | exact (hu4.out.drew).setCell (p := ⟨Nb, j, none⟩) (by simp) _ | exact (hu4.out.setCell (p := ⟨Nb, j, none⟩) (by simp) _).drew)⟩, by simp [intOf]; omega⟩
                        · have hjW : j = W := by omega
                          rw [hjW, orTo_all] at hN4
                          clear hjW
                          have h4 := hide (h3.out.moveN hu4.out hNn.out.1 ⟨_, hN3.out⟩ hNn.out.2)
                          have hS4 := hide (hu4.out.blk hS3.out (by simpa using hSN))
                          go_wp2_with fail
                          exact ⟨⟨jj + 1, by omega, by simp, hide (by rw [hstp.out]; exact hN4.out), h4, hS4⟩, by simp [intOf]; omega⟩
                    · obtain rfl : jj = lm := by omega
                      have e : ms.take jj = ms := List.take_of_length_le (by rw [← hlm.out]; omega)
                      rw [e] at hNx
                      clear e
                      rw [if_neg (by omega)] at hLi
                      have hanc : Hid (ancOf (mkL q R) i = (ms.map fun m => (m % (i : Int)).toNat).foldl (fun a m => a ||| ancOf (mkL q R) m) ((1 <<< i) ||| ancOf (mkL q R) l)) := by show _ = _; rw [hancs.out i _ _ hLi.out, hqt.out, hlo.out]; try rfl
                      rw [hqt.out] at hLi
                      have hNf : Hid (wr.heap[Nb]? = some (.cells (words W (ancOf (mkL q R) bl.length)).toArray 30 (0, 0))) := by show _ = _; rw [hbl.out, hanc.out]; exact hNx.out
                      have hfin := hide (hx4.out.next (q := qi) (by rw [hbl.out]; exact hLi.out) (by rw [hbl.out]; exact hil) hNf.out)
                      rw [hbl.out] at hfin
                      have gA : wr.cell? ⟨Ab, i, none⟩ = some (.slice none 0 0) := by have := cell_blk hx4.out.hA (anc_get0 (W := W) (by rw [hbl.out]; exact hil)); rwa [hbl.out] at this
                      have fA : wr.frozen? ⟨Ab, i, none⟩ = false := froz_blk hx4.out.hA _
                      have gL := cell_blk hx4.out.hL (last_get hqq)
                      have fL : wr.frozen? ⟨Lb, qi, none⟩ = false := froz_blk hx4.out.hL _
                      have nAL : ¬ Lb = Ab := blk_ne hx4.out.hL hx4.out.hA (by decide)
                      have nLA : ¬ Ab = Lb := fun h => nAL h.symm
                      go_wp2_with fail
                      exact ⟨⟨i + 1, bl ++ [Nb], by omega, by simp, hide (by simp [hbl.out]), hfin⟩, by simp [intOf]; omega⟩
                · omega
        · obtain rfl : i = n := by omega
          go_wp2
          go_ret
          exact ⟨Lb, Ab, bl, rfl, hbl.out, h1.out⟩
end Go.Proofs.Ybulkogy
