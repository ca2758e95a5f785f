import Derived.Test.YbulkoboFmtBlock
namespace Go.Proofs.YbulkoboFmt
open Go.RowKit
set_option linter.unusedSimpArgs false
set_option linter.unusedVariables false

set_option maxRecDepth 100000 in
set_option maxHeartbeats 1000000 in
theorem block_be (w : World) (Pb R g n cap i : Nat) (cnt : Int) (ifv bufv : Value) (S : List Int) (B : Nat) (hst : St w Pb R g n cap i 48 cnt ifv bufv S B)
    (h0 h1 h2 h3 h4 h5 h6 h7 : Int) (hS8 : (S.drop i).take 8 = [h0, h1, h2, h3, h4, h5, h6, h7]) (hi8 : i + 8 ≤ n) (hy0 : byte h0) (hy1 : byte h1) (hy2 : byte h2) (hy3 : byte h3) (hy4 : byte h4) (hy5 : byte h5) (hy6 : byte h6) (hy7 : byte h7) (hmg : (le4 h3 h2 h1 h0 == 168627466) = false) (m : Nat) (htt : le4 h7 h6 h5 h4 = (m : Int) + 12) (hm4 : (m : Int) % 4 = 0) (him : i + 12 + m ≤ n)
    (t0 t1 t2 t3 : Int) (hT4 : (S.drop (i + 8 + m)).take 4 = [t0, t1, t2, t3]) (hz0 : byte t0) (hz1 : byte t1) (hz2 : byte t2) (hz3 : byte t3) (htr : le4 t3 t2 t1 t0 = (m : Int) + 12) :
    Calls Ybaf.prog 11 #[.pointer (some ⟨Pb, 0, none⟩)] w fun e w' => ∃ G cp rest, e = .returned (.tuple #[.int .u32 (le4 h3 h2 h1 h0), .slice (some ⟨G, 0, none⟩) m cp, .nilIface]) ∧
      St w' Pb R g n cap (i + (m + 12)) 48 cnt ifv (.slice (some ⟨G, 0, none⟩) (m + 4) cp) S B ∧ w'.heap[G]? = some (.cells (bs ((S.drop (i + 8)).take (m + 4)) ++ rest).toArray 5 (0, 0)) ∧ m + 4 ≤ cp ∧ cp ≤ maxLen ∧ (bufv.ownBlock = some G ∨ w.heap.size ≤ G) ∧ Upd (Pb :: R :: bufv.ownBlock.toList) w w' := by
  replace htr := hide htr
  obtain ⟨hPR, hPg, hRg⟩ := hst.ne
  have hgl : g < w.heap.size := by obtain ⟨_, h⟩ := hst.hg; exact lt_of_block h
  have hRl := lt_of_block hst.hR
  have hPl := lt_of_block hst.hP
  have p0 : w.cell? ⟨Pb, 0, none⟩ = some (.iface 31 (.pointer (some ⟨R, 0, none⟩))) := cell_blk hst.hP rfl
  have p1 : w.cell? ⟨Pb, 1, none⟩ = some (.iface 48 (.agg #[])) := cell_blk hst.hP rfl
  have p2 : w.cell? ⟨Pb, 2, none⟩ = some (.bool false) := cell_blk hst.hP rfl
  have hna := nil_beu32
  have hme := method_beu32
  replace hst := hide hst
  replace hm4 := hide hm4
  replace htt := hide htt
  have hfull := hide (full_any R w.heap.size g n cap i 8 0 8 62 zero8 S B (w.alloc (.cells zero8.toArray 62 (0, 0))).drew
    ((Below.heap_alloc _ _ _ hRl).trans hst.out.hR) (hst.out.hown.alloc _).drew (heap_alloc_new w _) (by omega) (by omega) (by omega) hi8 hst.out.hn hst.out.hcap hst.out.hcm (by simp [zero8]) (by omega) (by unfold maxLen; omega))
  go_enter Ybaf.func11, Ybaf.ntmps11
  go_wp2_with fail
  go_region_with (go_at_call 16; refine hfull.out.mono ?_; rintro e w1 ⟨rfl, hrest⟩; replace hrest := hide hrest)
  have hf := hide (head_facts (T := 48) hst.out hS8 hi8 hrest.out)
  have k0 : ∀ w', Below w1.heap.size w1 w' → w'.cell? ⟨Pb, 0, none⟩ = some (.iface 31 (.pointer (some ⟨R, 0, none⟩))) := fun w' hb => (hb.cell (p := ⟨Pb, 0, none⟩) (lt_of_block hf.out.1)).trans (cell_blk hf.out.1 rfl)
  have k1 : ∀ w', Below w1.heap.size w1 w' → w'.cell? ⟨Pb, 1, none⟩ = some (.iface 48 (.agg #[])) := fun w' hb => (hb.cell (p := ⟨Pb, 1, none⟩) (lt_of_block hf.out.1)).trans (cell_blk hf.out.1 rfl)
  have k5 : ∀ w', Below w1.heap.size w1 w' → w'.cell? ⟨Pb, 5, none⟩ = some bufv := fun w' hb => (hb.cell (p := ⟨Pb, 5, none⟩) (lt_of_block hf.out.1)).trans (cell_blk hf.out.1 rfl)
  have kh : Hid (∀ w', Below w1.heap.size w1 w' → w'.heap[w.heap.size]? = some (.cells (bs [h0, h1, h2, h3, h4, h5, h6, h7]).toArray 62 (0, 0))) := fun w' hb => (hb.block _ (lt_of_block hf.out.2.2.1)).trans hf.out.2.2.1
  have hb1 : Below w1.heap.size w1 w1 := Below.refl _ _
  have hb1' : Below w1.heap.size w1 w1.drew := (Below.refl _ _).drew
  clear p0 p1 p2
  have hu1 := hide hf.out.2.2.2.1
  go_wp2
  go_region_with (go_at_call 20; refine (be_u32 w.heap.size 0 8 8 h0 h1 h2 h3 w1.drew (by omega) hy0 hy1 hy2 hy3 (cell_blk (kh.out _ hb1') rfl) (cell_blk (kh.out _ hb1') rfl) (cell_blk (kh.out _ hb1') rfl) (cell_blk (kh.out _ hb1') rfl)).mono ?_; rintro e w2 ⟨rfl, hb2⟩; replace hb2 := hb1'.trans hb2; replace hb2 := Below.drew hb2)
  go_wp2
  go_region_with (go_at_call 20; refine (be_u32 w.heap.size 0 8 8 h0 h1 h2 h3 w2.drew (by omega) hy0 hy1 hy2 hy3 (cell_blk (kh.out _ hb2) rfl) (cell_blk (kh.out _ hb2) rfl) (cell_blk (kh.out _ hb2) rfl) (cell_blk (kh.out _ hb2) rfl)).mono ?_; rintro e w3 ⟨rfl, hb3⟩; replace hb3 := bnext hb2 hb3; have hb3d := Below.drew hb3; clear hb2 hb1 hb1')
  go_wp2
  go_region_with (go_at_call 20; refine (be_u32 w.heap.size 4 4 4 h4 h5 h6 h7 w3.drew (by omega) hy4 hy5 hy6 hy7 (cell_blk (kh.out _ hb3d) rfl) (cell_blk (kh.out _ hb3d) rfl) (cell_blk (kh.out _ hb3d) rfl) (cell_blk (kh.out _ hb3d) rfl)).mono ?_; rintro e w4 ⟨rfl, hb4⟩; replace hb4 := bnext hb3d hb4; clear hb3 hb3d)
  have hm1 : (m : Int) ≤ 1000000 := by have := hst.out.hn; omega
  have hm0 : (0 : Int) ≤ (m : Int) := by omega
  have t1 : ¬ (m : Int) + 12 < 12 := by omega
  have t2 : (((m : Int) + 12) % 4 != 0) = false := by rw [bne_eq_false_iff_eq]; have := hm4.out; omega
  have t3 : ¬ (16777280 : Int) < (m : Int) + 12 := by omega
  rw [htt.out]
  go_wp2_with fail
  rw [show (m : Int) + 12 - 8 = (m : Int) + 4 by omega]
  have hst4 := hide (St.below hf.out.2.1 hb4)
  have hgrow := hide (grow_any bufv (m + 4) w4 hst4.out.hbuf (by have := hst.out.hn; omega) (by omega))
  rw [show (((m + 4 : Nat)) : Int) = (m : Int) + 4 by omega] at hgrow
  refine hgrow.out.mono ?_
  rintro e w5 ⟨G, cp, cur, rfl, hG, hGs, hcpm, hkcp, hGo, hu5⟩
  have hst5 := hide (hst4.out.upd hu5)
  clear hgrow hf k0 k1 k5 kh t1 t2 t3
  have hGg : G ≠ g := by
    rcases hGo with h | h
    · exact (hst4.out.bufne h).2.2.1
    · have := hst4.out.hgl; omega
  have hb := hide (setbuf_facts hst5.out hG hGs hcpm hGg (m + 4))
  have hfull := hide (full_any R G g n cap (i + 8) (m + 4) 0 cp 5 cur.toList S B (w5.setCell ⟨Pb, 5, none⟩ (.slice (some ⟨G, 0, none⟩) (m + 4) cp)).drew
    hb.out.1.hR hb.out.1.hown.drew hb.out.2.1 hb.out.2.2.1.2.1 hGg (by omega) (by omega) hst5.out.hn hst5.out.hcap hst5.out.hcm (by simp; omega) hkcp hcpm)
  have q5 : w5.cell? ⟨Pb, 5, none⟩ = some bufv := cell_blk hst5.out.hP rfl
  have f5 : w5.frozen? ⟨Pb, 5, none⟩ = false := froz_blk hst5.out.hP _
  have q0 : w5.cell? ⟨Pb, 0, none⟩ = some (.iface 31 (.pointer (some ⟨R, 0, none⟩))) := cell_blk hst5.out.hP rfl
  have hG' := hide hG
  have hGo' := hide hGo
  clear hG hGo hna hme
  go_wp2_with fail
  go_region_held3 (fun w' => w'.cell? ⟨Pb, 0, none⟩ = some (.iface 31 (.pointer (some ⟨R, 0, none⟩))) ∧ w'.cell? ⟨Pb, 5, none⟩ = some (.slice (some ⟨G, 0, none⟩) (m + 4) cp)) (first | exact ⟨‹_›, ‹_›⟩ | simp [go_sem, q0, q5]) (first | (go_at_call 16; refine hfull.out.mono ?_; rintro e w7 ⟨rfl, hrest7⟩; have h7 := hide (read2_facts hb.out.1 hb.out.2.1 hb.out.2.2.1 hGg hkcp hGs hcpm (by omega) (by omega) hrest7); replace hrest7 := hide hrest7; have z0 : w7.cell? ⟨Pb, 0, none⟩ = some (.iface 31 (.pointer (some ⟨R, 0, none⟩))) := cell_blk h7.out.1.hP rfl; have z5 : w7.cell? ⟨Pb, 5, none⟩ = some (.slice (some ⟨G, 0, none⟩) (m + 4) cp) := cell_blk h7.out.1.hP rfl))
  go_wp2_with fail
  have z1 : w7.cell? ⟨Pb, 1, none⟩ = some (.iface 48 (.agg #[])) := cell_blk h7.out.1.hP rfl
  have hcp' : (cp : Int) ≤ 9223372036854775807 := by unfold maxLen at hcpm; omega
  have hcm1 : ¬ cp = m := by omega
  have hmc : (m : Int) + 4 ≤ (cp : Int) := by omega
  have hme := method_beu32
  have hna := nil_beu32
  go_quiet (fail)
  go_wp2_with fail
  have hcz := hide (trail_cells h7.out.2.1 h7.out.1 (by omega) hT4)
  refine (be_u32 G m 4 (cp - m) t0 t1 t2 t3 (w7.drewN nq) (by omega) hz0 hz1 hz2 hz3 hcz.out.1 hcz.out.2.1 hcz.out.2.2.1 hcz.out.2.2.2).mono ?_
  rintro e w8 ⟨rfl, hb8⟩
  rw [htr.out]
  go_wp2
  go_ret3
  have hb8' : Below w7.heap.size w7 w8 := bnext (below_drewN (Below.refl _ w7) nq) hb8
  refine ⟨G, cp, cur.toList.drop (m + 4), rfl, ?_, (hb8'.block G (lt_of_block h7.out.2.1)).trans h7.out.2.1, by omega, hcpm, ?_, ?_⟩
  · have := h7.out.1.below hb8'
    rwa [show i + 8 + (m + 4) = i + (m + 12) by omega] at this
  · rcases hGo'.out with h | h
    · exact .inl h
    · exact .inr (Nat.le_trans hu1.out.size (Nat.le_trans hb4.size h))
  · exact block_frame hu1.out hb4 hu5 hb.out.2.2.2 h7.out.2.2 hb8' hGo'.out
end Go.Proofs.YbulkoboFmt
