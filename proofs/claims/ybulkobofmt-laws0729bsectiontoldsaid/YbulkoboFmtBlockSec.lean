import Derived.Test.YbulkoboFmtBlock
namespace Go.Proofs.YbulkoboFmt
open Go.RowKit
set_option linter.unusedSimpArgs false
set_option linter.unusedVariables false

def zero4 : List Value := [.int .u8 0, .int .u8 0, .int .u8 0, .int .u8 0]
theorem splice4 (l : List Int) (h : l.length = 4) : splice zero4 0 (bs l) = bs l := by simp [splice, zero4, bs_length, h]

/-- Behind the reading of the byte-order magic. -/
theorem mag_facts {w w1 : World} {Pb R g n cap i : Nat} {T : TypeId} {cnt : Int} {ifv bufv : Value} {S : List Int} {B : Nat} (hst : St w Pb R g n cap i T cnt ifv bufv S B)
    {h0 h1 h2 h3 : Int} (hS4 : (S.drop i).take 4 = [h0, h1, h2, h3]) (hi4 : i + 4 ≤ n)
    (hr : w1.heap[R]? = some (.cells (rdCells (some ⟨g, 0, none⟩) n cap ((i + 4 : Nat) : Int)).toArray 33 (0, 0)) ∧ w1.heap[w.heap.size]? = some (.cells (splice zero4 0 (bs ((S.drop i).take 4))).toArray 69 (0, 0)) ∧ Upd [R, w.heap.size] (w.alloc (.cells zero4.toArray 69 (0, 0))).drew w1) :
    w1.heap[Pb]? = some (.cells (prCells R T cnt ifv bufv).toArray 40 (0, 0)) ∧ St w1 Pb R g n cap (i + 4) T cnt ifv bufv S B ∧ w1.heap[w.heap.size]? = some (.cells (bs [h0, h1, h2, h3]).toArray 69 (0, 0)) ∧ Upd [R] w w1 ∧ w.heap.size < w1.heap.size := by
  obtain ⟨r1, r2, r3⟩ := hr
  rw [hS4, splice4 _ rfl] at r2
  have hu : Upd [R] w w1 := by
    refine ⟨r3.os, r3.tape, r3.output, by have := r3.size; simp at this; omega, fun k hk hn => ?_⟩
    exact (r3.block k (by simp; omega) (by simp at hn ⊢; omega)).trans (Below.heap_alloc _ _ _ hk)
  obtain ⟨hPR, hPg, hRg⟩ := hst.ne
  have hP : w1.heap[Pb]? = some (.cells (prCells R T cnt ifv bufv).toArray 40 (0, 0)) := hu.blk hst.hP (by simpa using hPR)
  refine ⟨hP, ⟨hP, r1, hu.own hst.hown (by intro g' h; cases h; simpa using Ne.symm hRg), hst.hbuf.upd hu (fun G hG => by simpa using (hst.bufne hG).2.1), hst.hbg, hst.hn, hst.hcap, hst.hcm⟩, r2, hu, ?_⟩
  exact lt_of_block r2

/-- The order is stored. -/
theorem St.setord {w : World} {Pb R g n cap i : Nat} {T : TypeId} {cnt : Int} {bufv v : Value} {S : List Int} {B : Nat} (h : St w Pb R g n cap i T cnt v bufv S B) (T' : TypeId) : St (w.setCell ⟨Pb, 1, none⟩ (.iface T' (.agg #[]))) Pb R g n cap i T' cnt v bufv S B := by
  obtain ⟨hPR, hPg, hRg⟩ := h.ne
  have hP := set_blk h.hP 1 (.iface T' (.agg #[]))
  have hu : Upd [Pb] w (w.setCell ⟨Pb, 1, none⟩ (.iface T' (.agg #[]))) := (Upd.refl _ w).setCell (p := ⟨Pb, 1, none⟩) (by simp) _
  refine ⟨?_, hu.blk h.hR (by simpa using Ne.symm hPR), hu.own h.hown (by intro g' h; cases h; simpa using Ne.symm hPg), h.hbuf.upd hu (fun G hG => by simpa using (h.bufne hG).1), h.hbg, h.hn, h.hcap, h.hcm⟩
  rw [hP]; simp [prCells]

/-- The section header block. -/
def shb : List Int := [10, 13, 13, 10, 0, 0, 0, 28, 26, 43, 60, 77, 0, 1, 0, 0, 0, 0, 0, 0, 0, 0, 0, 0, 0, 0, 0, 28]

theorem sec_frame {w w4 w5 w6 w7 w8 : World} {Pb R G : Nat} (h1 : Upd [Pb, R] w w4) (h5 : Upd [] w4 w5) (h6 : Upd [Pb] w5 w6) (h7 : Upd [R, G] w6 w7) (h8 : Below w7.heap.size w7 w8) (hG : w4.heap.size ≤ G) :
    Upd [Pb, R] w w8 := by
  have a2 := h1.trans (h5.mono (by simp))
  have a3 := a2.trans (h6.mono (by simp))
  refine ⟨h8.os.trans (h7.os.trans a3.os), h8.tape.trans (h7.tape.trans a3.tape), h8.output.trans (h7.output.trans a3.output), Nat.le_trans a3.size (Nat.le_trans h7.size h8.size), fun k hk hn => ?_⟩
  simp only [List.mem_cons, not_or] at hn
  have hkG : k ≠ G := by
    rintro rfl
    have := h1.size; omega
  have hk6 : k < w6.heap.size := Nat.lt_of_lt_of_le hk a3.size
  rw [h8.block k (Nat.lt_of_lt_of_le hk6 h7.size), h7.block k hk6 (by simp; exact ⟨hn.2.1, hkG⟩), a3.block k hk (by simp; exact ⟨hn.1, hn.2.1⟩)]

set_option maxRecDepth 100000 in
set_option maxHeartbeats 1000000 in
theorem block_sec (w : World) (Pb R g n cap : Nat) (cnt : Int) (ifv : Value) (S tl : List Int) (B : Nat) (hst : St w Pb R g n cap 0 26 cnt ifv (.slice none 0 0) S B) (hS : S = shb ++ tl) :
    Calls Ybaf.prog 11 #[.pointer (some ⟨Pb, 0, none⟩)] w fun e w' => ∃ G cp rest, e = .returned (.tuple #[.int .u32 168627466, .slice (some ⟨G, 0, none⟩) 12 cp, .nilIface]) ∧
      St w' Pb R g n cap 28 48 cnt ifv (.slice (some ⟨G, 0, none⟩) 16 cp) S B ∧ w'.heap[G]? = some (.cells (bs [0, 1, 0, 0, 0, 0, 0, 0, 0, 0, 0, 0, 0, 0, 0, 28] ++ rest).toArray 5 (0, 0)) ∧ 16 ≤ cp ∧ cp ≤ maxLen ∧ w.heap.size ≤ G ∧ Upd [Pb, R] w w' := by
  obtain ⟨hPR, hPg, hRg⟩ := hst.ne
  have hgl : g < w.heap.size := by obtain ⟨_, h⟩ := hst.hg; exact lt_of_block h
  have hRl := lt_of_block hst.hR
  have hPl := lt_of_block hst.hP
  have hn28 : 28 ≤ n := by have := hst.hown.1; rw [bs_length, hS] at this; simp [shb] at this; omega
  have hS8 : (S.drop 0).take 8 = [10, 13, 13, 10, 0, 0, 0, 28] := by rw [hS]; rfl
  have hS4 : (S.drop (0 + 8)).take 4 = [26, 43, 60, 77] := by rw [hS]; rfl
  have hS16 : (S.drop (0 + 8 + 4)).take (12 + 4) = [0, 1, 0, 0, 0, 0, 0, 0, 0, 0, 0, 0, 0, 0, 0, 28] := by rw [hS]; rfl
  have hT4 : (S.drop (0 + 8 + 4 + 12)).take 4 = [0, 0, 0, 28] := by rw [hS]; rfl
  replace hS8 := hide hS8; replace hS4 := hide hS4; replace hS16 := hide hS16; replace hT4 := hide hT4; replace hS := hide hS
  have p0 : w.cell? ⟨Pb, 0, none⟩ = some (.iface 31 (.pointer (some ⟨R, 0, none⟩))) := cell_blk hst.hP rfl
  have p1 : w.cell? ⟨Pb, 1, none⟩ = some (.iface 26 (.agg #[])) := cell_blk hst.hP rfl
  have p2 : w.cell? ⟨Pb, 2, none⟩ = some (.bool false) := cell_blk hst.hP rfl
  have hna := nil_leu32
  have hme := method_leu32
  have hna2 := nil_beu32
  have hme2 := method_beu32
  replace hst := hide hst
  have hfull := hide (full_any R w.heap.size g n cap 0 8 0 8 62 zero8 S B (w.alloc (.cells zero8.toArray 62 (0, 0))).drew
    ((Below.heap_alloc _ _ _ hRl).trans hst.out.hR) (hst.out.hown.alloc _).drew (heap_alloc_new w _) (by omega) (by omega) (by omega) (by omega) hst.out.hn hst.out.hcap hst.out.hcm (by simp [zero8]) (by omega) (by unfold maxLen; omega))
  go_enter Ybaf.func11, Ybaf.ntmps11
  go_wp2_with fail
  go_region_with (go_at_call 16; refine hfull.out.mono ?_; rintro e w1 ⟨rfl, hrest⟩; replace hrest := hide hrest)
  have hf := hide (head_facts (T := 26) hst.out hS8.out (by omega) hrest.out)
  have k0 : ∀ w', Below w1.heap.size w1 w' → w'.cell? ⟨Pb, 0, none⟩ = some (.iface 31 (.pointer (some ⟨R, 0, none⟩))) := fun w' hb => (hb.cell (p := ⟨Pb, 0, none⟩) (lt_of_block hf.out.1)).trans (cell_blk hf.out.1 rfl)
  have k1 : ∀ w', Below w1.heap.size w1 w' → w'.cell? ⟨Pb, 1, none⟩ = some (.iface 26 (.agg #[])) := fun w' hb => (hb.cell (p := ⟨Pb, 1, none⟩) (lt_of_block hf.out.1)).trans (cell_blk hf.out.1 rfl)
  have kh : Hid (∀ w', Below w1.heap.size w1 w' → w'.heap[w.heap.size]? = some (.cells (bs [10, 13, 13, 10, 0, 0, 0, 28]).toArray 62 (0, 0))) := fun w' hb => (hb.block _ (lt_of_block hf.out.2.2.1)).trans hf.out.2.2.1
  have hb1 : Below w1.heap.size w1 w1 := Below.refl _ _
  have hb1' : Below w1.heap.size w1 w1.drew := (Below.refl _ _).drew
  clear p0 p1 p2
  have hu1 := hide hf.out.2.2.2.1
  go_wp2
  go_region_with (go_at_call 21; refine (le_u32 w.heap.size 0 8 8 10 13 13 10 w1.drew (by omega) (by unfold byte; omega) (by unfold byte; omega) (by unfold byte; omega) (by unfold byte; omega) (cell_blk (kh.out _ hb1') rfl) (cell_blk (kh.out _ hb1') rfl) (cell_blk (kh.out _ hb1') rfl) (cell_blk (kh.out _ hb1') rfl)).mono ?_; rintro e w2 ⟨rfl, hb2⟩; replace hb2 := hb1'.trans hb2; replace hb2 := Below.drew hb2)
  rw [show le4 10 13 13 10 = 168627466 by rfl]
  go_wp2
  go_region_with (go_at_call 20; refine (be_u32 w.heap.size 0 8 8 10 13 13 10 w2.drew (by omega) (by unfold byte; omega) (by unfold byte; omega) (by unfold byte; omega) (by unfold byte; omega) (cell_blk (kh.out _ hb2) rfl) (cell_blk (kh.out _ hb2) rfl) (cell_blk (kh.out _ hb2) rfl) (cell_blk (kh.out _ hb2) rfl)).mono ?_; rintro e w3 ⟨rfl, hb3⟩; replace hb3 := bnext hb2 hb3; rw [show le4 10 13 13 10 = 168627466 by rfl]; clear hb2 hb1 hb1')
  have hst3 := hide (hf.out.2.1.below hb3)
  have hfull := hide (full_any R w3.heap.size g n cap (0 + 8) 4 0 4 69 zero4 S B (w3.alloc (.cells zero4.toArray 69 (0, 0))).drew
    ((Below.heap_alloc _ _ _ (lt_of_block hst3.out.hR)).trans hst3.out.hR) (hst3.out.hown.alloc _).drew (heap_alloc_new w3 _) (by have := lt_of_block hst3.out.hR; omega) (by have := hst3.out.hgl; omega) (by omega) (by omega) hst3.out.hn hst3.out.hcap hst3.out.hcm (by simp [zero4]) (by omega) (by unfold maxLen; omega))
  have p0 : w3.cell? ⟨Pb, 0, none⟩ = some (.iface 31 (.pointer (some ⟨R, 0, none⟩))) := cell_blk hst3.out.hP rfl
  have hPl3 := lt_of_block hst3.out.hP
  have kh3 := hide (kh.out _ hb3)
  clear k0 k1 kh hna hme
  go_wp2_with fail
  go_region_with (go_at_call 16; refine hfull.out.mono ?_; rintro e w4 ⟨rfl, hrest⟩; replace hrest := hide hrest)
  have hm := hide (mag_facts hst3.out hS4.out (by omega) hrest.out)
  have hRs : ¬ w.heap.size = R := by omega
  have kh4 := hide (hm.out.2.2.2.1.blk kh3.out (by simpa using hRs))
  have hb4 : Below w4.heap.size w4 w4.drew := (Below.refl _ _).drew
  have hmg : Hid (w4.drew.heap[w3.heap.size]? = some (.cells (bs [26, 43, 60, 77]).toArray 69 (0, 0))) := hm.out.2.2.1
  clear p0
  go_wp2
  go_region_with (go_at_call 20; refine (be_u32 w3.heap.size 0 4 4 26 43 60 77 w4.drew (by omega) (by unfold byte; omega) (by unfold byte; omega) (by unfold byte; omega) (by unfold byte; omega) (cell_blk hmg.out rfl) (cell_blk hmg.out rfl) (cell_blk hmg.out rfl) (cell_blk hmg.out rfl)).mono ?_; rintro e w5 ⟨rfl, hb5⟩; replace hb5 := bnext hb4 hb5; rw [show le4 77 60 43 26 = 439041101 by rfl]; have hst5 := hide (hm.out.2.1.below hb5); have f1 : w5.frozen? ⟨Pb, 1, none⟩ = false := froz_blk hst5.out.hP _; have g1 : w5.cell? ⟨Pb, 1, none⟩ = some (.iface 26 (.agg #[])) := cell_blk hst5.out.hP rfl; have kh5 := hide ((hb5.block _ (lt_of_block kh4.out)).trans kh4.out); clear hb4)
  go_wp2_with fail
  generalize hw6 : World.setCell w5 _ _ = w6
  have hst6 : Hid (St w6 Pb R g n cap (0 + 8 + 4) 48 cnt ifv (.slice none 0 0) S B) := by rw [← hw6]; exact hst5.out.setord 48
  have hu6 : Hid (Upd [Pb, R] w w6) := by
    have a := (hu1.out.trans (Upd.of_below hb3)).trans (hm.out.2.2.2.1.trans (Upd.of_below hb5))
    have b := (a.mono (ks' := [Pb, R]) (by simp)).setCell (p := ⟨Pb, 1, none⟩) (by simp) (.iface 48 (.agg #[]))
    rw [hw6] at b
    exact b
  have hPs : ¬ w.heap.size = Pb := by omega
  have kh6 : Hid (w6.drew.heap[w.heap.size]? = some (.cells (bs [10, 13, 13, 10, 0, 0, 0, 28]).toArray 62 (0, 0))) := by rw [← hw6]; exact (set_blk_ne hPs).trans kh5.out
  have g1' : w6.cell? ⟨Pb, 1, none⟩ = some (.iface 48 (.agg #[])) := cell_blk hst6.out.hP rfl
  have hb6 : Below w6.heap.size w6 w6.drew := (Below.refl _ _).drew
  clear hw6 f1 g1 hst5 kh5 hm hmg kh4 kh3 hst3
  go_region_with (go_at_call 20; refine (be_u32 w.heap.size 4 4 4 0 0 0 28 w6.drew (by omega) (by unfold byte; omega) (by unfold byte; omega) (by unfold byte; omega) (by unfold byte; omega) (cell_blk kh6.out rfl) (cell_blk kh6.out rfl) (cell_blk kh6.out rfl) (cell_blk kh6.out rfl)).mono ?_; rintro e w7 ⟨rfl, hb7⟩; replace hb7 := bnext hb6 hb7; rw [show le4 28 0 0 0 = 28 by rfl]; clear hb6)
  have hst7 := hide (hst6.out.below hb7)
  have g5 : w7.cell? ⟨Pb, 5, none⟩ = some (.slice none 0 0) := cell_blk hst7.out.hP rfl
  have hu7 := hide (hu6.out.trans (Upd.of_below hb7))
  clear g1' hst6 hu6 kh6 hb7
  go_wp2_with fail
  have hgrow := hide (grow_any (.slice none 0 0) 16 w7 hst7.out.hbuf (by omega) (by omega))
  rw [show (((16 : Nat)) : Int) = 16 by rfl] at hgrow
  refine hgrow.out.mono ?_
  rintro e w8 ⟨G, cp, cur, rfl, hG, hGs, hcpm, hkcp, hGo, hu8⟩
  replace hGo : w7.heap.size ≤ G := by
    rcases hGo with h | h
    · cases h
    · exact h
  have hst8 := hide (hst7.out.upd hu8)
  clear hgrow g5
  have hGg : G ≠ g := by
    have := hst7.out.hgl; omega
  have hb := hide (setbuf_facts hst8.out hG hGs hcpm hGg (12 + 4))
  have hfull := hide (full_any R G g n cap (0 + 8 + 4) (12 + 4) 0 cp 5 cur.toList S B (w8.setCell ⟨Pb, 5, none⟩ (.slice (some ⟨G, 0, none⟩) (12 + 4) cp)).drew
    hb.out.1.hR hb.out.1.hown.drew hb.out.2.1 hb.out.2.2.1.2.1 hGg (by omega) (by omega) hst8.out.hn hst8.out.hcap hst8.out.hcm (by simp; omega) hkcp hcpm)
  rw [show (12 + 4 : Nat) = 16 by rfl] at hb hfull
  have q5 : w8.cell? ⟨Pb, 5, none⟩ = some (.slice none 0 0) := cell_blk hst8.out.hP rfl
  have f5 : w8.frozen? ⟨Pb, 5, none⟩ = false := froz_blk hst8.out.hP _
  have q0 : w8.cell? ⟨Pb, 0, none⟩ = some (.iface 31 (.pointer (some ⟨R, 0, none⟩))) := cell_blk hst8.out.hP rfl
  have hG' := hide hG
  have hGo' := hide hGo
  clear hG hGo hna2 hme2
  go_wp2_with fail
  go_region_held3 (fun w' => w'.cell? ⟨Pb, 0, none⟩ = some (.iface 31 (.pointer (some ⟨R, 0, none⟩))) ∧ w'.cell? ⟨Pb, 5, none⟩ = some (.slice (some ⟨G, 0, none⟩) 16 cp)) (first | exact ⟨‹_›, ‹_›⟩ | simp [go_sem, q0, q5]) (first | (go_at_call 16; refine hfull.out.mono ?_; rintro e w9 ⟨rfl, hrest7⟩; have h7 := hide (read2_facts (m := 12) hb.out.1 hb.out.2.1 hb.out.2.2.1 hGg hkcp hGs hcpm (by omega) (by omega) hrest7); replace hrest7 := hide hrest7; have z0 : w9.cell? ⟨Pb, 0, none⟩ = some (.iface 31 (.pointer (some ⟨R, 0, none⟩))) := cell_blk h7.out.1.hP rfl; have z5 : w9.cell? ⟨Pb, 5, none⟩ = some (.slice (some ⟨G, 0, none⟩) 16 cp) := cell_blk h7.out.1.hP rfl))
  go_wp2_with fail
  have z1 : w9.cell? ⟨Pb, 1, none⟩ = some (.iface 48 (.agg #[])) := cell_blk h7.out.1.hP rfl
  have hcp' : (cp : Int) ≤ 9223372036854775807 := by unfold maxLen at hcpm; omega
  have hcm1 : ¬ cp = 12 := by omega
  have hmc : (16 : Int) ≤ (cp : Int) := by omega
  have hmc2 : (12 : Int) ≤ (cp : Int) := by omega
  have hme := method_beu32
  have hna := nil_beu32
  go_quiet (fail)
  go_wp2_with fail
  have hcz := hide (trail_cells h7.out.2.1 h7.out.1 (by omega) hT4.out)
  refine (be_u32 G 12 4 (cp - 12) 0 0 0 28 (w9.drewN nq) (by omega) (by unfold byte; omega) (by unfold byte; omega) (by unfold byte; omega) (by unfold byte; omega) hcz.out.1 hcz.out.2.1 hcz.out.2.2.1 hcz.out.2.2.2).mono ?_
  rintro e w10 ⟨rfl, hb8⟩
  rw [show le4 28 0 0 0 = 28 by rfl]
  go_wp2
  go_ret3
  have hb8' : Below w9.heap.size w9 w10 := bnext (below_drewN (Below.refl _ w9) nq) hb8
  have h72 := h7.out.2.1
  rw [hS16.out] at h72
  refine ⟨G, cp, cur.toList.drop (12 + 4), rfl, h7.out.1.below hb8', (hb8'.block G (lt_of_block h72)).trans h72, hkcp, hcpm, ?_, ?_⟩
  · have := hu7.out.size
    have := hGo'.out
    omega
  · exact sec_frame hu7.out hu8 hb.out.2.2.2 h7.out.2.2 hb8' hGo'.out
end Go.Proofs.YbulkoboFmt
