import Derived.Test.YbulkoboFmtNextB
namespace Go.Proofs.YbulkoboFmt
open Go.RowKit
set_option linter.unusedSimpArgs false
set_option linter.unusedVariables false

/-- What next hands back. -/
def NBP (w w' : World) (Pb B pd c : Nat) (wl lt : Int) (data : List Int) (e : Ending) : Prop :=
  (pd < c ∧ ∃ p, e = .returned (.tuple #[.agg pk0, .iface 81 p]) ∧ Below B w w') ∨
  (c ≤ pd ∧ ∃ G cp gi ci, e = .returned (.tuple #[.agg #[.int .i64 1, .int .u16 lt, .slice (some ⟨G, 4, none⟩) c (cp - 4), .int .u32 wl], .nilIface]) ∧
    w'.cell? ⟨Pb, 4, none⟩ = some (.slice (some ⟨gi, 0, none⟩) 1 ci) ∧ (∀ j v, data[j]? = some v → w'.cell? ⟨G, 4 + j, none⟩ = some (.int .u8 v)) ∧ Below B w w')

/-- The three states at a round's head. -/
def NBS (w wr : World) (Pb R g n cap A B : Nat) (S : List Int) (N2 gi : Nat) (lt sn : Int) : Prop :=
  (NB w wr Pb R g n cap A B S 26 0 N2 (.slice (some ⟨gi, 0, none⟩) 1 1) (.slice none 0 0) 1 [.int .u16 65535, .int .u32 1]) ∨
  (∃ bufv ifv, NB w wr Pb R g n cap A B S 48 28 N2 ifv bufv 0 []) ∨ (∃ bufv ifv, NB w wr Pb R g n cap A B S 48 48 N2 ifv bufv 1 (ifs [(lt, sn)]))

theorem own_zero {w : World} {B gi ci : Nat} {x y : Value} (h : w.ownsRow B 52 2 (.slice (some ⟨gi, 0, none⟩) 1 ci) 1 [x, y]) : w.ownsRow B 52 2 (.slice (some ⟨gi, 0, none⟩) 0 ci) 0 [] := by
  rcases h.2 with ⟨h', _⟩ | ⟨g', cap', cur, h', hB, hh, h1, h2, h3, h4⟩
  · cases h'
  · cases h'
    exact ⟨rfl, .inr ⟨gi, ci, cur, rfl, hB, hh, by omega, h2, h3, by simp⟩⟩
theorem own_some1 {w : World} {B n : Nat} {v : Value} {xs : List Value} (h : w.ownsRow B 52 2 v (n + 1) xs) : ∃ gi ci, v = .slice (some ⟨gi, 0, none⟩) (n + 1) ci ∧ n + 1 ≤ ci ∧ ci ≤ maxLen := by
  rcases h.2 with ⟨_, h'⟩ | ⟨g', cap', cur, h', hB, hh, h1, h2, h3, h4⟩
  · omega
  · exact ⟨g', cap', h', h1, h2⟩

set_option maxRecDepth 100000 in
set_option maxHeartbeats 40000000 in
theorem next_be (w : World) (Pb R g n cap A B gi : Nat) (S : List Int) (hAB : A ≤ B) (hPB : B ≤ Pb) (hRB : B ≤ R) (hBw : B ≤ w.heap.size) (hst : St w Pb R g n cap 0 26 0 (.slice (some ⟨gi, 0, none⟩) 1 1) (.slice none 0 0) S A)
    (hif : w.ownsRow B 52 2 (.slice (some ⟨gi, 0, none⟩) 1 1) 1 [.int .u16 65535, .int .u32 1])
    (lt sn : Int) (hl0 : 0 ≤ lt) (hl1 : lt < 65536) (hs0 : 0 ≤ sn) (hs1 : sn < 256) (pd wl c : Nat) (tot : Int) (data : List Int) (hS : S = shb ++ (idbB lt sn ++ spb wl data tot))
    (hpd : data.length = pd) (hpm : pd % 4 = 0) (htot : tot = 16 + (pd : Int)) (hpl : pd ≤ 2000) (hw1 : wl < 100000)
    (hc : Hid ((sn = 0 ∧ c = wl) ∨ (0 < sn ∧ (sn < wl ∧ (c : Int) = sn)) ∨ (0 < sn ∧ (¬ sn < wl ∧ c = wl)))) :
    Calls Ybaf.prog 7 #[.pointer (some ⟨Pb, 0, none⟩)] w fun e w' => NBP w w' Pb B pd c wl lt data e := by
  have hS1 : S.drop 28 = idbB lt sn ++ spb wl data tot := by rw [hS]; rfl
  have hS2 : S.drop 48 = spb wl data tot ++ [] := by rw [hS, List.append_nil]; rfl
  have hn48 : 64 + pd ≤ n := by have := hst.len; rw [hS] at this; simp [shb, spb_len, idbB_eq] at this; omega
  have hl2 := hide (And.intro hl0 hl1)
  have hs2 := hide (And.intro hs0 hs1)
  replace hst := hide hst; replace hif := hide hif; replace hS := hide hS; replace hS1 := hide hS1; replace hS2 := hide hS2; replace hpd := hide hpd; replace hpm := hide hpm; replace htot := hide htot
  clear hl0 hl1 hs0 hs1
  obtain ⟨i0, hi, hz0, hz1, hz2⟩ := info_parts Ybaf.info52
  have hme := method_beu32
  have hna := nil_beu32
  have hme2 := method_beu16
  have hna2 := nil_beu16
  go_enter Ybaf.func7, Ybaf.ntmps7
  go_wp2_with fail
  go_loopw [4] (fun t wr => Hid (NBS w wr Pb R g n cap A B S w.heap.size gi lt sn)) (fun _ wr => leftB R n wr)
  case atStart =>
    exact hide (.inl ⟨hst.out.upd (Upd.of_below ((Below.refl _ w).alloc (Nat.le_refl _) _)), hif.out.alloc _, heap_alloc_new w _, by simp [Value.ownBlock], by simp; omega, (Below.refl _ w).alloc hBw _⟩)
  case round =>
    rcases hrel.out with ⟨hst, hif, hres, hbB, hBr, hbel⟩ | ⟨bufv, ifv, hst, hif, hres, hbB, hBr, hbel⟩ | ⟨bufv, ifv, hst, hif, hres, hbB, hBr, hbel⟩
    · have hsz := hide hst.leftB
      replace hst := hide hst; replace hif := hide hif; replace hres := hide hres; replace hbB := hide hbB; replace hbel := hide hbel
      clear hrel
      go_wp2_with fail
      refine (block_sec wr Pb R g n cap 0 (.slice (some ⟨gi, 0, none⟩) 1 1) S _ A hst.out hS.out).mono ?_
      rintro e w1 ⟨G, cp, rest, rfl, hst1, hG, hcp, hcm, hGo, hu⟩
      have hsec := hide (section_be w1 Pb R g n cap 28 gi 1 0 _ S A hst1 G cp _ rest hG (by omega) (by unfold maxLen; omega))
      have hrd := hide (nb_read hst.out hif.out hres.out hbB.out hBr hbel.out hPB hRB hu)
      have hst1' := hide hst1
      clear hst1 hG hcp hcm
      replace hu := hide hu
      go_wp2_with fail
      refine hsec.out.mono ?_
      rintro e w2 ⟨rfl, hst2, hu2⟩
      have hni : Hid (NB w w2 Pb R g n cap A B S 48 28 w.heap.size (.slice (some ⟨gi, 0, none⟩) 0 1) (.slice (some ⟨G, 0, none⟩) 16 cp) 0 []) := by
        refine ⟨hst2, own_zero (hu2.own hrd.out.1 ?_), hu2.blk hrd.out.2.1 (by simpa using blkB_ne hrd.out.2.1 hst1'.out.hP (by decide)), ?_, Nat.le_trans hrd.out.2.2.1 hu2.size, hrd.out.2.2.2.trans (hu2.below hrd.out.2.2.1 (by simpa using hPB))⟩
        · intro g' h
          obtain ⟨c', hc'⟩ := own_blk hrd.out.1 h
          simpa using blkB_ne hc' hst1'.out.hP (by decide)
        · intro G' h; cases h
          show B ≤ G
          omega
      clear hst2 hu2
      go_wp2
      refine ⟨hide (.inr (.inl ⟨_, _, hni.out⟩)), ?_⟩
      rw [hni.out.1.leftB, hsz.out]
      omega
    · have hsz := hide hst.leftB
      obtain ⟨ao, ci, rfl⟩ := own_form hif
      replace hst := hide hst; replace hif := hide hif; replace hres := hide hres; replace hbB := hide hbB; replace hbel := hide hbel
      clear hrel
      go_wp2_with fail
      refine (block_idbB wr Pb R g n cap 28 0 (.slice ao 0 ci) bufv S _ A hst.out lt sn hS1.out).mono ?_
      rintro e w1 ⟨G, cp, rest, rfl, hst1, hG, hcp, hcm, hGo, hu⟩
      have hP1 := hide hst1.hP
      have q1 : w1.cell? ⟨Pb, 1, none⟩ = some (.iface 48 (.agg #[])) := cell_blk hst1.hP rfl
      have q4 : w1.cell? ⟨Pb, 4, none⟩ = some (.slice ao 0 ci) := cell_blk hst1.hP rfl
      have hcp4 : ¬ cp = 4 := by omega
      have hcp' : (cp : Int) ≤ 9223372036854775807 := by unfold maxLen at hcm; omega
      have hcp4' : (4 : Int) ≤ (cp : Int) := by omega
      have hme : leftB R n wr = n + 1 - 28 := hsz.out
      have hdec := hide (And.intro hme hn48)
      replace hst1 := hide hst1; replace hG := hide hG; replace hu := hide hu; replace hGo := hide hGo
      have hme := method_beu32
      clear hsz
      go_wp2_with fail
      have hGd : Hid (∀ w', Below w1.heap.size w1 w' → w'.heap[G]? = some (.cells (bs (idY lt sn) ++ rest).toArray 5 (0, 0))) := fun w' hb => (hb.block G (lt_of_block hG.out)).trans hG.out
      have hrd := hide (nb_read hst.out hif.out hres.out hbB.out hBr hbel.out hPB hRB hu.out)
      have hifd : Hid (∀ w', Below w1.heap.size w1 w' → w'.ownsRow B 52 2 (.slice ao 0 ci) 0 []) := fun w' hb => (Upd.of_below (ks := []) hb).own hrd.out.1 (by simp)
      have hB1 : B ≤ w1.heap.size := hrd.out.2.2.1
      have hbB1 : Hid (∀ G', (Value.slice (some ⟨G, 0, none⟩) 12 cp).ownBlock = some G' → B ≤ G') := by
        intro G' h; cases h
        show B ≤ G
        rcases hGo.out with h | h
        · exact hbB.out _ h
        · omega
      have hbd : Below w1.heap.size w1 w1.drew := (Below.refl _ _).drew
      have hPd : Hid (∀ w', Below w1.heap.size w1 w' → w'.heap[Pb]? = some (.cells (prCells R 48 0 (.slice ao 0 ci) (.slice (some ⟨G, 0, none⟩) 12 cp)).toArray 40 (0, 0))) := fun w' hb => (hb.block Pb (lt_of_block hP1.out)).trans hP1.out
      replace hPB := hide hPB
      clear hst hif hres hbB hbel hBr hu hGo hcm hRB hBw hS hS1 hS2 hcp hpd hpm htot hpl hw1 hc hn48
      go_region_law (first
        | (refine step_append_own rfl (.tmp 50) (.tmp 67) 38 rfl B 52 i0 (.agg #[.int .u16 0, .int .u32 0]) 2 8 Ybaf.underlying38 hi hz0 hz1 hz2 rfl (by decide) _ 0 [] rfl ((hifd.out _ hb3).alloc _) ⟨w3.heap.size, 0, none⟩ 1 1 [.int .u16 lt, .int .u32 sn] rfl rfl (fun j' u hj' => new_cells1 w3 [.int .u16 lt, .int .u32 sn] 52 hj') (by simp [Value.oneCell']) (by unfold maxLen; omega) (by omega) (by have := hb3.size; simp; omega) ?_; intro v6 w6 hown6 hg6 _; obtain ⟨ao6, ci6, rfl⟩ := own_form hown6; have hP6 := hide ((St.keep52 (hst1.out.below hb3) (own_less (hifd.out _ hb3) hAB) hg6).hP); replace hown6 := hide hown6; replace hg6 := hide hg6; have u4 : w6.cell? ⟨Pb, 4, none⟩ = some (.slice ao 0 ci) := cell_blk hP6.out rfl; have uf : w6.frozen? ⟨Pb, 4, none⟩ = false := froz_blk hP6.out _)
        | (go_simp; go_at_call 20; refine (idb_u32B w2 G (cp - 4) lt sn rest hs2.out.1 hs2.out.2 (hGd.out _ hb2)).mono ?_; rintro e w3 ⟨rfl, hb3⟩; replace hb3 := bnext hb2 hb3; have x4 : w3.cell? ⟨Pb, 4, none⟩ = some (.slice ao 0 ci) := cell_blk (hPd.out _ hb3) rfl; have x5 : Pb < w3.heap.size := lt_of_block (hPd.out _ hb3))
        | (go_simp; go_at_call 52; refine (idb_u16B w1.drew G cp lt sn rest hl2.out.1 hl2.out.2 (hGd.out _ hbd)).mono ?_; rintro e w2 ⟨rfl, hb2⟩; replace hb2 := bnext hbd hb2; have y1 : w2.cell? ⟨Pb, 1, none⟩ = some (.iface 48 (.agg #[])) := cell_blk (hPd.out _ hb2) rfl; have y4 : w2.cell? ⟨Pb, 4, none⟩ = some (.slice ao 0 ci) := cell_blk (hPd.out _ hb2) rfl))
      all_goals
        have hni := hide (nb_step (N2 := w.heap.size) hAB hst1.out hrd.out.1 hrd.out.2.1 hB1 hrd.out.2.2.2 hPB.out hbB1.out hb3 hown6.out hg6.out)
        go_wp2
        refine ⟨hide (.inr (.inr ⟨_, _, hni.out⟩)), ?_⟩
        rw [hni.out.1.leftB, hdec.out.1]
        have := hdec.out.2
        omega
    · obtain ⟨gi2, ci, rfl, hci, hcim⟩ := own_some1 hif
      replace hst := hide hst; replace hif := hide hif; replace hres := hide hres; replace hbB := hide hbB; replace hbel := hide hbel
      clear hrel
      go_wp2_with fail
      refine (block_spb wr Pb R g n cap 48 0 (.slice (some ⟨gi2, 0, none⟩) 1 ci) bufv S [] A hst.out wl tot data pd hpd.out hpm.out htot.out hpl hS2.out).mono ?_
      rintro e w1 ⟨G, cp, rest, rfl, hst1, hG, hcp, hcm, hGo, hu⟩
      obtain ⟨hif1, hres1, hB1, hbel1⟩ := nb_read hst.out hif.out hres.out hbB.out hBr hbel.out hPB hRB hu
      clear hst hif hres hbB hBr hbel hu hS hS1 hS2 hme hna hme2 hna2
      replace hst1 := hide hst1; replace hif1 := hide hif1; replace hres1 := hide hres1; replace hbel1 := hide hbel1; replace hG := hide hG
      have hN1 := hide (fun (w2 : World) (hu : Upd [Pb] w1 w2) => hu.blk hres1.out (by simpa using blkB_ne hres1.out hst1.out.hP (by decide)))
      have hwb := leB4_byte (x := (wl : Int)) (by omega) (by omega)
      have hpk := hide (packet_be w1 Pb R g n cap _ gi2 ci lt sn _ S A hst1.out (own_less hif1.out hAB) G pd cp (spY wl data tot) rest hG.out (by omega) hcm hpl _ _ _ _ (hide rfl) hwb.2.2.2 (hide rfl) hwb.2.2.1 (hide rfl) hwb.2.1 (hide rfl) hwb.1 wl c (hide (leB4_back (by omega) (by omega))) hw1 hs2.out.1 hs2.out.2 (hide (by have := hc.out; omega)))
      have hGN := hide (blkB_ne hG.out hres1.out (by decide))
      have hPN := hide (blkB_ne hst1.out.hP hres1.out (by decide))
      clear hGo hwb hpl hw1 hcp hcm hn48
      go_wp2_with fail
      refine hpk.out.mono ?_
      rintro e w2 ⟨hcase, hP2, hG2, hu2⟩
      have hr2 := hide (hN1.out w2 hu2)
      have r0 : w2.cell? ⟨w.heap.size, 0, none⟩ = some (.int .i64 0) := cell_blk hr2.out rfl
      have r1 : w2.cell? ⟨w.heap.size, 1, none⟩ = some (.int .u16 0) := cell_blk hr2.out rfl
      have r2 : w2.cell? ⟨w.heap.size, 2, none⟩ = some (.slice none 0 0) := cell_blk hr2.out rfl
      have r3 : w2.cell? ⟨w.heap.size, 3, none⟩ = some (.int .u32 0) := cell_blk hr2.out rfl
      have s0 : w2.frozen? ⟨w.heap.size, 0, none⟩ = false := froz_blk hr2.out _
      have s1 : w2.frozen? ⟨w.heap.size, 1, none⟩ = false := froz_blk hr2.out _
      have s2 : w2.frozen? ⟨w.heap.size, 2, none⟩ = false := froz_blk hr2.out _
      have s3 : w2.frozen? ⟨w.heap.size, 3, none⟩ = false := froz_blk hr2.out _
      replace hu2 := hide hu2; replace hP2 := hide hP2; replace hG2 := hide hG2
      rcases hcase with ⟨hcd, rfl⟩ | ⟨hcd, p, rfl⟩
      · replace hcd := hide hcd
        go_wp2
        refine bodyPost_ret (v := .tuple #[.agg #[.int .i64 1, .int .u16 lt, .slice (some ⟨G, 4, none⟩) c (cp - 4), .int .u32 wl], .nilIface]) (by simp [results, Ybaf.results7, go_sem, r0, r1, r2, r3, s0, s1, s2, s3]) rfl (.inr ⟨hcd.out, G, cp, gi2, ci, rfl, ?_, ?_, ?_⟩)
        · exact cell_blk (((nxB_end (B := B) hBw _ _ _ _).1 Pb hPN.out).trans hP2.out) rfl
        · intro j v hj
          exact cell_blk (((nxB_end (B := B) hBw _ _ _ _).1 G hGN.out).trans hG2.out) (ycell rest (spY_data hj))
        · exact (hbel1.out.trans (hu2.out.below hB1 (by simpa using hPB))).trans (nxB_end hBw _ _ _ _).2
      · replace hcd := hide hcd
        go_wp2
        refine bodyPost_ret (v := .tuple #[.agg pk0, .iface 81 p]) (by simp [results, Ybaf.results7, go_sem, r0, r1, r2, r3, s0, s1, s2, s3, pk0]) rfl (.inl ⟨hcd.out, _, rfl, ?_⟩)
        exact (hbel1.out.trans (hu2.out.below hB1 (by simpa using hPB))).trans (nxB_end hBw _ _ _ _).2
end Go.Proofs.YbulkoboFmt
