import Derived.Test.YbulkoboFmtPacketErr
namespace Go.Proofs.YbulkoboFmt
open Go.RowKit
set_option linter.unusedSimpArgs false
set_option linter.unusedVariables false

set_option maxRecDepth 100000 in
set_option maxHeartbeats 1000000 in
theorem packet_be (w : World) (Pb R g n cap i : Nat) (gi ci : Nat) (lt sn : Int) (bufv : Value) (S : List Int) (B : Nat)
    (hst : St w Pb R g n cap i 48 0 (.slice (some ⟨gi, 0, none⟩) 1 ci) bufv S B)
    (hif : w.ownsRow B 52 2 (.slice (some ⟨gi, 0, none⟩) 1 ci) 1 (ifs [(lt, sn)]))
    (G pd cp : Nat) (Y : List Int) (rest : List Value) (hG : w.heap[G]? = some (.cells (bs Y ++ rest).toArray 5 (0, 0))) (hmc : 4 + pd < cp) (hcp : cp ≤ maxLen) (hpd : pd ≤ 2000)
    (y0 y1 y2 y3 : Int)
    (e0 : Hid (Y[0]? = some y0)) (by0 : byte y0) (e1 : Hid (Y[1]? = some y1)) (by1 : byte y1) (e2 : Hid (Y[2]? = some y2)) (by2 : byte y2) (e3 : Hid (Y[3]? = some y3)) (by3 : byte y3)
    (wl c : Nat) (hwl : Hid (le4 y3 y2 y1 y0 = wl)) (hw1 : wl < 100000) (hs0 : 0 ≤ sn) (hs1 : sn < 256)
    (hc : Hid ((sn = 0 ∧ c = wl) ∨ (0 < sn ∧ (sn < wl ∧ (c : Int) = sn)) ∨ (0 < sn ∧ (¬ sn < wl ∧ c = wl)))) :
    Calls Ybaf.prog 14 #[.pointer (some ⟨Pb, 0, none⟩), .int .u32 3, .slice (some ⟨G, 0, none⟩) (4 + pd) cp] w fun e w' => 
      ((c ≤ pd ∧ e = .returned (.tuple #[.agg #[.int .i64 1, .int .u16 lt, .slice (some ⟨G, 4, none⟩) c (cp - 4), .int .u32 wl], .nilIface])) ∨ (pd < c ∧ ∃ p, e = .returned (.tuple #[.agg #[.int .i64 0, .int .u16 0, .slice none 0 0, .int .u32 0], .iface 81 p]))) ∧
      w'.heap[Pb]? = some (.cells (prCells R 48 1 (.slice (some ⟨gi, 0, none⟩) 1 ci) bufv).toArray 40 (0, 0)) ∧ w'.heap[G]? = some (.cells (bs Y ++ rest).toArray 5 (0, 0)) ∧ Upd [Pb] w w' := by
  have hcp' : (cp : Int) ≤ 9223372036854775807 := by unfold maxLen at hcp; omega
  have p3 : w.cell? ⟨Pb, 3, none⟩ = some (.int .i64 0) := cell_blk hst.hP rfl
  have f3 : w.frozen? ⟨Pb, 3, none⟩ = false := froz_blk hst.hP _
  have p1 : w.cell? ⟨Pb, 1, none⟩ = some (.iface 48 (.agg #[])) := cell_blk hst.hP rfl
  have hPl := lt_of_block hst.hP
  have hme := method_beu32
  have hna := nil_beu32
  obtain ⟨m, hm⟩ : ∃ m, m = 4 + pd := ⟨_, rfl⟩
  rw [← hm]
  have m4 : ¬ (m : Int) < 4 := by omega
  have m4' : (4 : Int) ≤ (m : Int) := by omega
  have c4 : ¬ cp = 4 := by omega
  have mc : (m : Int) ≤ (cp : Int) := by omega
  replace hst := hide hst
  replace hif := hide hif
  replace hG := hide hG
  replace hm := hide hm
  go_enter Ybaf.func14, Ybaf.ntmps14
  go_wp2_with fail
  have hW := hide (pk_facts (c := #[.int .i64 0, .int .u16 0, .slice none 0 0, .int .u32 0]) hst.out)
  rw [show (0 : Int) + 1 = 1 by rfl] at hW
  generalize (w.setCell ⟨Pb, 3, none⟩ (.int .i64 1)).alloc (.cells #[.int .i64 0, .int .u16 0, .slice none 0 0, .int .u32 0] 42) = W1 at hW ⊢
  have hG1 : Hid (∀ w', Below W1.heap.size W1 w' → w'.heap[G]? = some (.cells (bs Y ++ rest).toArray 5 (0, 0))) := by
    have h1 := hW.out.2.1.blk hG.out (by simp; rintro rfl; have := hst.out.hP; rw [hG.out] at this; simp at this)
    exact fun w' hb => (hb.block G (lt_of_block h1)).trans h1
  have hP1 : Hid (∀ w', Below W1.heap.size W1 w' → w'.heap[Pb]? = some (.cells (prCells R 48 1 (.slice (some ⟨gi, 0, none⟩) 1 ci) bufv).toArray 40 (0, 0))) := fun w' hb => (hb.block Pb (lt_of_block hW.out.1)).trans hW.out.1
  have hbW : Below W1.heap.size W1 W1 := Below.refl _ _
  clear p3 f3 p1
  have hY : Hid (∀ w', Below W1.heap.size W1 w' → ∀ j v, Y[j]? = some v → w'.cell? ⟨G, j, none⟩ = some (.int .u8 v)) := fun w' hb j v hj => cell_blk (hG1.out _ hb) (ycell rest hj)
  refine (be_u32 G 0 m cp y0 y1 y2 y3 W1 (by omega) by0 by1 by2 by3 (hY.out _ hbW 0 _ e0.out) (hY.out _ hbW 1 _ e1.out) (hY.out _ hbW 2 _ e2.out) (hY.out _ hbW 3 _ e3.out)).mono ?_
  rintro e w4 ⟨rfl, hb4⟩
  rw [hwl.out]
  have hP4 := hide (hP1.out _ hb4)
  have g3 : w4.cell? ⟨Pb, 3, none⟩ = some (.int .i64 1) := cell_blk hP4.out rfl
  have g4 : w4.cell? ⟨Pb, 4, none⟩ = some (.slice (some ⟨gi, 0, none⟩) 1 ci) := cell_blk hP4.out rfl
  have hif4 := hide ((Upd.of_below (ks := []) hb4).own (hW.out.2.1.own hif.out (by intro g' h; cases h; simp; rintro rfl; exact if_ne hst.out hif.out)) (by simp))
  have gl : w4.cell? ⟨gi, 0, none⟩ = some (.int .u16 lt) := by rw [hif4.out.cellAt 0 (by omega)]; rfl
  have gs : w4.cell? ⟨gi, 1, none⟩ = some (.int .u32 sn) := by rw [hif4.out.cellAt 1 (by omega)]; rfl
  have hr4 := hide ((hb4.block w.heap.size (by have := hW.out.2.2.2; omega)).trans hW.out.2.2.1)
  have r0 : w4.cell? ⟨w.heap.size, 0, none⟩ = some (.int .i64 0) := cell_blk hr4.out rfl
  have r1 : w4.cell? ⟨w.heap.size, 1, none⟩ = some (.int .u16 0) := cell_blk hr4.out rfl
  have r2 : w4.cell? ⟨w.heap.size, 2, none⟩ = some (.slice none 0 0) := cell_blk hr4.out rfl
  have r3 : w4.cell? ⟨w.heap.size, 3, none⟩ = some (.int .u32 0) := cell_blk hr4.out rfl
  have s0 : w4.frozen? ⟨w.heap.size, 0, none⟩ = false := froz_blk hr4.out _
  have s1 : w4.frozen? ⟨w.heap.size, 1, none⟩ = false := froz_blk hr4.out _
  have s2 : w4.frozen? ⟨w.heap.size, 2, none⟩ = false := froz_blk hr4.out _
  have s3 : w4.frozen? ⟨w.heap.size, 3, none⟩ = false := froz_blk hr4.out _
  have k2 : (m : Int) ≤ 10000 := by have := hm.out; omega
  have k3 : ((m - 4 : Nat) : Int) = (m : Int) - 4 := by omega
  have hgi : gi < w.heap.size := (hif.out.lt gi rfl).2
  have hNl : w.heap.size < w4.heap.size := lt_of_block hr4.out
  clear hbW hna hme
  by_cases hcd : c ≤ pd
  · have hcd' : ¬ (m : Int) - 4 < (c : Int) := by have := hm.out; omega
    rcases hc.out with ⟨rfl, rfl⟩ | ⟨hs, hlt, rfl⟩ | ⟨hs, hlt, rfl⟩
    · go_wp2_with fail
      have k4 : (c : Int) ≤ (m : Int) - 4 := by omega
      have k5 : (c : Int) ≤ (cp : Int) - 4 := by have := hm.out; omega
      have k6 : (c : Int) ≤ ((cp - 4 : Nat) : Int) := by have := hm.out; omega
      have k7 : (0 : Int) ≤ (c : Int) := by omega
      have hn1 : ¬ gi = w.heap.size := by omega
      have hn2 : ¬ w.heap.size = gi := by omega
      clear hcd'
      go_region_held3 (fun w' => w'.cell? ⟨Pb, 3, none⟩ = some (.int .i64 1) ∧ w'.cell? ⟨Pb, 4, none⟩ = some (.slice (some ⟨gi, 0, none⟩) 1 ci) ∧ w'.cell? ⟨gi, 0, none⟩ = some (.int .u16 lt)) (simp [go_sem, g3, g4, gl, hn1, hn2]) (fail)
      go_wp2
      refine bodyPost_ret (v := .tuple #[.agg #[.int .i64 1, .int .u16 lt, .slice (some ⟨G, 4, none⟩) c (cp - 4), .int .u32 c], .nilIface]) (by simp [results, Ybaf.results14, go_sem, r0, r1, r2, r3, s0, s1, s2, s3]) rfl ⟨.inl (by first | exact ⟨hcd, rfl⟩ | rfl), ?_⟩
      exact pk_end hP4.out (hG1.out _ hb4) hW.out.2.1 hb4 (lt_of_block hst.out.hP) (lt_of_block hG.out) _ _ _ _
    · have hnl : ¬ (wl : Int) < (c : Int) := by omega
      go_wp2_with fail
      have k4 : (c : Int) ≤ (m : Int) - 4 := by omega
      have k5 : (c : Int) ≤ (cp : Int) - 4 := by have := hm.out; omega
      have k6 : (c : Int) ≤ ((cp - 4 : Nat) : Int) := by have := hm.out; omega
      have k7 : (0 : Int) ≤ (c : Int) := by omega
      have hn1 : ¬ gi = w.heap.size := by omega
      have hn2 : ¬ w.heap.size = gi := by omega
      clear hcd'
      go_region_held3 (fun w' => w'.cell? ⟨Pb, 3, none⟩ = some (.int .i64 1) ∧ w'.cell? ⟨Pb, 4, none⟩ = some (.slice (some ⟨gi, 0, none⟩) 1 ci) ∧ w'.cell? ⟨gi, 0, none⟩ = some (.int .u16 lt)) (simp [go_sem, g3, g4, gl, hn1, hn2]) (fail)
      go_wp2
      refine bodyPost_ret (v := .tuple #[.agg #[.int .i64 1, .int .u16 lt, .slice (some ⟨G, 4, none⟩) c (cp - 4), .int .u32 wl], .nilIface]) (by simp [results, Ybaf.results14, go_sem, r0, r1, r2, r3, s0, s1, s2, s3]) rfl ⟨.inl (by first | exact ⟨hcd, rfl⟩ | rfl), ?_⟩
      exact pk_end hP4.out (hG1.out _ hb4) hW.out.2.1 hb4 (lt_of_block hst.out.hP) (lt_of_block hG.out) _ _ _ _
    · go_wp2_with fail
      have k4 : (c : Int) ≤ (m : Int) - 4 := by omega
      have k5 : (c : Int) ≤ (cp : Int) - 4 := by have := hm.out; omega
      have k6 : (c : Int) ≤ ((cp - 4 : Nat) : Int) := by have := hm.out; omega
      have k7 : (0 : Int) ≤ (c : Int) := by omega
      have hn1 : ¬ gi = w.heap.size := by omega
      have hn2 : ¬ w.heap.size = gi := by omega
      clear hcd'
      go_region_held3 (fun w' => w'.cell? ⟨Pb, 3, none⟩ = some (.int .i64 1) ∧ w'.cell? ⟨Pb, 4, none⟩ = some (.slice (some ⟨gi, 0, none⟩) 1 ci) ∧ w'.cell? ⟨gi, 0, none⟩ = some (.int .u16 lt)) (simp [go_sem, g3, g4, gl, hn1, hn2]) (fail)
      go_wp2
      refine bodyPost_ret (v := .tuple #[.agg #[.int .i64 1, .int .u16 lt, .slice (some ⟨G, 4, none⟩) c (cp - 4), .int .u32 c], .nilIface]) (by simp [results, Ybaf.results14, go_sem, r0, r1, r2, r3, s0, s1, s2, s3]) rfl ⟨.inl (by first | exact ⟨hcd, rfl⟩ | rfl), ?_⟩
      exact pk_end hP4.out (hG1.out _ hb4) hW.out.2.1 hb4 (lt_of_block hst.out.hP) (lt_of_block hG.out) _ _ _ _
  · have hcd' : (m : Int) - 4 < (c : Int) := by have := hm.out; omega
    rcases hc.out with ⟨rfl, rfl⟩ | ⟨hs, hlt, rfl⟩ | ⟨hs, hlt, rfl⟩
    · go_wp2_with fail
      have hz := hide (fun (o : Obj) (w5 : World) (hb : Below (w4.alloc o).heap.size (w4.alloc o) w5) => ((hb.block w.heap.size (by simp; omega)).trans (Below.heap_alloc w4 o _ hNl)).trans hr4.out)
      have hx := hide (fun (o : Obj) (w5 : World) (hb : Below (w4.alloc o).heap.size (w4.alloc o) w5) => bnext (((Below.refl _ w4).alloc (Nat.le_refl _) o)) hb)
      refine (errorf_any fmtB fmtB_printed w4.heap.size 1 c ((m : Int) + 12) _ (by simp [go_sem]) (by simp [go_sem]) (by simp [go_sem])).mono ?_
      rintro e w5 ⟨rfl, hb5⟩
      have hz5 := hide (hz.out _ _ hb5); have hx5 := hide (hx.out _ _ hb5)
      clear hb5 r0 r1 r2 r3 s0 s1 s2 s3
      have r0 : w5.cell? ⟨w.heap.size, 0, none⟩ = some (.int .i64 0) := cell_blk hz5.out rfl
      have r1 : w5.cell? ⟨w.heap.size, 1, none⟩ = some (.int .u16 0) := cell_blk hz5.out rfl
      have r2 : w5.cell? ⟨w.heap.size, 2, none⟩ = some (.slice none 0 0) := cell_blk hz5.out rfl
      have r3 : w5.cell? ⟨w.heap.size, 3, none⟩ = some (.int .u32 0) := cell_blk hz5.out rfl
      have s0 : w5.frozen? ⟨w.heap.size, 0, none⟩ = false := froz_blk hz5.out _
      have s1 : w5.frozen? ⟨w.heap.size, 1, none⟩ = false := froz_blk hz5.out _
      have s2 : w5.frozen? ⟨w.heap.size, 2, none⟩ = false := froz_blk hz5.out _
      have s3 : w5.frozen? ⟨w.heap.size, 3, none⟩ = false := froz_blk hz5.out _
      go_wp2
      refine bodyPost_ret (v := .tuple #[.agg #[.int .i64 0, .int .u16 0, .slice none 0 0, .int .u32 0], .iface 81 (.pointer (some ⟨w4.heap.size + 1, 0, none⟩))]) (by simp [results, Ybaf.results14, go_sem, r0, r1, r2, r3, s0, s1, s2, s3]) rfl ⟨.inr (by first | exact ⟨by omega, _, rfl⟩ | exact ⟨_, rfl⟩), ?_⟩
      have hP5 := (hx5.out.block Pb (lt_of_block hP4.out)).trans hP4.out
      have hG5 := (hx5.out.block G (lt_of_block (hG1.out _ hb4))).trans (hG1.out _ hb4)
      have hpk := pk_end hP5 hG5 hW.out.2.1 (bnext hb4 hx5.out) (lt_of_block hst.out.hP) (lt_of_block hG.out) (.int .i64 0) (.int .u16 0) (.slice none 0 0) (.int .u32 0)
      exact ⟨hpk.1, hpk.2.1, Upd.undrew hpk.2.2⟩
    · go_wp2_with fail
      have hz := hide (fun (o : Obj) (w5 : World) (hb : Below (w4.alloc o).heap.size (w4.alloc o) w5) => ((hb.block w.heap.size (by simp; omega)).trans (Below.heap_alloc w4 o _ hNl)).trans hr4.out)
      have hx := hide (fun (o : Obj) (w5 : World) (hb : Below (w4.alloc o).heap.size (w4.alloc o) w5) => bnext (((Below.refl _ w4).alloc (Nat.le_refl _) o)) hb)
      refine (errorf_any fmtB fmtB_printed w4.heap.size 1 c ((m : Int) + 12) _ (by simp [go_sem]) (by simp [go_sem]) (by simp [go_sem])).mono ?_
      rintro e w5 ⟨rfl, hb5⟩
      have hz5 := hide (hz.out _ _ hb5); have hx5 := hide (hx.out _ _ hb5)
      clear hb5 r0 r1 r2 r3 s0 s1 s2 s3
      have r0 : w5.cell? ⟨w.heap.size, 0, none⟩ = some (.int .i64 0) := cell_blk hz5.out rfl
      have r1 : w5.cell? ⟨w.heap.size, 1, none⟩ = some (.int .u16 0) := cell_blk hz5.out rfl
      have r2 : w5.cell? ⟨w.heap.size, 2, none⟩ = some (.slice none 0 0) := cell_blk hz5.out rfl
      have r3 : w5.cell? ⟨w.heap.size, 3, none⟩ = some (.int .u32 0) := cell_blk hz5.out rfl
      have s0 : w5.frozen? ⟨w.heap.size, 0, none⟩ = false := froz_blk hz5.out _
      have s1 : w5.frozen? ⟨w.heap.size, 1, none⟩ = false := froz_blk hz5.out _
      have s2 : w5.frozen? ⟨w.heap.size, 2, none⟩ = false := froz_blk hz5.out _
      have s3 : w5.frozen? ⟨w.heap.size, 3, none⟩ = false := froz_blk hz5.out _
      go_wp2
      refine bodyPost_ret (v := .tuple #[.agg #[.int .i64 0, .int .u16 0, .slice none 0 0, .int .u32 0], .iface 81 (.pointer (some ⟨w4.heap.size + 1, 0, none⟩))]) (by simp [results, Ybaf.results14, go_sem, r0, r1, r2, r3, s0, s1, s2, s3]) rfl ⟨.inr (by first | exact ⟨by omega, _, rfl⟩ | exact ⟨_, rfl⟩), ?_⟩
      have hP5 := (hx5.out.block Pb (lt_of_block hP4.out)).trans hP4.out
      have hG5 := (hx5.out.block G (lt_of_block (hG1.out _ hb4))).trans (hG1.out _ hb4)
      have hpk := pk_end hP5 hG5 hW.out.2.1 (bnext hb4 hx5.out) (lt_of_block hst.out.hP) (lt_of_block hG.out) (.int .i64 0) (.int .u16 0) (.slice none 0 0) (.int .u32 0)
      exact ⟨hpk.1, hpk.2.1, Upd.undrew hpk.2.2⟩
    · go_wp2_with fail
      have hz := hide (fun (o : Obj) (w5 : World) (hb : Below (w4.alloc o).heap.size (w4.alloc o) w5) => ((hb.block w.heap.size (by simp; omega)).trans (Below.heap_alloc w4 o _ hNl)).trans hr4.out)
      have hx := hide (fun (o : Obj) (w5 : World) (hb : Below (w4.alloc o).heap.size (w4.alloc o) w5) => bnext (((Below.refl _ w4).alloc (Nat.le_refl _) o)) hb)
      refine (errorf_any fmtB fmtB_printed w4.heap.size 1 c ((m : Int) + 12) _ (by simp [go_sem]) (by simp [go_sem]) (by simp [go_sem])).mono ?_
      rintro e w5 ⟨rfl, hb5⟩
      have hz5 := hide (hz.out _ _ hb5); have hx5 := hide (hx.out _ _ hb5)
      clear hb5 r0 r1 r2 r3 s0 s1 s2 s3
      have r0 : w5.cell? ⟨w.heap.size, 0, none⟩ = some (.int .i64 0) := cell_blk hz5.out rfl
      have r1 : w5.cell? ⟨w.heap.size, 1, none⟩ = some (.int .u16 0) := cell_blk hz5.out rfl
      have r2 : w5.cell? ⟨w.heap.size, 2, none⟩ = some (.slice none 0 0) := cell_blk hz5.out rfl
      have r3 : w5.cell? ⟨w.heap.size, 3, none⟩ = some (.int .u32 0) := cell_blk hz5.out rfl
      have s0 : w5.frozen? ⟨w.heap.size, 0, none⟩ = false := froz_blk hz5.out _
      have s1 : w5.frozen? ⟨w.heap.size, 1, none⟩ = false := froz_blk hz5.out _
      have s2 : w5.frozen? ⟨w.heap.size, 2, none⟩ = false := froz_blk hz5.out _
      have s3 : w5.frozen? ⟨w.heap.size, 3, none⟩ = false := froz_blk hz5.out _
      go_wp2
      refine bodyPost_ret (v := .tuple #[.agg #[.int .i64 0, .int .u16 0, .slice none 0 0, .int .u32 0], .iface 81 (.pointer (some ⟨w4.heap.size + 1, 0, none⟩))]) (by simp [results, Ybaf.results14, go_sem, r0, r1, r2, r3, s0, s1, s2, s3]) rfl ⟨.inr (by first | exact ⟨by omega, _, rfl⟩ | exact ⟨_, rfl⟩), ?_⟩
      have hP5 := (hx5.out.block Pb (lt_of_block hP4.out)).trans hP4.out
      have hG5 := (hx5.out.block G (lt_of_block (hG1.out _ hb4))).trans (hG1.out _ hb4)
      have hpk := pk_end hP5 hG5 hW.out.2.1 (bnext hb4 hx5.out) (lt_of_block hst.out.hP) (lt_of_block hG.out) (.int .i64 0) (.int .u16 0) (.slice none 0 0) (.int .u32 0)
      exact ⟨hpk.1, hpk.2.1, Upd.undrew hpk.2.2⟩
end Go.Proofs.YbulkoboFmt
