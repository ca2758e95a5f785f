import Derived.Test.YbulkoboFmtErr
namespace Go.Proofs.YbulkoboFmt
open Go.RowKit
set_option linter.unusedSimpArgs false
set_option linter.unusedVariables false

theorem Upd.undrew {ks : List Nat} {w W : World} (h : Upd ks w W.drew) : Upd ks w W := ⟨h.os, h.tape, h.output, h.size, h.block⟩

set_option maxRecDepth 100000 in
set_option maxHeartbeats 1000000 in
theorem packet_le_err (w : World) (Pb R g n cap i : Nat) (cnt : Nat) (bufv : Value) (S : List Int) (B : Nat)
    (hst : St w Pb R g n cap i 26 cnt (.slice none 0 0) bufv S B) (hcnt : cnt ≤ 1000000)
    (G m cp : Nat) (Y : List Int) (rest : List Value) (hG : w.heap[G]? = some (.cells (bs Y ++ rest).toArray 5 (0, 0))) (hm : 20 ≤ m) (hmc : m < cp) (hcp : cp ≤ maxLen)
    (y0 y1 y2 y3 y12 y13 y14 y15 y16 y17 y18 y19 : Int)
    (e0 : Hid (Y[0]? = some y0)) (by0 : byte y0) (e1 : Hid (Y[1]? = some y1)) (by1 : byte y1) (e2 : Hid (Y[2]? = some y2)) (by2 : byte y2) (e3 : Hid (Y[3]? = some y3)) (by3 : byte y3) (e12 : Hid (Y[12]? = some y12)) (by12 : byte y12) (e13 : Hid (Y[13]? = some y13)) (by13 : byte y13) (e14 : Hid (Y[14]? = some y14)) (by14 : byte y14) (e15 : Hid (Y[15]? = some y15)) (by15 : byte y15) (e16 : Hid (Y[16]? = some y16)) (by16 : byte y16) (e17 : Hid (Y[17]? = some y17)) (by17 : byte y17) (e18 : Hid (Y[18]? = some y18)) (by18 : byte y18) (e19 : Hid (Y[19]? = some y19)) (by19 : byte y19)
    (hid : Hid (le4 y0 y1 y2 y3 = 0)) :
    Calls Ybaf.prog 14 #[.pointer (some ⟨Pb, 0, none⟩), .int .u32 6, .slice (some ⟨G, 0, none⟩) m cp] w fun e w' => ∃ p, e = .returned (.tuple #[.agg #[.int .i64 0, .int .u16 0, .slice none 0 0, .int .u32 0], .iface 81 p]) ∧ Upd [Pb] w w' := by
  have hcp' : (cp : Int) ≤ 9223372036854775807 := by unfold maxLen at hcp; omega
  have hcnt' : (cnt : Int) ≤ 1000000 := by omega
  have p3 : w.cell? ⟨Pb, 3, none⟩ = some (.int .i64 cnt) := cell_blk hst.hP rfl
  have f3 : w.frozen? ⟨Pb, 3, none⟩ = false := froz_blk hst.hP _
  have p1 : w.cell? ⟨Pb, 1, none⟩ = some (.iface 26 (.agg #[])) := cell_blk hst.hP rfl
  have p4 : w.cell? ⟨Pb, 4, none⟩ = some (.slice none 0 0) := cell_blk hst.hP rfl
  have hPl := lt_of_block hst.hP
  have m20 : ¬ (m : Int) < 20 := by omega
  have m12 : (12 : Int) ≤ (m : Int) := by omega
  have m16 : (16 : Int) ≤ (m : Int) := by omega
  have c20 : ¬ cp = 20 := by omega
  have c12 : ¬ cp = 12 := by omega
  have c16 : ¬ cp = 16 := by omega
  have mc : (m : Int) ≤ (cp : Int) := by omega
  replace hst := hide hst
  replace hG := hide hG
  go_enter Ybaf.func14, Ybaf.ntmps14
  go_wp2_with fail
  have hW := hide (pk_facts (c := #[.int .i64 0, .int .u16 0, .slice none 0 0, .int .u32 0]) hst.out)
  generalize (w.setCell ⟨Pb, 3, none⟩ (.int .i64 ((cnt : Int) + 1))).alloc (.cells #[.int .i64 0, .int .u16 0, .slice none 0 0, .int .u32 0] 42) = W1 at hW ⊢
  have hG1 : Hid (∀ w', Below W1.heap.size W1 w' → w'.heap[G]? = some (.cells (bs Y ++ rest).toArray 5 (0, 0))) := by
    have h1 := hW.out.2.1.blk hG.out (by simp; rintro rfl; have := hst.out.hP; rw [hG.out] at this; simp at this)
    exact fun w' hb => (hb.block G (lt_of_block h1)).trans h1
  have hP1 : Hid (∀ w', Below W1.heap.size W1 w' → w'.heap[Pb]? = some (.cells (prCells R 26 ((cnt : Int) + 1) (.slice none 0 0) bufv).toArray 40 (0, 0))) := fun w' hb => (hb.block Pb (lt_of_block hW.out.1)).trans hW.out.1
  have hbW : Below W1.heap.size W1 W1 := Below.refl _ _
  clear p3 f3 p1 p4
  have hme := method_leu32
  have hna := nil_leu32
  have hY : Hid (∀ w', Below W1.heap.size W1 w' → ∀ j v, Y[j]? = some v → w'.cell? ⟨G, j, none⟩ = some (.int .u8 v)) := fun w' hb j v hj => cell_blk (hG1.out _ hb) (ycell rest hj)
  have hbWd : Below W1.heap.size W1 W1.drew := hbW.drew
  have keepS := hide (fun w' (hb : Below W1.heap.size W1 w') => (⟨hb, cell_blk (hP1.out _ hb) rfl⟩ : Below W1.heap.size W1 w' ∧ w'.cell? ⟨Pb, 1, none⟩ = some (.iface 26 (.agg #[]))))
  go_region_held3 (fun w' => Below W1.heap.size W1 w' ∧ w'.cell? ⟨Pb, 1, none⟩ = some (.iface 26 (.agg #[]))) (exact keepS.out _ (by assumption))
    (first
      | (go_at_call 21; refine (le_u32 G 16 (m - 16) (cp - 16) y16 y17 y18 y19 w3 (by omega) by16 by17 by18 by19 (hY.out _ hb3 16 _ e16.out) (hY.out _ hb3 17 _ e17.out) (hY.out _ hb3 18 _ e18.out) (hY.out _ hb3 19 _ e19.out)).mono ?_; rintro e w4 ⟨rfl, hb4⟩; replace hb4 := bnext hb3 hb4)
      | (go_at_call 21; refine (le_u32 G 12 (m - 12) (cp - 12) y12 y13 y14 y15 w2 (by omega) by12 by13 by14 by15 (hY.out _ hb2 12 _ e12.out) (hY.out _ hb2 13 _ e13.out) (hY.out _ hb2 14 _ e14.out) (hY.out _ hb2 15 _ e15.out)).mono ?_; rintro e w3 ⟨rfl, hb3⟩; replace hb3 := bnext hb2 hb3)
      | (go_at_call 21; refine (le_u32 G 0 m cp y0 y1 y2 y3 W1.drew (by omega) by0 by1 by2 by3 (hY.out _ hbWd 0 _ e0.out) (hY.out _ hbWd 1 _ e1.out) (hY.out _ hbWd 2 _ e2.out) (hY.out _ hbWd 3 _ e3.out)).mono ?_; rintro e w2 ⟨rfl, hb2⟩; replace hb2 := bnext hbWd hb2))
  rw [hid.out]
  have hP4 := hide (hP1.out _ hb4)
  have g3 : w4.cell? ⟨Pb, 3, none⟩ = some (.int .i64 ((cnt : Int) + 1)) := cell_blk hP4.out rfl
  have g4 : w4.cell? ⟨Pb, 4, none⟩ = some (.slice none 0 0) := cell_blk hP4.out rfl
  have hr4 := hide ((hb4.block w.heap.size (by have := hW.out.2.2.2; omega)).trans hW.out.2.2.1)
  have hNl : w.heap.size < w4.heap.size := lt_of_block hr4.out
  have r0 : w4.cell? ⟨w.heap.size, 0, none⟩ = some (.int .i64 0) := cell_blk hr4.out rfl
  have r1 : w4.cell? ⟨w.heap.size, 1, none⟩ = some (.int .u16 0) := cell_blk hr4.out rfl
  have r2 : w4.cell? ⟨w.heap.size, 2, none⟩ = some (.slice none 0 0) := cell_blk hr4.out rfl
  have r3 : w4.cell? ⟨w.heap.size, 3, none⟩ = some (.int .u32 0) := cell_blk hr4.out rfl
  have s0 : w4.frozen? ⟨w.heap.size, 0, none⟩ = false := froz_blk hr4.out _
  have s1 : w4.frozen? ⟨w.heap.size, 1, none⟩ = false := froz_blk hr4.out _
  have s2 : w4.frozen? ⟨w.heap.size, 2, none⟩ = false := froz_blk hr4.out _
  have s3 : w4.frozen? ⟨w.heap.size, 3, none⟩ = false := froz_blk hr4.out _
  clear hbW hbWd hb2 hb3 hna hme
  go_wp2_with fail
  have hz := hide (fun (o : Obj) (w5 : World) (hb : Below (w4.alloc o).drew.heap.size (w4.alloc o).drew w5) => ((hb.block w.heap.size (by simp [World.drew]; omega)).trans (Below.heap_alloc w4 o _ hNl)).trans hr4.out)
  have hx := hide (fun (o : Obj) (w5 : World) (hb : Below (w4.alloc o).drew.heap.size (w4.alloc o).drew w5) => bnext (((Below.refl _ w4).alloc (Nat.le_refl _) o).drew) hb)
  go_region_with (go_at_call 13; refine (errorf_any fmtA fmtA_printed w4.heap.size ((cnt : Int) + 1) 0 0 _ (by simp [go_sem]) (by simp [go_sem]) (by simp [go_sem])).mono ?_; rintro e w5 ⟨rfl, hb5⟩; have hz5 := hide (hz.out _ _ hb5); have hx5 := hide (hx.out _ _ hb5); clear hb5 r0 r1 r2 r3 s0 s1 s2 s3; have r0 : w5.cell? ⟨w.heap.size, 0, none⟩ = some (.int .i64 0) := cell_blk hz5.out rfl; have r1 : w5.cell? ⟨w.heap.size, 1, none⟩ = some (.int .u16 0) := cell_blk hz5.out rfl; have r2 : w5.cell? ⟨w.heap.size, 2, none⟩ = some (.slice none 0 0) := cell_blk hz5.out rfl; have r3 : w5.cell? ⟨w.heap.size, 3, none⟩ = some (.int .u32 0) := cell_blk hz5.out rfl; have s0 : w5.frozen? ⟨w.heap.size, 0, none⟩ = false := froz_blk hz5.out _; have s1 : w5.frozen? ⟨w.heap.size, 1, none⟩ = false := froz_blk hz5.out _; have s2 : w5.frozen? ⟨w.heap.size, 2, none⟩ = false := froz_blk hz5.out _; have s3 : w5.frozen? ⟨w.heap.size, 3, none⟩ = false := froz_blk hz5.out _)
  all_goals
    go_wp2
    refine bodyPost_ret (v := .tuple #[.agg #[.int .i64 0, .int .u16 0, .slice none 0 0, .int .u32 0], .iface 81 (.pointer (some ⟨w4.heap.size + 1, 0, none⟩))]) (by simp [results, Ybaf.results14, go_sem, r0, r1, r2, r3, s0, s1, s2, s3]) rfl ⟨_, rfl, ?_⟩
    have hP5 := (hx5.out.block Pb (lt_of_block hP4.out)).trans hP4.out
    exact Upd.undrew (pk_end hP5 hP5 hW.out.2.1 (bnext hb4 hx5.out) (lt_of_block hst.out.hP) (lt_of_block hst.out.hP) _ _ _ _).2.2
end Go.Proofs.YbulkoboFmt
