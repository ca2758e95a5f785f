import Derived.Test.YbulkoboFmtBlock
namespace Go.Proofs.YbulkoboFmt
open Go.RowKit
set_option linter.unusedSimpArgs false
set_option linter.unusedVariables false

/-- The interfaces as cells: a link type and a snap length each. -/
def ifs (l : List (Int × Int)) : List Value := l.flatMap fun p => [.int .u16 p.1, .int .u32 p.2]

theorem ycell {Y : List Int} (rest : List Value) {j : Nat} {v : Int} (h : Y[j]? = some v) : (bs Y ++ rest).toArray[j]? = some (.int .u8 v) := by
  have hj := (List.getElem?_eq_some_iff.1 h).1
  rw [List.getElem?_toArray, List.getElem?_append_left (by rw [bs_length]; exact hj)]
  simp [bs, h]
theorem if_ne {w : World} {Pb R g n cap i : Nat} {T : TypeId} {cnt : Int} {ifv bufv : Value} {S : List Int} {B ni ci : Nat} {xs : List Value} (h : St w Pb R g n cap i T cnt ifv bufv S B) (hif : w.ownsRow B 52 2 (.slice (some ⟨Pb, 0, none⟩) ni ci) ni xs) : False := by
  rcases hif.2 with ⟨h', _⟩ | ⟨g', cap', cur, h', _, hh, _⟩
  · cases h'
  · simp only [Value.slice.injEq, Option.some.injEq, Addr.mk.injEq] at h'
    obtain ⟨⟨rfl, _⟩, _⟩ := h'
    have := h.hP; rw [hh] at this; simp at this
theorem pk_end {w W1 w4 : World} {Pb G : Nat} {oP oG : Obj} (hP : w4.heap[Pb]? = some oP) (hG : w4.heap[G]? = some oG) (hu : Upd [Pb] w W1) (hb : Below W1.heap.size W1 w4) (hPl : Pb < w.heap.size) (hGl : G < w.heap.size) (v0 v1 v2 v3 : Value) :
    ((((w4.setCell ⟨w.heap.size, 0, none⟩ v0).setCell ⟨w.heap.size, 1, none⟩ v1).setCell ⟨w.heap.size, 2, none⟩ v2).setCell ⟨w.heap.size, 3, none⟩ v3).drew.heap[Pb]? = some oP ∧
    ((((w4.setCell ⟨w.heap.size, 0, none⟩ v0).setCell ⟨w.heap.size, 1, none⟩ v1).setCell ⟨w.heap.size, 2, none⟩ v2).setCell ⟨w.heap.size, 3, none⟩ v3).drew.heap[G]? = some oG ∧
    Upd [Pb] w ((((w4.setCell ⟨w.heap.size, 0, none⟩ v0).setCell ⟨w.heap.size, 1, none⟩ v1).setCell ⟨w.heap.size, 2, none⟩ v2).setCell ⟨w.heap.size, 3, none⟩ v3).drew := by
  have key : ∀ k, k < w.heap.size → ((((w4.setCell ⟨w.heap.size, 0, none⟩ v0).setCell ⟨w.heap.size, 1, none⟩ v1).setCell ⟨w.heap.size, 2, none⟩ v2).setCell ⟨w.heap.size, 3, none⟩ v3).drew.heap[k]? = w4.heap[k]? := fun k hk => by
    show ((((w4.setCell ⟨w.heap.size, 0, none⟩ v0).setCell ⟨w.heap.size, 1, none⟩ v1).setCell ⟨w.heap.size, 2, none⟩ v2).setCell ⟨w.heap.size, 3, none⟩ v3).heap[k]? = _
    rw [set_blk_ne (by omega), set_blk_ne (by omega), set_blk_ne (by omega), set_blk_ne (by omega)]
  refine ⟨(key _ hPl).trans hP, (key _ hGl).trans hG, ?_⟩
  have h4 := hu.trans (Upd.of_below hb)
  exact ⟨h4.os, h4.tape, h4.output, by have := h4.size; simpa [World.setCell, World.drew] using this, fun k hk hn => (key k hk).trans (h4.block k hk hn)⟩
theorem pk_facts {w : World} {Pb R g n cap i : Nat} {T : TypeId} {cnt : Int} {ifv bufv : Value} {S : List Int} {B : Nat} {c : Array Value} (h : St w Pb R g n cap i T cnt ifv bufv S B) :
    ((w.setCell ⟨Pb, 3, none⟩ (.int .i64 (cnt + 1))).alloc (.cells c 42)).heap[Pb]? = some (.cells (prCells R T (cnt + 1) ifv bufv).toArray 40 (0, 0)) ∧ Upd [Pb] w ((w.setCell ⟨Pb, 3, none⟩ (.int .i64 (cnt + 1))).alloc (.cells c 42)) ∧
    ((w.setCell ⟨Pb, 3, none⟩ (.int .i64 (cnt + 1))).alloc (.cells c 42)).heap[w.heap.size]? = some (.cells c 42 (0, 0)) ∧ ((w.setCell ⟨Pb, 3, none⟩ (.int .i64 (cnt + 1))).alloc (.cells c 42)).heap.size = w.heap.size + 1 := by
  have hs : (w.setCell ⟨Pb, 3, none⟩ (.int .i64 (cnt + 1))).heap.size = w.heap.size := by simp [World.setCell]
  refine ⟨?_, ((Upd.refl _ w).setCell (p := ⟨Pb, 3, none⟩) (by simp) _).alloc _, ?_, by simp [World.setCell]⟩
  · rw [Below.heap_alloc _ _ _ (by rw [hs]; exact lt_of_block h.hP)]
    have := set_blk h.hP 3 (.int .i64 (cnt + 1))
    rw [this]; simp [prCells]
  · have := heap_alloc_new (w.setCell ⟨Pb, 3, none⟩ (.int .i64 (cnt + 1))) (.cells c 42)
    rwa [hs] at this

set_option maxRecDepth 100000 in
set_option maxHeartbeats 1000000 in
theorem packet_le (w : World) (Pb R g n cap i : Nat) (cnt : Nat) (gi ni ci : Nat) (I : List (Int × Int)) (bufv : Value) (S : List Int) (B : Nat)
    (hst : St w Pb R g n cap i 26 cnt (.slice (some ⟨gi, 0, none⟩) ni ci) bufv S B) (hcnt : cnt ≤ 1000000)
    (hif : w.ownsRow B 52 2 (.slice (some ⟨gi, 0, none⟩) ni ci) ni (ifs I))
    (G m cp : Nat) (Y : List Int) (rest : List Value) (hG : w.heap[G]? = some (.cells (bs Y ++ rest).toArray 5 (0, 0))) (hm : 20 ≤ m) (hmc : m < cp) (hcp : cp ≤ maxLen)
    (y0 y1 y2 y3 y12 y13 y14 y15 y16 y17 y18 y19 : Int)
    (e0 : Hid (Y[0]? = some y0)) (by0 : byte y0) (e1 : Hid (Y[1]? = some y1)) (by1 : byte y1) (e2 : Hid (Y[2]? = some y2)) (by2 : byte y2) (e3 : Hid (Y[3]? = some y3)) (by3 : byte y3) (e12 : Hid (Y[12]? = some y12)) (by12 : byte y12) (e13 : Hid (Y[13]? = some y13)) (by13 : byte y13) (e14 : Hid (Y[14]? = some y14)) (by14 : byte y14) (e15 : Hid (Y[15]? = some y15)) (by15 : byte y15) (e16 : Hid (Y[16]? = some y16)) (by16 : byte y16) (e17 : Hid (Y[17]? = some y17)) (by17 : byte y17) (e18 : Hid (Y[18]? = some y18)) (by18 : byte y18) (e19 : Hid (Y[19]? = some y19)) (by19 : byte y19)
    (id k : Nat) (wl : Int) (hid : Hid (le4 y0 y1 y2 y3 = id)) (hkl : Hid (le4 y12 y13 y14 y15 = k)) (hwl : Hid (le4 y16 y17 y18 y19 = wl)) (hidn : id < ni) (hni : ni ≤ 1000000) (hk : k ≤ m - 20) (hm6 : m ≤ 1000000) (hw0 : 0 ≤ wl) (hw1 : wl < 4294967296)
    (mx : Int) (hmx : Hid ((wl < (k : Int) ∧ mx = k) ∨ (¬ wl < (k : Int) ∧ mx = wl))) (lt : Int) (hlt : Hid ((ifs I)[id * 2]? = some (.int .u16 lt))) :
    Calls Ybaf.prog 14 #[.pointer (some ⟨Pb, 0, none⟩), .int .u32 6, .slice (some ⟨G, 0, none⟩) m cp] w fun e w' => e = .returned (.tuple #[.agg #[.int .i64 ((cnt : Int) + 1), .int .u16 lt, .slice (some ⟨G, 20, none⟩) k (cp - 20), .int .u32 mx], .nilIface]) ∧
      w'.heap[Pb]? = some (.cells (prCells R 26 ((cnt : Int) + 1) (.slice (some ⟨gi, 0, none⟩) ni ci) bufv).toArray 40 (0, 0)) ∧ w'.heap[G]? = some (.cells (bs Y ++ rest).toArray 5 (0, 0)) ∧ Upd [Pb] w w' := by
  have hcp' : (cp : Int) ≤ 9223372036854775807 := by unfold maxLen at hcp; omega
  have hcnt' : (cnt : Int) ≤ 1000000 := by omega
  have p3 : w.cell? ⟨Pb, 3, none⟩ = some (.int .i64 cnt) := cell_blk hst.hP rfl
  have f3 : w.frozen? ⟨Pb, 3, none⟩ = false := froz_blk hst.hP _
  have p1 : w.cell? ⟨Pb, 1, none⟩ = some (.iface 26 (.agg #[])) := cell_blk hst.hP rfl
  have p4 : w.cell? ⟨Pb, 4, none⟩ = some (.slice (some ⟨gi, 0, none⟩) ni ci) := cell_blk hst.hP rfl
  have hPl := lt_of_block hst.hP
  have m20 : ¬ (m : Int) < 20 := by omega
  have m12 : (12 : Int) ≤ (m : Int) := by omega
  have m16 : (16 : Int) ≤ (m : Int) := by omega
  have c20 : ¬ cp = 20 := by omega
  have c12 : ¬ cp = 12 := by omega
  have c16 : ¬ cp = 16 := by omega
  have mc : (m : Int) ≤ (cp : Int) := by omega
  replace hst := hide hst
  replace hif := hide hif
  replace hG := hide hG
  go_enter Ybaf.func14, Ybaf.ntmps14
  go_wp2_with fail
  have hW := hide (pk_facts (c := #[.int .i64 0, .int .u16 0, .slice none 0 0, .int .u32 0]) hst.out)
  generalize (w.setCell ⟨Pb, 3, none⟩ (.int .i64 ((cnt : Int) + 1))).alloc (.cells #[.int .i64 0, .int .u16 0, .slice none 0 0, .int .u32 0] 42) = W1 at hW ⊢
  have hG1 : Hid (∀ w', Below W1.heap.size W1 w' → w'.heap[G]? = some (.cells (bs Y ++ rest).toArray 5 (0, 0))) := by
    have h1 := hW.out.2.1.blk hG.out (by simp; rintro rfl; have := hst.out.hP; rw [hG.out] at this; simp at this)
    exact fun w' hb => (hb.block G (lt_of_block h1)).trans h1
  have hP1 : Hid (∀ w', Below W1.heap.size W1 w' → w'.heap[Pb]? = some (.cells (prCells R 26 ((cnt : Int) + 1) (.slice (some ⟨gi, 0, none⟩) ni ci) bufv).toArray 40 (0, 0))) := fun w' hb => (hb.block Pb (lt_of_block hW.out.1)).trans hW.out.1
  have hbW : Below W1.heap.size W1 W1 := Below.refl _ _
  clear p3 f3 p1 p4
  have hme := method_leu32
  have hna := nil_leu32
  have hY : Hid (∀ w', Below W1.heap.size W1 w' → ∀ j v, Y[j]? = some v → w'.cell? ⟨G, j, none⟩ = some (.int .u8 v)) := fun w' hb j v hj => cell_blk (hG1.out _ hb) (ycell rest hj)
  have hbWd : Below W1.heap.size W1 W1.drew := hbW.drew
  have keepS := hide (fun w' (hb : Below W1.heap.size W1 w') => (⟨hb, cell_blk (hP1.out _ hb) rfl⟩ : Below W1.heap.size W1 w' ∧ w'.cell? ⟨Pb, 1, none⟩ = some (.iface 26 (.agg #[]))))
  go_region_held3 (fun w' => Below W1.heap.size W1 w' ∧ w'.cell? ⟨Pb, 1, none⟩ = some (.iface 26 (.agg #[]))) (exact keepS.out _ (by assumption))
    (first
      | (go_at_call 21; refine (le_u32 G 16 (m - 16) (cp - 16) y16 y17 y18 y19 w3 (by omega) by16 by17 by18 by19 (hY.out _ hb3 16 _ e16.out) (hY.out _ hb3 17 _ e17.out) (hY.out _ hb3 18 _ e18.out) (hY.out _ hb3 19 _ e19.out)).mono ?_; rintro e w4 ⟨rfl, hb4⟩; replace hb4 := bnext hb3 hb4)
      | (go_at_call 21; refine (le_u32 G 12 (m - 12) (cp - 12) y12 y13 y14 y15 w2 (by omega) by12 by13 by14 by15 (hY.out _ hb2 12 _ e12.out) (hY.out _ hb2 13 _ e13.out) (hY.out _ hb2 14 _ e14.out) (hY.out _ hb2 15 _ e15.out)).mono ?_; rintro e w3 ⟨rfl, hb3⟩; replace hb3 := bnext hb2 hb3)
      | (go_at_call 21; refine (le_u32 G 0 m cp y0 y1 y2 y3 W1.drew (by omega) by0 by1 by2 by3 (hY.out _ hbWd 0 _ e0.out) (hY.out _ hbWd 1 _ e1.out) (hY.out _ hbWd 2 _ e2.out) (hY.out _ hbWd 3 _ e3.out)).mono ?_; rintro e w2 ⟨rfl, hb2⟩; replace hb2 := bnext hbWd hb2))
  rw [hid.out, hkl.out, hwl.out]
  have hP4 := hide (hP1.out _ hb4)
  have g3 : w4.cell? ⟨Pb, 3, none⟩ = some (.int .i64 ((cnt : Int) + 1)) := cell_blk hP4.out rfl
  have g4 : w4.cell? ⟨Pb, 4, none⟩ = some (.slice (some ⟨gi, 0, none⟩) ni ci) := cell_blk hP4.out rfl
  have hif4 := hide ((Upd.of_below (ks := []) hb4).own (hW.out.2.1.own hif.out (by intro g' h; cases h; simp; rintro rfl; exact if_ne hst.out hif.out)) (by simp))
  have gl : w4.cell? ⟨gi, id * 2, none⟩ = some (.int .u16 lt) := by rw [hif4.out.cellAt (id * 2) (by omega)]; exact hlt.out
  have hr4 := hide ((hb4.block w.heap.size (by have := hW.out.2.2.2; omega)).trans hW.out.2.2.1)
  have r0 : w4.cell? ⟨w.heap.size, 0, none⟩ = some (.int .i64 0) := cell_blk hr4.out rfl
  have r1 : w4.cell? ⟨w.heap.size, 1, none⟩ = some (.int .u16 0) := cell_blk hr4.out rfl
  have r2 : w4.cell? ⟨w.heap.size, 2, none⟩ = some (.slice none 0 0) := cell_blk hr4.out rfl
  have r3 : w4.cell? ⟨w.heap.size, 3, none⟩ = some (.int .u32 0) := cell_blk hr4.out rfl
  have s0 : w4.frozen? ⟨w.heap.size, 0, none⟩ = false := froz_blk hr4.out _
  have s1 : w4.frozen? ⟨w.heap.size, 1, none⟩ = false := froz_blk hr4.out _
  have s2 : w4.frozen? ⟨w.heap.size, 2, none⟩ = false := froz_blk hr4.out _
  have s3 : w4.frozen? ⟨w.heap.size, 3, none⟩ = false := froz_blk hr4.out _
  have i1 : ¬ (ni : Int) ≤ (id : Int) := by omega
  have i2 : (ni : Int) ≤ 1000000 := by omega
  have i3 : (id : Int) < (ni : Int) := by omega
  have k1 : ¬ (m : Int) - 20 < (k : Int) := by omega
  have k2 : (m : Int) ≤ 1000000 := by omega
  have k3 : ((m - 20 : Nat) : Int) = (m : Int) - 20 := by omega
  clear hbW hbWd hb2 hb3 hna hme
  go_wp2_with fail
  have k4 : (k : Int) ≤ (m : Int) - 20 := by omega
  have k5 : (k : Int) ≤ (cp : Int) - 20 := by omega
  have k6 : (k : Int) ≤ ((cp - 20 : Nat) : Int) := by omega
  have k7 : (0 : Int) ≤ (k : Int) := by omega
  have hgi : gi < w.heap.size := (hif.out.lt gi rfl).2
  have hn1 : ¬ gi = w.heap.size := by omega
  have hn2 : ¬ w.heap.size = gi := by omega
  clear i1 k1
  rcases hmx.out with ⟨hwk, hmv⟩ | ⟨hwk, hmv⟩
  all_goals
    replace hmv := hide hmv
    go_region_held3 (fun w' => w'.cell? ⟨Pb, 3, none⟩ = some (.int .i64 ((cnt : Int) + 1)) ∧ w'.cell? ⟨Pb, 4, none⟩ = some (.slice (some ⟨gi, 0, none⟩) ni ci) ∧ w'.cell? ⟨gi, id * 2, none⟩ = some (.int .u16 lt)) (simp [go_sem, g3, g4, gl, hn1, hn2]) (fail)
    go_wp2
    refine bodyPost_ret (v := .tuple #[.agg #[.int .i64 ((cnt : Int) + 1), .int .u16 lt, .slice (some ⟨G, 20, none⟩) k (cp - 20), .int .u32 mx], .nilIface]) (by simp [results, Ybaf.results14, go_sem, r0, r1, r2, r3, s0, s1, s2, s3, hmv.out]) rfl ⟨rfl, ?_⟩
    exact pk_end hP4.out (hG1.out _ hb4) hW.out.2.1 hb4 (lt_of_block hst.out.hP) (lt_of_block hG.out) _ _ _ _
end Go.Proofs.YbulkoboFmt
