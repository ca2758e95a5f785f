import Derived.Test.YbulkogyWalkKit
namespace Go.Proofs.Ybulkogy
open Go.RowKit
set_option linter.unusedSimpArgs false
set_option linter.unusedVariables false

set_option maxRecDepth 100000 in
set_option maxHeartbeats 4000000 in
theorem walk_any (w : World) (X H p n cap : Nat) (ao : Option Addr) (L : List (Nat × List Nat)) (hE : Ex w X H p n L ao cap) (P Bp By Bf Bt Bc Bo C N : Nat) (y f t : Int) (hP : box1 w Bp 3 (.int .i64 (P : Int))) (hP10 : P ≤ 10)
    (hy : box1 w By 3 (.int .i64 y)) (hf : box1 w Bf 3 (.int .i64 f)) (ht : box1 w Bt 3 (.int .i64 t)) (hO : box1 w Bo 45 (.int .u32 0)) (hc : box1 w Bc 46 (.slice (some ⟨C, 0, none⟩) N N)) (hC : w.heap[C]? = some (.cells (ints .u32 (List.replicate N 0)).toArray 45 (0, 0)))
    (hoC : Bo ≠ C) (hN : t - f = (N : Int)) (hf1 : -1 ≤ f) (hf2 : f ≤ 1000) (hN1 : N ≤ 1000) :
    Calls Yba.prog 9 #[.pointer (some ⟨X, 0, none⟩), .func (.func 10) #[] #[.pointer (some ⟨Bp, 0, none⟩)], .func (.func 11) #[] #[.pointer (some ⟨By, 0, none⟩), .pointer (some ⟨Bf, 0, none⟩), .pointer (some ⟨Bt, 0, none⟩)], .func (.func 12) #[] #[.pointer (some ⟨By, 0, none⟩), .pointer (some ⟨Bo, 0, none⟩), .pointer (some ⟨Bf, 0, none⟩), .pointer (some ⟨Bt, 0, none⟩), .pointer (some ⟨Bc, 0, none⟩)], .nilFunc] w fun e w' => WP w w' Bo C (runTo P y f t L (ps0 p n N L) n) e := by
  have hnf := neq_nilf
  have hta := ta_no
  have hmn := nil_merge
  have htn := nil_tick
  have htm := method_tick
  have hmm := method_merge
  obtain ⟨i3, hi3, a0, a1, a2⟩ := info_parts Yba.info3
  obtain ⟨i45, hi45, b0, b1, b2⟩ := info_parts Yba.info45
  obtain ⟨i49, hi49, c0, c1, c2⟩ := info_parts Yba.info49
  have x0 : w.cell? ⟨X, 0, none⟩ = some (.slice (some ⟨H, 0, none⟩) p p) := cell_blk hE.hX rfl
  have hp4 : (p : Int) ≤ 4 := by have := hE.hp; omega
  have hp4' : p ≤ 4 := hE.hp
  have hn2 : (n : Int) ≤ 256 := by have := hE.hn; omega
  have hn2' : n ≤ 256 := hE.hn
  replace hE := hide hE; replace hP := hide hP; replace hy := hide hy; replace hf := hide hf; replace ht := hide ht; replace hO := hide hO; replace hc := hide hc; replace hC := hide hC
  go_enter Yba.func9, Yba.ntmps9
  go_wp2_with (at_make; refine wpList_make_full _ rfl _ _ 57 rfl w.heap.size 49 i49 .nilIface 1 Yba.underlying57 hi49 c0 c1 .i64 .i64 p p p rfl rfl rfl rfl (by rw [c2]; omega) (by unfold maxLen; omega) (Nat.le_refl _) ?_)
  intro w1 hown hg
  obtain ⟨kb, h1⟩ : ∃ kb, Hid (L1 w w1 p P kb 0) := ⟨_, L1.start hown hg⟩
  clear hown hg x0
  go_wp2_with fail
  go_loopw [40] (fun t wr => ∃ q : Nat, q ≤ p ∧ t = .int .i64 (q : Int) ∧ Hid (L1 w wr p P kb q)) (fun t _ => p - (intOf t).toNat)
  case atStart => exact ⟨0, by omega, rfl, h1⟩
  case round =>
    clear h1
    obtain ⟨q, hq, rfl, h1⟩ := hrel
    by_cases hql : q < p
    · have hql' : (q : Int) < (p : Int) := by omega
      go_wp2_with fail
      refine (clo1 wr q P Bp (h1.out.hu.blk hP.out (by simp))).mono ?_
      rintro e w2 ⟨rfl, hw2⟩
      have hk2 := h1.out.cell hql
      rw [← hw2] at hk2
      have k2 : w2.cell? ⟨w.heap.size, q, none⟩ = some .nilIface := cell_blk hk2 (by
        rw [List.getElem?_toArray, List.getElem?_append_right (by simp)]
        simp [List.getElem?_replicate]; omega)
      have f2 : w2.frozen? ⟨w.heap.size, q, none⟩ = false := froz_blk hk2 _
      have hnx : Hid (L1 w (w2.setCell ⟨w.heap.size, q, none⟩ (.iface 50 (.pointer (some ⟨wr.heap.size, 0, none⟩)))) p P kb (q + 1)) := by rw [hw2]; exact h1.out.next hql
      clear hk2 hw2
      go_wp2_with fail
      exact ⟨⟨q + 1, by omega, by simp, hnx⟩, by simp [intOf]; omega⟩
    · obtain rfl : q = p := by omega
      have x1 : wr.cell? ⟨X, 1, none⟩ = some (.slice ao n cap) := cell_blk (h1.out.hu.blk hE.out.hX (by simp)) rfl
      go_wp2_with (at_make; refine wpList_make_full _ rfl _ _ 40 rfl wr.heap.size 3 i3 (.int .i64 0) 1 Yba.underlying40 hi3 a0 a1 .i64 .i64 n n n rfl rfl rfl rfl (by rw [a2]; omega) (by unfold maxLen; omega) (Nat.le_refl _) ?_)
      intro w3 hown hg
      obtain ⟨M, h2, hMe⟩ : ∃ M, Hid (L2 w w3 q P kb M (List.replicate n 0)) ∧ M = wr.heap.size := ⟨_, L2.start h1.out hown hg, rfl⟩
      rw [← hMe]
      have x1' : w3.cell? ⟨X, 1, none⟩ = some (.slice ao n cap) := cell_blk (h2.out.hu.blk hE.out.hX (by simp)) rfl
      clear hown hg x1 hMe h1
      go_wp2_with fail
      have hcz := hide (cntOf_nil n)
      go_loopw [61] (fun t wr => ∃ i : Nat, i ≤ n ∧ t = .int .i64 (i : Int) ∧ Hid (L2 w wr q P kb M (cntOf n ((L.take i).flatMap (·.2))))) (fun t _ => n - (intOf t).toNat)
      case atStart => exact ⟨0, by omega, rfl, hide (by rw [List.take_zero, List.flatMap_nil, hcz.out]; exact h2.out)⟩
      case round =>
        clear h2 x1' hcz
        obtain ⟨i, hi, rfl, h2⟩ := hrel
        by_cases hil : i < n
        · have hil' : (i : Int) < (n : Int) := by omega
          obtain ⟨⟨qi, ms⟩, hLi⟩ : ∃ x, L[i]? = some x := ⟨_, List.getElem?_eq_getElem (by rw [hE.out.len]; exact hil)⟩
          obtain ⟨hqi, hml, hmi, g, cg, am, cm, rfl, hg, hg0, hg1, hg2, hms⟩ := hE.out.step i qi ms hLi
          have hgr := h2.out.hu.blk hg (by simp)
          have d0 : wr.cell? ⟨g, i * 3, none⟩ = some (.int .i64 (i : Int)) := cell_blk hgr hg0
          have d1 : wr.cell? ⟨g, i * 3 + 1, none⟩ = some (.int .i64 (qi : Int)) := cell_blk hgr hg1
          have d2 : wr.cell? ⟨g, i * 3 + 2, none⟩ = some (.slice am ms.length cm) := cell_blk hgr hg2
          obtain ⟨lm, hlm⟩ : ∃ lm, lm = ms.length := ⟨_, rfl⟩
          rw [← hlm] at d2 hml
          have hml' : (lm : Int) ≤ 256 := by omega
          replace hLi := hide hLi; replace hmi := hide hmi; replace hms := hide hms; replace hlm := hide hlm
          clear hgr hg hg0 hg1 hg2
          have hfl := hide (fun (j m : Nat) => cnt_le (n := n) (m := m) ((L.take i).flatMap (·.2) ++ ms.take j) 65792 (by
            have h1 := flat_len (L.take i) (fun x hx => by
              obtain ⟨k, hk⟩ := List.getElem?_of_mem (List.mem_of_mem_take hx)
              exact (hE.out.step k x.1 x.2 hk).2.1)
            have h2 : (L.take i).length ≤ 256 := by simp; omega
            have h3 := hlm.out
            simp only [List.length_append, List.length_take]
            omega))
          go_wp2_with fail
          go_loopw [68] (fun t wr2 => ∃ j : Nat, j ≤ lm ∧ t = .int .i64 (j : Int) ∧ Hid (L2 w wr2 q P kb M (cntOf n ((L.take i).flatMap (·.2) ++ ms.take j)))) (fun t _ => lm - (intOf t).toNat)
          case atStart => exact ⟨0, by omega, rfl, hide (by rw [List.take_zero, List.append_nil]; exact h2.out.move ((Upd.refl _ _).alloc _))⟩
          case round =>
            clear h2 d0 d1 d2
            obtain ⟨j, hj, rfl, h3⟩ := hrel
            by_cases hjl : j < lm
            · have hjl' : (j : Int) < (lm : Int) := by omega
              obtain ⟨m, hm⟩ : ∃ m, ms[j]? = some m := ⟨_, List.getElem?_eq_getElem (by rw [← hlm.out]; exact hjl)⟩
              obtain ⟨b, cb, rfl, hb, hbj⟩ := hms.out j m hm
              have hmn : m < i := hmi.out m (List.mem_of_getElem? hm)
              have hmn' : (m : Int) < (n : Int) := by omega
              have d3 := cell_blk (h3.out.hu.blk hb (by simp)) hbj
              obtain ⟨cn, hcn⟩ : ∃ cn, cn = ((L.take i).flatMap (·.2) ++ ms.take j).count m := ⟨_, rfl⟩
              have hcn9 : (cn : Int) ≤ 65792 := by have := hfl.out j m; omega
              have d4 := cell_blk h3.out.hM (ints_get (j := m) (by rw [cntOf_len]; omega))
              rw [cntOf_get (by omega), ← hcn] at d4
              have f4 := froz_blk h3.out.hM m
              have hnx := hide (h3.out.set (m := m) (c := cn + 1))
              rw [hcn, cntOf_snoc, List.append_assoc, ← take_snoc hm, ← hcn, show ((cn + 1 : Nat) : Int) = (cn : Int) + 1 by omega] at hnx
              replace hm := hide hm; replace hcn := hide hcn
              clear hb hbj
              go_wp2_with fail
              exact ⟨⟨j + 1, by omega, by simp, hnx⟩, by simp [intOf]; omega⟩
            · obtain rfl : j = lm := by omega
              have e : ms.take j = ms := List.take_of_length_le (by rw [← hlm.out]; omega)
              rw [e, ← flat_take hLi.out] at h3
              clear e
              go_wp2_with fail
              exact ⟨⟨i + 1, by omega, by simp, h3⟩, by simp [intOf]; omega⟩
        · obtain rfl : i = n := by omega
          have e : L.take i = L := List.take_of_length_le (by rw [hE.out.len]; omega)
          rw [e] at h2
          clear e
          have x1 : wr.cell? ⟨X, 1, none⟩ = some (.slice ao i cap) := cell_blk (h2.out.hu.blk hE.out.hX (by simp)) rfl
          go_wp2_with (at_make; refine wpList_make_full _ rfl _ _ 46 rfl wr.heap.size 45 i45 (.int .u32 0) 1 Yba.underlying46 hi45 b0 b1 .i64 .i64 i i i rfl rfl rfl rfl (by rw [b2]; omega) (by unfold maxLen; omega) (Nat.le_refl _) ?_)
          intro w4 hown hg
          obtain ⟨Hd, h4, hHe⟩ : ∃ Hd, Hid (WK w w4 q P kb w.heap.size M Hd Bo C (runTo P y f t L (ps0 q i N L) 0)) ∧ Hd = wr.heap.size := ⟨_, h2.out.wk hown hg hO.out hC.out hoC, rfl⟩
          rw [← hHe]
          have hk4 := hide h4.out.keep
          have x1' : w4.cell? ⟨X, 1, none⟩ = some (.slice ao i cap) := cell_blk (hE.out.keep hk4.out).hX rfl
          have hi4 := hide (inv0 q i N L (by
            have h1 := flat_len L (fun x hx => by
              obtain ⟨k, hk⟩ := List.getElem?_of_mem hx
              exact (hE.out.step k x.1 x.2 hk).2.1)
            rw [hE.out.len] at h1
            omega))
          clear hown hg x1 hHe h2
          go_wp2_with fail
          go_loopw [115] (fun t' wr => ∃ k : Nat, k ≤ i ∧ t' = .int .i64 (k : Int) ∧ Hid (WK w wr q P kb w.heap.size M Hd Bo C (runTo P y f t L (ps0 q i N L) k)) ∧ Hid (Inv q i N k ((L.drop k).flatMap (·.2)) (runTo P y f t L (ps0 q i N L) k))) (fun t _ => i - (intOf t).toNat)
          case atStart => exact ⟨0, by omega, rfl, h4, hi4⟩
          case round =>
            clear h4 x1' hi4 hk4
            obtain ⟨k, hk, rfl, h4, hi4⟩ := hrel
            obtain ⟨s, hs⟩ : ∃ s, s = runTo P y f t L (ps0 q i N L) k := ⟨_, rfl⟩
            rw [← hs] at h4 hi4
            by_cases hkl : k < i
            · have hkl' : (k : Int) < (i : Int) := by omega
              obtain ⟨⟨qi, ms⟩, hLi⟩ : ∃ x, L[k]? = some x := ⟨_, List.getElem?_eq_getElem (by rw [hE.out.len]; exact hkl)⟩
              obtain ⟨hqi, hml, hmi, g, cg, am, cm, rfl, hg, hg0, hg1, hg2, hms⟩ := hE.out.step k qi ms hLi
              have hgr := h4.out.keep _ _ _ hg (by decide)
              have d0 : wr.cell? ⟨g, k * 3, none⟩ = some (.int .i64 (k : Int)) := cell_blk hgr hg0
              have d1 : wr.cell? ⟨g, k * 3 + 1, none⟩ = some (.int .i64 (qi : Int)) := cell_blk hgr hg1
              have d2 : wr.cell? ⟨g, k * 3 + 2, none⟩ = some (.slice am ms.length cm) := cell_blk hgr hg2
              have dK : wr.cell? ⟨w.heap.size, qi, none⟩ = some (.iface 50 (.pointer (some ⟨kb + qi, 0, none⟩))) := cell_blk h4.out.hK (by simp [hqi])
              have hqi' : (qi : Int) < (q : Int) := by omega
              have hKl : w.heap.size < wr.heap.size := lt_of_block h4.out.hK
              obtain ⟨lm, hlm⟩ : ∃ lm, lm = ms.length := ⟨_, rfl⟩
              rw [← hlm] at d2 hml
              have hml' : (lm : Int) ≤ 256 := by omega
              have hrest := hide (flat_drop hLi)
              replace hLi := hide hLi; replace hmi := hide hmi; replace hms := hide hms; replace hlm := hide hlm; replace hs := hide hs
              clear hgr hg hg0 hg1 hg2
              rw [hrest.out] at hi4
              go_wp2_with fail
              obtain ⟨S, hS⟩ : ∃ S, S = wr.heap.size := ⟨_, rfl⟩
              rw [← hS]
              replace hS := hide hS
              go_loopw [127] (fun t' wr2 => ∃ j : Nat, j ≤ lm ∧ t' = .int .i64 (j : Int) ∧ Hid (WK w wr2 q P kb w.heap.size M Hd Bo C ((ms.take j).foldl (mstep qi) s)) ∧ Hid (Inv q i N k (ms.drop j ++ (L.drop (k + 1)).flatMap (·.2)) ((ms.take j).foldl (mstep qi) s)) ∧ Hid (wr2.heap[S]? = some (.cells #[.int .i64 (k : Int), .int .i64 (qi : Int), .slice am lm cm] 44 (0, 0)))) (fun t _ => lm - (intOf t).toNat)
              case atStart => exact ⟨0, by omega, rfl, hide (h4.out.move ((Upd.refl _ _).alloc _)), hi4, hide (by rw [hS.out]; exact heap_alloc_new wr _)⟩
              case round =>
                clear h4 d0 d1 d2 dK hi4 hKl
                obtain ⟨j, hj, rfl, h5, hi5, hS5⟩ := hrel
                obtain ⟨sj, hsj⟩ : ∃ sj, sj = (ms.take j).foldl (mstep qi) s := ⟨_, rfl⟩
                rw [← hsj] at h5 hi5
                by_cases hjl : j < lm
                · have hjl' : (j : Int) < (lm : Int) := by omega
                  obtain ⟨m, hm⟩ : ∃ m, ms[j]? = some m := ⟨_, List.getElem?_eq_getElem (by rw [← hlm.out]; exact hjl)⟩
                  obtain ⟨b, cb, rfl, hb, hbj⟩ := hms.out j m hm
                  have hmn2 : m < k := hmi.out m (List.mem_of_getElem? hm)
                  have hmi2 : m < i := by omega
                  have hmn' : (m : Int) < (i : Int) := by omega
                  have d3 := cell_blk (h5.out.keep _ _ _ hb (by decide)) hbj
                  rw [drop_cons hm, List.cons_append] at hi5
                  obtain ⟨hi6, hmg⟩ := hi5.out.mstep (q := qi) hmi2
                  obtain ⟨gg, hgg⟩ : ∃ gg, sj.mg.getD m 0 = gg + 1 := ⟨sj.mg.getD m 0 - 1, by omega⟩
                  have hgg9 : (gg : Int) ≤ 65792 := by have := hi5.out.bm m; omega
                  have hsn : (ms.take (j + 1)).foldl (mstep qi) s = mstep qi sj m := by rw [take_snoc hm, List.foldl_append, hsj]; rfl
                  have d4 := cell_blk h5.out.hH (ints_get (j := m) (by rw [hi5.out.lh]; omega))
                  have hmrg := hide (merge_any (kb + qi) qi P (sj.cl.getD qi 0) (sj.hd.getD m 0) wr.drew (h5.out.hcl qi hqi))
                  replace hm := hide hm; replace hsn := hide hsn; replace hi6 := hide hi6; replace hsj := hide hsj; replace hgg := hide hgg
                  clear hb hbj
                  go_wp2_with fail
                  go_region_with (go_at_call 29; refine hmrg.out.mono ?_; rintro e w5 ⟨rfl, hb5, hu5⟩; have h6 := hide (h5.out.setcl hqi hi5.out.lc hb5 (((Upd.refl _ wr).drew).trans hu5)); clear hb5; have d5 := cell_blk h6.out.hM (ints_get (j := m) (by simp only []; rw [hi5.out.lm]; omega)); simp only [hgg.out] at d5; rw [show ((gg + 1 : Nat) : Int) = (gg : Int) + 1 by omega] at d5; have f5 := froz_blk h6.out.hM m; have hS6 := hide ((((Upd.refl [kb + qi] wr).drew).trans hu5).blk hS5.out (by simpa using blk_ne hS5.out (h5.out.hcl qi hqi) (by decide))); replace hu5 := hide hu5)
                  all_goals
                    have h7 := hide (h6.out.setM (m := m) (c := gg))
                    have hS7 : Hid ((w5.setCell ⟨M, m, none⟩ (.int .i64 (gg : Int))).heap[S]? = some (.cells #[.int .i64 (k : Int), .int .i64 (qi : Int), .slice (some ⟨b, 0, none⟩) lm cm] 44 (0, 0))) := (set_blk_ne (blk_ne hS6.out h6.out.hM (by decide))).trans hS6.out
                    by_cases hg0 : gg = 0
                    · subst hg0
                      have d6 := cell_blk h7.out.hH (ints_get (j := m) (by simp only []; rw [hi5.out.lh]; omega))
                      have f6 := froz_blk h7.out.hH m
                      have h8 := hide (h7.out.setH (m := m) (c := 0))
                      have hS8 : Hid (((w5.setCell ⟨M, m, none⟩ (.int .i64 ((0 : Nat) : Int))).setCell ⟨Hd, m, none⟩ (.int .u32 ((0 : Nat) : Int))).heap[S]? = some (.cells #[.int .i64 (k : Int), .int .i64 (qi : Int), .slice (some ⟨b, 0, none⟩) lm cm] 44 (0, 0))) := (set_blk_ne (blk_ne hS7.out h7.out.hH (by decide))).trans hS7.out
                      rw [show ((0 : Nat) : Int) = 0 by rfl] at h7 h8 hS7 hS8 d5 d6 f6
                      go_wp2_with fail
                      exact ⟨⟨j + 1, by omega, by simp, hide (by rw [hsn.out, mstep0 hgg.out]; exact h8.out), hide (by rw [hsn.out]; exact hi6.out), hS8⟩, by simp [intOf]; omega⟩
                    · have hg0' : ¬ (gg : Int) = 0 := by omega
                      go_wp2_with fail
                      exact ⟨⟨j + 1, by omega, by simp, hide (by rw [hsn.out, mstepS hgg.out hg0]; exact h7.out), hide (by rw [hsn.out]; exact hi6.out), hS7⟩, by simp [intOf]; omega⟩
                · obtain rfl : j = lm := by omega
                  have e : ms.take j = ms := List.take_of_length_le (by rw [← hlm.out]; omega)
                  have e2 : ms.drop j = [] := List.drop_of_length_le (by rw [← hlm.out]; omega)
                  rw [e] at hsj
                  rw [e2, List.nil_append] at hi5
                  clear e e2
                  have e0 : wr.cell? ⟨S, 0, none⟩ = some (.int .i64 (k : Int)) := cell_blk hS5.out rfl
                  have e3 := cell_blk h5.out.hM (ints_get (j := k) (by rw [hi5.out.lm]; exact hkl))
                  obtain ⟨mk, hmk⟩ : ∃ mk, mk = sj.mg.getD k 0 := ⟨_, rfl⟩
                  rw [← hmk] at e3
                  replace hmk := hide hmk; replace hsj := hide hsj
                  have hk5 := hide h5.out.keep
                  have hy5 : Hid (box1 wr By 3 (.int .i64 y)) := hk5.out _ _ _ hy.out (by decide)
                  have hf5 : Hid (box1 wr Bf 3 (.int .i64 f)) := hk5.out _ _ _ hf.out (by decide)
                  have ht5 : Hid (box1 wr Bt 3 (.int .i64 t)) := hk5.out _ _ _ ht.out (by decide)
                  have hc5 : Hid (box1 wr Bc 46 (.slice (some ⟨C, 0, none⟩) N N)) := hk5.out _ _ _ hc.out (by decide)
                  have hcl2 := hide (clo2 wr.drew k y f t By Bf Bt hy5.out hf5.out ht5.out)
                  obtain ⟨vis, hvis⟩ : ∃ vis, vis = asked k y f t := ⟨_, rfl⟩
                  rw [← hvis] at hcl2
                  replace hvis := hide hvis
                  go_wp2_with fail
                  go_region_held3 (fun w' => w'.cell? ⟨M, k, none⟩ = some (.int .i64 (mk : Int)) ∧ w'.cell? ⟨S, 0, none⟩ = some (.int .i64 (k : Int))) (first | exact ⟨‹_›, ‹_›⟩ | simp [go_sem, e0, e3]) (first | (go_at_call 11; refine hcl2.out.mono ?_; rintro e w6 ⟨rfl, rfl⟩))
                  have h6 : Hid (WK w wr.drew q P kb w.heap.size M Hd Bo C sj) := h5.out.move ((Upd.refl _ _).drew)
                  have hS6 : Hid (wr.drew.heap[S]? = some (.cells #[.int .i64 (k : Int), .int .i64 (qi : Int), .slice am j cm] 44 (0, 0))) := hS5.out
                  have htk : Hid (Calls Yba.prog 30 #[.pointer (some ⟨kb + qi, 0, none⟩)] wr.drew fun e w' => e = .returned (.int .u32 ((tickOf P qi sj : Nat) : Int)) ∧ w'.heap[kb + qi]? = some (.cells (ckCells qi P (tickOf P qi sj)).toArray 52 (0, 0)) ∧ Upd [kb + qi] wr.drew w') := tick_any (kb + qi) qi P (sj.cl.getD qi 0) (by omega) hP10 (by have := hi5.out.bc qi; omega) wr.drew (h6.out.hcl qi hqi)
                  obtain ⟨tk, htke⟩ : ∃ tk, tk = tickOf P qi sj := ⟨_, rfl⟩
                  rw [← htke] at htk
                  have hrun := hide (runTo_succ (P := P) (y := y) (f := f) (t := t) (s0 := ps0 q i N L) hLi.out)
                  have hinv := hide (hi5.out.estep (e := k) (q := qi) (P := P) (y := y) (f := f) (t := t))
                  have hrun2 : Hid (runTo P y f t L (ps0 q i N L) (k + 1) = ⟨sj.cl.set qi tk, sj.mg, if 0 < mk then sj.hd.set k tk else sj.hd, ownNext k y tk sj.own, cntNext k f t tk sj.cs⟩) := by
                    show _ = _
                    rw [hrun.out, ← hs.out, ← hsj.out, htke, hmk.out]; rfl
                  have hinv2 : Hid (Inv q i N (k + 1) ((L.drop (k + 1)).flatMap (·.2)) (runTo P y f t L (ps0 q i N L) (k + 1))) := by
                    show Inv _ _ _ _ _ _
                    rw [hrun.out, ← hs.out, ← hsj.out]; exact hinv.out
                  replace htke := hide htke
                  clear e0 e3 hrun hinv hcl2
                  go_wp2_with fail
                  refine htk.out.mono ?_
                  rintro e w7 ⟨rfl, hb7, hu7⟩
                  have h7 := hide (h6.out.setcl hqi hi5.out.lc hb7 hu7)
                  have hS7 := hide (hu7.blk hS6.out (by simpa using blk_ne hS6.out (h6.out.hcl qi hqi) (by decide)))
                  have g0 : w7.cell? ⟨S, 0, none⟩ = some (.int .i64 (k : Int)) := cell_blk hS7.out rfl
                  clear hb7 hu7 htk
                  by_cases hmk0 : 0 < mk
                  · have hmk0' : (0 : Int) < (mk : Int) := by omega
                    have dH := cell_blk h7.out.hH (ints_get (j := k) (by simp only []; rw [hi5.out.lh]; exact hkl))
                    have fH := froz_blk h7.out.hH k
                    have h8 := hide (h7.out.setH (m := k) (c := tk))
                    rw [if_pos hmk0] at hrun2
                    have hS8 : Hid ((w7.setCell ⟨Hd, k, none⟩ (.int .u32 (tk : Int))).heap[S]? = some (.cells #[.int .i64 (k : Int), .int .i64 (qi : Int), .slice am j cm] 44 (0, 0))) := (set_blk_ne (blk_ne hS7.out h7.out.hH (by decide))).trans hS7.out
                    have hne8 : ¬ S = Hd := blk_ne hS7.out h7.out.hH (by decide)
                    have hne8' : ¬ Hd = S := fun h => hne8 h.symm
                    cases vis with
                    | false =>
                      obtain ⟨eo, ec⟩ := asked_no (c := tk) (own := sj.own) (cs := sj.cs) hvis.out.symm
                      rw [eo, ec] at hrun2
                      clear eo ec
                      go_wp2_with fail
                      exact ⟨⟨k + 1, by omega, by simp, hide (by rw [hrun2.out]; exact h8.out), hinv2⟩, by simp [intOf]; omega⟩
                    | true =>
                      have hk8 := hide h8.out.keep
                      have hcl3 := hide (clo3 (w7.setCell ⟨Hd, k, none⟩ (.int .u32 (tk : Int))) k y f t By Bo Bf Bt Bc C N sj.own tk sj.cs (hk8.out _ _ _ hy.out (by decide)) (hk8.out _ _ _ hf.out (by decide)) (hk8.out _ _ _ ht.out (by decide)) h8.out.hO (hk8.out _ _ _ hc.out (by decide)) h8.out.hC hi5.out.ls hN hf1 hf2 (by omega) (by omega) hoC hN1)
                      go_wp2_with fail
                      refine hcl3.out.mono ?_
                      rintro e w9 ⟨rfl, hO9, hC9, hu9⟩
                      have h9 := hide (h8.out.visit hO9 hC9 hu9)
                      clear hO9 hC9 hu9 hcl3
                      go_wp2_with fail
                      exact ⟨⟨k + 1, by omega, by simp, hide (by rw [hrun2.out]; exact h9.out), hinv2⟩, by simp [intOf]; omega⟩
                  · have hmk0' : ¬ (0 : Int) < (mk : Int) := by omega
                    rw [if_neg hmk0] at hrun2
                    cases vis with
                    | false =>
                      obtain ⟨eo, ec⟩ := asked_no (c := tk) (own := sj.own) (cs := sj.cs) hvis.out.symm
                      rw [eo, ec] at hrun2
                      clear eo ec
                      go_wp2_with fail
                      exact ⟨⟨k + 1, by omega, by simp, hide (by rw [hrun2.out]; exact h7.out), hinv2⟩, by simp [intOf]; omega⟩
                    | true =>
                      have hk8 := hide h7.out.keep
                      have hcl3 := hide (clo3 w7 k y f t By Bo Bf Bt Bc C N sj.own tk sj.cs (hk8.out _ _ _ hy.out (by decide)) (hk8.out _ _ _ hf.out (by decide)) (hk8.out _ _ _ ht.out (by decide)) h7.out.hO (hk8.out _ _ _ hc.out (by decide)) h7.out.hC hi5.out.ls hN hf1 hf2 (by omega) (by omega) hoC hN1)
                      go_wp2_with fail
                      refine hcl3.out.mono ?_
                      rintro e w9 ⟨rfl, hO9, hC9, hu9⟩
                      have h9 := hide (h7.out.visit hO9 hC9 hu9)
                      clear hO9 hC9 hu9 hcl3
                      go_wp2_with fail
                      exact ⟨⟨k + 1, by omega, by simp, hide (by rw [hrun2.out]; exact h9.out), hinv2⟩, by simp [intOf]; omega⟩
            · obtain rfl : k = i := by omega
              go_wp2
              go_end0
              rw [hs] at h4
              exact ⟨rfl, h4.out.hO, h4.out.hC, h4.out.hU⟩
end Go.Proofs.Ybulkogy
