import Derived.Test.YbulkogyWalk
namespace Go.Proofs.Ybulkogy
open Go.RowKit
set_option linter.unusedSimpArgs false
set_option linter.unusedVariables false

/-- The process of event y among the first i. -/
def procTo (L : List (Nat × List Nat)) (y : Int) (i : Nat) : Nat := if 0 ≤ y ∧ y < (i : Int) then (L.getD y.toNat (0, [])).1 else 0
theorem procTo_zero (L : List (Nat × List Nat)) (y : Int) : procTo L y 0 = 0 := by
  unfold procTo; rw [if_neg (by omega)]
theorem procTo_eq {L : List (Nat × List Nat)} {i q : Nat} {ms : List Nat} (h : L[i]? = some (q, ms)) : procTo L (i : Int) (i + 1) = q := by
  unfold procTo
  rw [if_pos (by omega)]
  simp [List.getD_eq_getElem?_getD, h]
theorem procTo_ne {L : List (Nat × List Nat)} {y : Int} {i : Nat} (h : ¬ (i : Int) = y) : procTo L y (i + 1) = procTo L y i := by
  unfold procTo
  by_cases h1 : 0 ≤ y ∧ y < (i : Int)
  · rw [if_pos h1, if_pos (by omega)]
  · rw [if_neg h1, if_neg (by omega)]

structure LA (w wr : World) (y f t : Int) (P : Nat) : Prop where
  hy : box1 wr w.heap.size 3 (.int .i64 y)
  hf : box1 wr (w.heap.size + 1) 3 (.int .i64 f)
  ht : box1 wr (w.heap.size + 1 + 1) 3 (.int .i64 t)
  hp : box1 wr (w.heap.size + 1 + 1 + 1) 3 (.int .i64 (P : Int))
  hu : Upd [] w wr
theorem LA.start (w : World) (y f t : Int) : LA w ((((w.alloc (.cells #[.int .i64 y] 3)).alloc (.cells #[.int .i64 f] 3)).alloc (.cells #[.int .i64 t] 3)).alloc (.cells #[.int .i64 0] 3)) y f t 0 := by
  refine ⟨?_, ?_, ?_, ?_, ((((Upd.refl _ w).alloc _).alloc _).alloc _).alloc _⟩
  · unfold box1
    rw [Below.heap_alloc _ _ _ (by simp; try omega), Below.heap_alloc _ _ _ (by simp; try omega), Below.heap_alloc _ _ _ (by simp; try omega)]
    exact heap_alloc_new w _
  · unfold box1
    rw [Below.heap_alloc _ _ _ (by simp; try omega), Below.heap_alloc _ _ _ (by simp; try omega)]
    have := heap_alloc_new (w.alloc (.cells #[.int .i64 y] 3)) (.cells #[.int .i64 f] 3)
    simpa using this
  · unfold box1
    rw [Below.heap_alloc _ _ _ (by simp)]
    have := heap_alloc_new ((w.alloc (.cells #[.int .i64 y] 3)).alloc (.cells #[.int .i64 f] 3)) (.cells #[.int .i64 t] 3)
    simpa using this
  · have := heap_alloc_new (((w.alloc (.cells #[.int .i64 y] 3)).alloc (.cells #[.int .i64 f] 3)).alloc (.cells #[.int .i64 t] 3)) (.cells #[.int .i64 0] 3)
    simpa [box1] using this
theorem LA.move {w wr w1 : World} {y f t : Int} {P : Nat} (h : LA w wr y f t P) (hu : Upd [] wr w1) : LA w w1 y f t P :=
  ⟨hu.blk h.hy (by simp), hu.blk h.hf (by simp), hu.blk h.ht (by simp), hu.blk h.hp (by simp), h.hu.trans hu⟩
theorem LA.set {w wr : World} {y f t : Int} {P Q : Nat} (h : LA w wr y f t P) : LA w (wr.setCell ⟨w.heap.size + 1 + 1 + 1, 0, none⟩ (.int .i64 (Q : Int))) y f t Q := by
  have hu : Upd [w.heap.size + 1 + 1 + 1] wr (wr.setCell ⟨w.heap.size + 1 + 1 + 1, 0, none⟩ (.int .i64 (Q : Int))) := (Upd.refl _ wr).setCell (p := ⟨w.heap.size + 1 + 1 + 1, 0, none⟩) (by simp) _
  refine ⟨hu.blk h.hy (by simp; try omega), hu.blk h.hf (by simp; try omega), hu.blk h.ht (by simp; try omega), ?_, h.hu.fresh hu (by omega)⟩
  unfold box1; rw [set_blk h.hp]; rfl

def resOf (own c : Nat) (k y : Int) : Bool := decide (own ≤ c ∧ ¬ k = y)
def resList (own : Nat) (cs : List Nat) (f y : Int) (i : Nat) : List Value := (List.range i).map fun (j : Nat) => Value.bool (resOf own (cs.getD j 0) (f + j) y)
theorem res_set (own : Nat) (cs : List Nat) (f y : Int) (i N : Nat) (h : i < N) : (resList own cs f y i ++ List.replicate (N - i) (Value.bool false)).toArray.setIfInBounds i (.bool (resOf own (cs.getD i 0) (f + i) y)) = (resList own cs f y (i + 1) ++ List.replicate (N - (i + 1)) (Value.bool false)).toArray := by
  obtain ⟨r, hr⟩ : ∃ r, N - i = r + 1 := ⟨N - i - 1, by omega⟩
  rw [hr, show N - (i + 1) = r by omega, List.replicate_succ]
  simp [resList, List.range_succ]

def AP (w w' : World) (N : Nat) (res : List Value) (e : Ending) : Prop := ∃ A, e = .returned (.slice (some ⟨A, 0, none⟩) N N) ∧ w'.heap[A]? = some (.cells res.toArray 4 (0, 0)) ∧ Below w.heap.size w w' ∧ w.heap.size ≤ A

/-- Behind the loop: the boxes and the counts are laid. -/
theorem la_args {w wr w1 : World} {y f t : Int} {P N : Nat} (h : LA w wr y f t P) (hown : w1.ownsRow (wr.heap.size + 1) 45 1 (.slice (some ⟨wr.heap.size + 1, 0, none⟩) N N) N (madeCells #[.int .u32 0] N).toList) (hg : (wr.alloc (.cells #[.int .u32 0] 45)).grownBy w1 none) (W : World) (hW : W = w1.alloc (.cells #[.slice (some ⟨wr.heap.size + 1, 0, none⟩) N N] 46)) :
    LA w W y f t P ∧ box1 W wr.heap.size 45 (.int .u32 0) ∧ box1 W w1.heap.size 46 (.slice (some ⟨wr.heap.size + 1, 0, none⟩) N N) ∧ W.heap[wr.heap.size + 1]? = some (.cells (ints .u32 (List.replicate N 0)).toArray 45 (0, 0)) ∧ w.heap.size ≤ wr.heap.size := by
  have hu := Upd.of_grown hg
  have hu2 : Upd [] w1 W := by rw [hW]; exact (Upd.refl _ _).alloc _
  refine ⟨(h.move (((Upd.refl _ wr).alloc _).trans hu)).move hu2, ?_, ?_, ?_, h.hu.size⟩
  · exact hu2.blk (hu.blk (heap_alloc_new wr _) (by simp)) (by simp)
  · unfold box1; rw [hW]; exact heap_alloc_new w1 _
  · rw [ints_rep]; exact hu2.blk (made_blk hown) (by simp)

theorem notin2 {k a b : Nat} (h1 : k ≠ a) (h2 : k ≠ b) : k ∉ [a, b] := by simp [h1, h2]
theorem mfold_cs (q : Nat) (ms : List Nat) (s : PS) : (ms.foldl (mstep q) s).cs = s.cs := by
  induction ms generalizing s with
  | nil => rfl
  | cons m ms ih => rw [List.foldl_cons, ih]; rfl
theorem run_cs_len {P : Nat} {y f t : Int} (l : List ((Nat × List Nat) × Nat)) (s : PS) : (l.foldl (sstep P y f t) s).cs.length = s.cs.length := by
  induction l generalizing s with
  | nil => rfl
  | cons x l ih =>
    rw [List.foldl_cons, ih]
    simp only [sstep, estep, cntNext, mfold_cs]
    split <;> simp

set_option maxRecDepth 100000 in
set_option maxHeartbeats 4000000 in
theorem after_any (w : World) (X H p n cap : Nat) (ao : Option Addr) (L : List (Nat × List Nat)) (hE : Ex w X H p n L ao cap) (N : Nat) (y f t : Int) (hN : t - f = (N : Int)) (hf1 : -1 ≤ f) (hf2 : f ≤ 1000) (hN1 : N ≤ 1000) (hy1 : -1 ≤ y) (hy2 : y ≤ 1000) :
    Calls Yba.prog 7 #[.pointer (some ⟨X, 0, none⟩), .int .i64 y, .int .i64 f, .int .i64 t] w fun e w' => AP w w' N (resList (runTo (procTo L y n) y f t L (ps0 p n N L) n).own (runTo (procTo L y n) y f t L (ps0 p n N L) n).cs f y N) e := by
  obtain ⟨i45, hi45, b0, b1, b2⟩ := info_parts Yba.info45
  obtain ⟨i4, hi4, c0, c1, c2⟩ := info_parts Yba.info4
  have hXl := lt_of_block hE.hX
  have x1 : w.cell? ⟨X, 1, none⟩ = some (.slice ao n cap) := cell_blk hE.hX rfl
  have hn2 : (n : Int) ≤ 256 := by have := hE.hn; omega
  have hn2' : n ≤ 256 := hE.hn
  have hN2 : (N : Int) ≤ 1000 := by omega
  have hXl1 : X < w.heap.size + 1 := by omega
  have hXl2 : X < w.heap.size + 1 + 1 := by omega
  have hXl3 : X < w.heap.size + 1 + 1 + 1 := by omega
  have hst := hide (LA.start w y f t)
  replace hE := hide hE
  go_enter Yba.func7, Yba.ntmps7
  go_wp2_with fail
  go_loopw [22] (fun t' wr => ∃ i : Nat, i ≤ n ∧ t' = .int .i64 (i : Int) ∧ Hid (LA w wr y f t (procTo L y i))) (fun t _ => n - (intOf t).toNat)
  case atStart => exact ⟨0, by omega, rfl, hide (by rw [procTo_zero]; exact hst.out)⟩
  case round =>
    clear hst x1
    obtain ⟨i, hi, rfl, h1⟩ := hrel
    by_cases hil : i < n
    · have hil' : (i : Int) < (n : Int) := by omega
      obtain ⟨⟨qi, ms⟩, hLi⟩ : ∃ x, L[i]? = some x := ⟨_, List.getElem?_eq_getElem (by rw [hE.out.len]; exact hil)⟩
      obtain ⟨hqi, hml, hmi, g, cg, am, cm, rfl, hg, hg0, hg1, hg2, hms⟩ := hE.out.step i qi ms hLi
      have hgr := h1.out.hu.blk hg (by simp)
      have d0 : wr.cell? ⟨g, i * 3, none⟩ = some (.int .i64 (i : Int)) := cell_blk hgr hg0
      have d1 : wr.cell? ⟨g, i * 3 + 1, none⟩ = some (.int .i64 (qi : Int)) := cell_blk hgr hg1
      have d2 : wr.cell? ⟨g, i * 3 + 2, none⟩ = some (.slice am ms.length cm) := cell_blk hgr hg2
      have dy := h1.out.hy.cell
      have dp := h1.out.hp.cell
      have fp := h1.out.hp.froz
      have hyl : w.heap.size < wr.heap.size := lt_of_block h1.out.hy
      have hpl : w.heap.size + 1 + 1 + 1 < wr.heap.size := lt_of_block h1.out.hp
      have ha := hide (fun o => h1.out.move ((Upd.refl [] wr).alloc o))
      clear hgr hg hg0 hg1 hg2 hms hmi hml
      by_cases hiy : (i : Int) = y
      · subst hiy
        have hq := hide (procTo_eq hLi)
        replace hLi := hide hLi
        go_wp2_with fail
        exact ⟨⟨i + 1, by omega, by simp, hide (by rw [hq.out]; exact h1.out.set.move ((Upd.refl [] _).alloc _))⟩, by simp [intOf]; omega⟩
      · have hq := hide (procTo_ne (L := L) hiy)
        replace hLi := hide hLi
        go_wp2_with fail
        exact ⟨⟨i + 1, by omega, by simp, hide (by rw [hq.out]; exact ha.out _)⟩, by simp [intOf]; omega⟩
    · obtain rfl : i = n := by omega
      obtain ⟨P, hPe⟩ : ∃ P, P = procTo L y i := ⟨_, rfl⟩
      rw [← hPe] at h1
      have hP10 : P ≤ 10 := by
        rw [hPe]
        unfold procTo
        split
        · rename_i h
          obtain ⟨x, hx⟩ : ∃ x, L[y.toNat]? = some x := ⟨_, List.getElem?_eq_getElem (by rw [hE.out.len]; omega)⟩
          have := (hE.out.step y.toNat x.1 x.2 hx).1
          have := hE.out.hp
          simp [List.getD_eq_getElem?_getD, hx]
          omega
        · omega
      replace hPe := hide hPe
      have df := h1.out.hf.cell
      have dt := h1.out.ht.cell
      have hfl : w.heap.size + 1 < wr.heap.size := lt_of_block h1.out.hf
      have htl : w.heap.size + 1 + 1 < wr.heap.size := lt_of_block h1.out.ht
      go_wp2_with (at_make; refine wpList_make_full _ rfl _ _ 46 rfl (wr.heap.size + 1) 45 i45 (.int .u32 0) 1 Yba.underlying46 hi45 b0 b1 .i64 .i64 N N N rfl rfl rfl rfl (by rw [b2]; omega) (by unfold maxLen; omega) (by simp) ?_)
      intro w1 hown hg
      have hla := hide (la_args h1.out hown hg _ rfl)
      clear hown hg df dt
      go_wp2_with fail
      generalize hWe : World.alloc w1 _ = W at hla ⊢
      have hcall := walk_any W X H p i cap ao L (hE.out.keep (Keep.of_upd hla.out.1.hu)) P (w.heap.size + 1 + 1 + 1) w.heap.size (w.heap.size + 1) (w.heap.size + 1 + 1) w1.heap.size wr.heap.size (wr.heap.size + 1) N y f t hla.out.1.hp hP10 hla.out.1.hy hla.out.1.hf hla.out.1.ht hla.out.2.1 hla.out.2.2.1 hla.out.2.2.2.1 (by omega) hN hf1 hf2 hN1
      refine hcall.mono ?_
      clear hcall
      rintro e w2 ⟨rfl, hO2, hC2, hu2⟩
      have hls : (runTo P y f t L (ps0 p i N L) i).cs.length = N := (run_cs_len _ _).trans (by simp [ps0])
      obtain ⟨own, hown⟩ : ∃ own, own = (runTo P y f t L (ps0 p i N L) i).own := ⟨_, rfl⟩
      obtain ⟨cs, hcs⟩ : ∃ cs, cs = (runTo P y f t L (ps0 p i N L) i).cs := ⟨_, rfl⟩
      rw [← hown] at hO2
      rw [← hcs] at hC2 hls
      replace hown := hide hown; replace hcs := hide hcs; replace hls := hide hls
      have hc2 : box1 w2 w1.heap.size 46 (.slice (some ⟨wr.heap.size + 1, 0, none⟩) N N) := hu2.blk hla.out.2.2.1 (notin2 (blk_ne hla.out.2.2.1 hla.out.2.1 (by decide)) (blk_ne hla.out.2.2.1 hla.out.2.2.2.1 (by decide)))
      have hy2' : Hid (box1 w2 w.heap.size 3 (.int .i64 y)) := hu2.blk hla.out.1.hy (notin2 (blk_ne hla.out.1.hy hla.out.2.1 (by decide)) (blk_ne hla.out.1.hy hla.out.2.2.2.1 (by decide)))
      have hf2' : Hid (box1 w2 (w.heap.size + 1) 3 (.int .i64 f)) := hu2.blk hla.out.1.hf (notin2 (blk_ne hla.out.1.hf hla.out.2.1 (by decide)) (blk_ne hla.out.1.hf hla.out.2.2.2.1 (by decide)))
      have hbl : Hid (Below w.heap.size w w2) := (hla.out.1.hu.below (Nat.le_refl _) (by simp)).trans (hu2.below hla.out.1.hu.size (by have := hla.out.2.2.2.2; simp; omega))
      have dc := hc2.cell
      have hcl : w1.heap.size < w2.heap.size := lt_of_block hc2
      replace hO2 := hide hO2; replace hC2 := hide hC2; replace hu2 := hide hu2; replace hc2 := hide hc2
      clear hWe hla
      go_wp2_with (at_make; refine wpList_make_full _ rfl _ _ 26 rfl w2.heap.size 4 i4 (.bool false) 1 Yba.underlying26 hi4 c0 c1 .i64 .i64 N N N rfl rfl rfl rfl (by rw [c2]; omega) (by unfold maxLen; omega) (Nat.le_refl _) ?_)
      intro w3 hown3 hg3
      have hA := hide (made_blk hown3)
      have hu3 := hide (Upd.of_grown hg3)
      have dc3 : w3.cell? ⟨w1.heap.size, 0, none⟩ = some (.slice (some ⟨wr.heap.size + 1, 0, none⟩) N N) := cell_blk (hu3.out.blk hc2.out (by simp)) rfl
      have hO3 : Hid (box1 w3 wr.heap.size 45 (.int .u32 (own : Int))) := hu3.out.blk hO2.out (by simp)
      have hC3 := hide (hu3.out.blk hC2.out (by simp))
      have hy3 : Hid (box1 w3 w.heap.size 3 (.int .i64 y)) := hu3.out.blk hy2'.out (by simp)
      have hf3 : Hid (box1 w3 (w.heap.size + 1) 3 (.int .i64 f)) := hu3.out.blk hf2'.out (by simp)
      clear hown3 hg3 dc hO2 hC2 hy2' hf2'
      obtain ⟨C, hCe⟩ : ∃ C, C = wr.heap.size + 1 := ⟨_, rfl⟩
      obtain ⟨Bo, hBe⟩ : ∃ Bo, Bo = wr.heap.size := ⟨_, rfl⟩
      rw [← hCe] at hC3 dc3 ⊢
      rw [← hBe] at hO3 ⊢
      clear hCe hBe
      go_wp2_with fail
      go_loopw [47] (fun t' wr => ∃ j : Nat, j ≤ N ∧ t' = .int .i64 (j : Int) ∧ Hid (wr.heap[w2.heap.size]? = some (.cells (resList own cs f y j ++ List.replicate (N - j) (Value.bool false)).toArray 4 (0, 0))) ∧ Hid (Upd [w2.heap.size] w3 wr)) (fun t _ => N - (intOf t).toNat)
      case atStart => exact ⟨0, by omega, rfl, hide (by simpa [resList] using hA.out), hide (Upd.refl _ _)⟩
      case round =>
        clear dc3
        obtain ⟨j, hj, rfl, h4, hu4⟩ := hrel
        by_cases hjl : j < N
        · have hjl' : (j : Int) < (N : Int) := by omega
          have e1 := cell_blk (hu4.out.blk hC3.out (by simpa using blk_ne hC3.out hA.out (by decide))) (ints_get (j := j) (by rw [hls.out]; exact hjl))
          obtain ⟨c, hce⟩ : ∃ c, c = cs.getD j 0 := ⟨_, rfl⟩
          rw [← hce] at e1
          have e2 : wr.cell? ⟨Bo, 0, none⟩ = some (.int .u32 (own : Int)) := cell_blk (hu4.out.blk hO3.out (by simpa using blk_ne hO3.out hA.out (by decide))) rfl
          have e3 : wr.cell? ⟨w.heap.size, 0, none⟩ = some (.int .i64 y) := cell_blk (hu4.out.blk hy3.out (by simpa using blk_ne hy3.out hA.out (by decide))) rfl
          have e4 : wr.cell? ⟨w.heap.size + 1, 0, none⟩ = some (.int .i64 f) := cell_blk (hu4.out.blk hf3.out (by simpa using blk_ne hf3.out hA.out (by decide))) rfl
          have e5 : wr.cell? ⟨w2.heap.size, j, none⟩ = some (.bool false) := cell_blk h4.out (by
            rw [List.getElem?_toArray, List.getElem?_append_right (by simp [resList])]
            simp [List.getElem?_replicate, resList]; omega)
          have f5 : wr.frozen? ⟨w2.heap.size, j, none⟩ = false := froz_blk h4.out _
          by_cases hle : own ≤ c
          · have hle' : (own : Int) ≤ (c : Int) := by omega
            by_cases hfy : f + (j : Int) = y
            · have hr : resOf own (cs.getD j 0) (f + j) y = false := by rw [← hce]; simp [resOf, hfy]
              replace hce := hide hce
              have hb5 : (f + (j : Int) == y) = true := by simpa using hfy
              go_wp2_with fail
              refine ⟨⟨j + 1, by omega, by simp, hide ?_, hide (hu4.out.setCell (p := ⟨w2.heap.size, j, none⟩) (by simp) _)⟩, by simp [intOf]; omega⟩
              rw [← res_set _ _ _ _ _ _ hjl, hr]
              first | exact set_blk h4.out j _ | (rw [show (f + (j : Int) != y) = true by simpa using hfy]; exact set_blk h4.out j _) | (rw [show (f + (j : Int) != y) = false by simpa using hfy]; exact set_blk h4.out j _)
            · have hr : resOf own (cs.getD j 0) (f + j) y = true := by rw [← hce]; simp [resOf, hfy, hle]
              replace hce := hide hce
              have hb5 : (f + (j : Int) == y) = false := by simpa using hfy
              go_wp2_with fail
              refine ⟨⟨j + 1, by omega, by simp, hide ?_, hide (hu4.out.setCell (p := ⟨w2.heap.size, j, none⟩) (by simp) _)⟩, by simp [intOf]; omega⟩
              rw [← res_set _ _ _ _ _ _ hjl, hr]
              first | exact set_blk h4.out j _ | (rw [show (f + (j : Int) != y) = true by simpa using hfy]; exact set_blk h4.out j _) | (rw [show (f + (j : Int) != y) = false by simpa using hfy]; exact set_blk h4.out j _)
          · have hle' : ¬ (own : Int) ≤ (c : Int) := by omega
            have hr : resOf own (cs.getD j 0) (f + j) y = false := by rw [← hce]; simp [resOf, hle]
            replace hce := hide hce
            go_wp2_with fail
            refine ⟨⟨j + 1, by omega, by simp, hide ?_, hide (hu4.out.setCell (p := ⟨w2.heap.size, j, none⟩) (by simp) _)⟩, by simp [intOf]; omega⟩
            rw [← res_set _ _ _ _ _ _ hjl, hr]
            exact set_blk h4.out j _
        · obtain rfl : j = N := by omega
          go_wp2
          go_ret
          refine ⟨_, rfl, ?_, (hbl.out.trans ((Upd.of_below (ks := []) (hu3.out.below (Nat.le_refl _) (by simp))).below hbl.out.size (by simp))).trans (hu4.out.below (Nat.le_trans hbl.out.size hu3.out.size) (by simpa using hbl.out.size)), hbl.out.size⟩
          have := h4.out
          rw [Nat.sub_self, List.replicate_zero, List.append_nil, hown.out, hcs.out, hPe.out] at this
          exact this
end Go.Proofs.Ybulkogy
