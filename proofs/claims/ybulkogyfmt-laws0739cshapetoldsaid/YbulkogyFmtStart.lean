import Derived.Test.YbulkogyFmtBR2
namespace Go.Proofs.YbulkogyFmt
open Go.RowKit
set_option linter.unusedSimpArgs false
set_option linter.unusedVariables false

theorem own_base {w : World} {B B' : Nat} {e : TypeId} {s : Nat} {v : Value} {n : Nat} {xs : List Value} (h : w.ownsRow B e s v n xs) (hB : B' ≤ B) : w.ownsRow B' e s v n xs := by
  obtain ⟨h1, h2⟩ := h
  refine ⟨h1, ?_⟩
  rcases h2 with h2 | ⟨g, cap, cur, rfl, hg, r⟩
  · exact .inl h2
  · exact .inr ⟨g, cap, cur, rfl, Nat.le_trans hB hg, r⟩
def tg0 (Rb Rn X H S : Nat) : Nat → Tg := fun k => if k = Rb then .rb else if k = Rn then .rn else if k = X then .x else if k = H then .hosts else if k = S then .se else if k = S + 1 then .ib else if k = S + 2 then .en else if k = S + 3 then .bx else .arg
theorem BR.start {w w1 : World} {Rb len cap Rn X H n B : Nat} {a2 : Option Addr} {stv : Value} (hRb : w.heap[Rb]? = some (.cells (rdCells a2 len cap 0 (.slice none 0 0)) 27 (0, 0))) (hB : B ≤ w.heap.size) (hRB : B ≤ Rb) (hRn : w1.heap[Rn]? = some (.cells (runC X (.slice none 0 0) 0) 32 (0, 0))) (hN : NR w w1 X H n stv) (nRn : w.heap.size ≤ Rn)
    {za zb zc : Array Value} (ha : za.toList = List.replicate n (.bool false)) (hb : zb.toList = List.replicate n (.slice none 0 0)) (hc : zc.toList = List.replicate n (.int .i64 0)) (hn : n ≤ maxLen) :
    BR w ((((w1.alloc (.cells za 4)).alloc (.cells zb 25)).alloc (.cells zc 3)).alloc (.cells #[.slice (some ⟨w1.heap.size + 2, 0, none⟩) n n] 47)) ⟨Rb, len, cap, Rn, X, H, w1.heap.size, w1.heap.size + 1, w1.heap.size + 3, w1.heap.size + 2, n, B, a2⟩ (bs0 n) 0 0 [] (List.replicate n 0) := by
  obtain ⟨S, hS⟩ : ∃ S, S = w1.heap.size := ⟨_, rfl⟩
  obtain ⟨v0, hv0⟩ : ∃ v0, v0 = Value.slice (some ⟨w1.heap.size + 2, 0, none⟩) n n := ⟨_, rfl⟩
  rw [← hv0]
  rw [← hS] at hv0
  rw [← hS]
  have e1 : (w1.alloc (.cells za 4)).heap.size = S + 1 := by simp [hS]
  have e2 : ((w1.alloc (.cells za 4)).alloc (.cells zb 25)).heap.size = S + 2 := by simp [hS]
  have e3 : (((w1.alloc (.cells za 4)).alloc (.cells zb 25)).alloc (.cells zc 3)).heap.size = S + 3 := by simp [hS]
  have e4 : ((((w1.alloc (.cells za 4)).alloc (.cells zb 25)).alloc (.cells zc 3)).alloc (.cells #[v0] 47)).heap.size = S + 4 := by simp [hS]
  obtain ⟨Y, hY⟩ : ∃ Y, Y = (((w1.alloc (.cells za 4)).alloc (.cells zb 25)).alloc (.cells zc 3)).alloc (.cells #[v0] 47) := ⟨_, rfl⟩
  have y3 : Y.heap[S + 3]? = some (.cells #[v0] 47 (0, 0)) := by have := heap_alloc_new (((w1.alloc (.cells za 4)).alloc (.cells zb 25)).alloc (.cells zc 3)) (.cells #[v0] 47); rw [e3] at this; rw [hY]; exact this
  have y2 : Y.heap[S + 2]? = some (.cells zc 3 (0, 0)) := by rw [hY, Below.heap_alloc _ _ _ (by rw [e3]; omega)]; have := heap_alloc_new ((w1.alloc (.cells za 4)).alloc (.cells zb 25)) (.cells zc 3); rw [e2] at this; exact this
  have y1 : Y.heap[S + 1]? = some (.cells zb 25 (0, 0)) := by rw [hY, Below.heap_alloc _ _ _ (by rw [e3]; omega), Below.heap_alloc _ _ _ (by rw [e2]; omega)]; have := heap_alloc_new (w1.alloc (.cells za 4)) (.cells zb 25); rw [e1] at this; exact this
  have y0 : Y.heap[S]? = some (.cells za 4 (0, 0)) := by rw [hY, Below.heap_alloc _ _ _ (by rw [e3]; omega), Below.heap_alloc _ _ _ (by rw [e2]; omega), Below.heap_alloc _ _ _ (by rw [e1]; omega), hS]; exact heap_alloc_new w1 (.cells za 4)
  have uY : Upd [] w1 Y := by rw [hY]; exact (((((Upd.refl _ w1).alloc _).alloc _).alloc _).alloc _)
  have sY : Y.heap.size = S + 4 := by rw [hY]; exact e4
  rw [← hY]
  clear hY e1 e2 e3 e4
  have hu : Upd [S + 3] w1 Y := uY.mono (by simp)
  have huW : Below B w Y := (hN.hu.below hB (by simp)).trans (hu.below (Nat.le_trans hB hN.hu.size) (by simp; have := hN.hu.size; omega))
  have lX := lt_of_block hN.hX
  have lRn := lt_of_block hRn
  have lH := hN.hH.lt
  have lRb := lt_of_block hRb
  have szw := hN.hu.size
  have nRX : Rn ≠ X := blk_ne hRn hN.hX (by decide)
  have nRH : Rn ≠ H := by obtain ⟨l, _, _, h⟩ := hN.hH; exact blk_ne hRn h (by decide)
  have nXH : X ≠ H := by obtain ⟨l, _, _, h⟩ := hN.hH; exact blk_ne hN.hX h (by decide)
  have bRb := hN.hu.blk hRb (by simp)
  have gX := hN.nX
  have gH := hN.nH
  have ne : ∀ k, k < S → k ∉ [S + 3] := by intro k hk; simp; omega
  have qRb : Rb < S := by omega
  have qRn : Rn < S := by omega
  have qX : X < S := by omega
  have qH : H < S := by omega
  refine ⟨.slice none 0 0, stv, .slice none 0 0, [], List.replicate n (.slice none 0 0), tg0 Rb Rn X H S, ⟨hu.blk bRb (ne _ qRb), World.ownsRow_nil _ _ _ _, by simp [tg0], by intro g hg; cases hg⟩,
    ⟨hu.blk hRn (ne _ qRn), hu.blk hN.hX (ne _ qX), hN.hH.upd hu (ne _ qH), hu.own (own_base hN.own hB) (fun g hg => ne g (by rw [hS]; exact (hN.own.lt g hg).2)), World.ownsRow_nil _ _ _ _, by intro j p m hj; simp [bs0] at hj, ?_, ?_, ?_, by intro g hg; cases hg⟩,
    ⟨?_, ?_⟩, ⟨?_, by simp, ?_, ?_, ?_⟩, ⟨EA.of_blk (rest := []) ?_ ?_ (by simp) hn, ?_, ?_⟩, huW, by rw [sY]; show B ≤ S + 4; omega, by show B ≤ Rb; omega, by show B ≤ Rn; omega, by show B ≤ X; omega, by show B ≤ S; omega, by show B ≤ S + 1; omega, by show B ≤ S + 3; omega, by show B ≤ S + 2; omega⟩
  · show tg0 Rb Rn X H S Rn = .rn
    unfold tg0; rw [if_neg (by omega), if_pos rfl]
  · show tg0 Rb Rn X H S X = .x
    unfold tg0; rw [if_neg (by omega), if_neg (by omega), if_pos rfl]
  · show tg0 Rb Rn X H S H = .hosts
    unfold tg0; rw [if_neg (by omega), if_neg (by omega), if_neg (by omega), if_pos rfl]
  · show Y.heap[S]? = _
    rw [y0]
    have : za = (List.map Value.bool (bs0 n).sent).toArray := by rw [← Array.toList_inj]; simp [ha, bs0]
    rw [this]
  · show tg0 Rb Rn X H S S = .se
    unfold tg0; rw [if_neg (by omega), if_neg (by omega), if_neg (by omega), if_neg (by omega), if_pos rfl]
  · show Y.heap[S + 1]? = _
    rw [y1]
    have : zb = (List.replicate n (.slice none 0 0)).toArray := by rw [← Array.toList_inj]; simp [hb]
    rw [this]
  · intro q hq
    refine .inl ⟨?_, ?_⟩
    · simp only at hq; simp [List.getD_eq_getElem?_getD, hq]
    · simp only at hq; simp [List.getD_eq_getElem?_getD, bs0, hq]
  · show tg0 Rb Rn X H S (S + 1) = .ib
    unfold tg0; rw [if_neg (by omega), if_neg (by omega), if_neg (by omega), if_neg (by omega), if_neg (by omega), if_pos rfl]
  · intro q g hq hg
    simp only at hq
    rw [show (List.replicate n (Value.slice none 0 0)).getD q (.bool false) = .slice none 0 0 by simp [List.getD_eq_getElem?_getD, hq]] at hg
    cases hg
  · show Y.heap[S + 3]? = _
    rw [y3, hv0]
    simp
  · show Y.heap[S + 2]? = _
    rw [y2]
    have : zc = (ints .i64 (List.replicate n 0) ++ []).toArray := by rw [← Array.toList_inj]; simp [hc, ints]
    rw [this]
  · show tg0 Rb Rn X H S (S + 3) = .bx
    unfold tg0; rw [if_neg (by omega), if_neg (by omega), if_neg (by omega), if_neg (by omega), if_neg (by omega), if_neg (by omega), if_neg (by omega), if_pos rfl]
  · show tg0 Rb Rn X H S (S + 2) = .en
    unfold tg0; rw [if_neg (by omega), if_neg (by omega), if_neg (by omega), if_neg (by omega), if_neg (by omega), if_neg (by omega), if_pos rfl]
/-- one actor laid -/
theorem BR.lay {w wr : World} {C : Cx} {s : BS} {k rc p : Nat} {args : List Nat} (h : BR w wr C s k rc args (List.range p ++ List.replicate (C.n - p) 0)) (hp : p < C.n) : BR w (wr.setCell ⟨C.E, p, none⟩ (.int .i64 (p : Int))) C s k rc args (List.range (p + 1) ++ List.replicate (C.n - (p + 1)) 0) := by
  have h0 := h
  obtain ⟨argsv, stv, msv, cs, iv, tg, hA, hR, hS, hI, hE, r⟩ := h0
  obtain ⟨rest, hb, hl⟩ := hE.ea.blk
  have hr : rest = [] := List.eq_nil_of_length_eq_zero (by simp at hl; omega)
  subst hr
  have hEB : C.Bx ≠ C.E := blk_ne hE.ea.bx hb (by decide)
  refine h.act (EA.of_blk (rest := []) ?_ ?_ (by simp; omega) hE.ea.le.2) ((Upd.refl _ wr).setCell (p := ⟨C.E, p, none⟩) (by simp) _)
  · unfold box1
    rw [set_blk_ne hEB, hE.ea.bx]
    simp
    omega
  · rw [set_blk hb]
    have e : ints .i64 (List.range (p + 1) ++ List.replicate (C.n - (p + 1)) 0) = (ints .i64 (List.range p ++ List.replicate (C.n - p) 0)).set p (.int .i64 (p : Int)) := by
      rw [show C.n - p = (C.n - (p + 1)) + 1 by omega, List.replicate_succ, ints_append, ints_append, List.set_append_right _ _ (by simp [ints]), List.range_succ]
      simp [ints]
    rw [List.append_nil, List.append_nil, e]
    simp
end Go.Proofs.YbulkogyFmt
