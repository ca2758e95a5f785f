import Derived.Test.YbulkogyFmtRun
namespace Go.Proofs.YbulkogyFmt
open Go.RowKit
set_option linter.unusedSimpArgs false
set_option linter.unusedVariables false

/-- What a receive leaves: the merged event lies in a block of its own. -/
def RcP (w w' : World) (Rn X H n i p B rc fr : Nat) (smp stv msv : Value) (cs : List Value) (e : Ending) : Prop := ∃ stv', e = .returned (.tuple #[]) ∧ w'.heap[Rn]? = some (.cells (runC X smp (rc + 1)) 32 (0, 0)) ∧ w'.heap[X]? = some (.cells (exC H n stv' msv) 36 (0, 0)) ∧ w'.heap[w.heap.size]? = some (.cells #[.int .i64 (fr : Int)] 3 (0, 0)) ∧
  w'.ownsRow B 38 3 stv' (i + 1) (cs ++ [.int .i64 (i : Int), .int .i64 (p : Int), .slice (some ⟨w.heap.size, 0, none⟩) 1 1]) ∧ Upd (Rn :: X :: stv.ownBlock.toList) w w'
set_option maxRecDepth 100000 in
set_option maxHeartbeats 2000000 in
theorem recv_any (w : World) (Rn X H n i p B rc fr : Nat) (smp stv msv : Value) (cs : List Value) (hRn : w.heap[Rn]? = some (.cells (runC X smp rc) 32 (0, 0))) (hX : w.heap[X]? = some (.cells (exC H n stv msv) 36 (0, 0))) (hown : w.ownsRow B 38 3 stv i cs) (hi : i ≤ 1000) (hrc : rc ≤ 1000) (hB : B ≤ w.heap.size) :
    Calls Ybaf.prog 11 #[.pointer (some ⟨Rn, 0, none⟩), .int .i64 (p : Int), .int .i64 (fr : Int)] w fun e w' => RcP w w' Rn X H n i p B rc fr smp stv msv cs e := by
  have hRX : ¬ Rn = X := blk_ne hRn hX (by decide)
  have hRs := own_not hown hRn (by decide)
  have r3 : w.cell? ⟨Rn, 3, none⟩ = some (.int .i64 (rc : Int)) := cell_blk hRn rfl
  have f3 : w.frozen? ⟨Rn, 3, none⟩ = false := froz_blk hRn _
  have hrc' : (rc : Int) ≤ 1000 := by omega
  obtain ⟨W, hWe⟩ : ∃ W, W = (w.setCell ⟨Rn, 3, none⟩ (.int .i64 ((rc : Int) + 1))).alloc (.cells #[.int .i64 (fr : Int)] 3) := ⟨_, rfl⟩
  have hWs : (w.setCell ⟨Rn, 3, none⟩ (.int .i64 ((rc : Int) + 1))).heap.size = w.heap.size := by simp [World.setCell]
  have hWu : Upd [Rn] w W := by rw [hWe]; exact ((Upd.refl _ w).setCell (p := ⟨Rn, 3, none⟩) (by simp) _).alloc _
  have hWR : W.heap[Rn]? = some (.cells (runC X smp (rc + 1)) 32 (0, 0)) := by
    rw [hWe, Below.heap_alloc _ _ _ (by rw [hWs]; exact lt_of_block hRn), set_blk hRn]
    simp [runC]
  have hWm : W.heap[w.heap.size]? = some (.cells #[.int .i64 (fr : Int)] 3 (0, 0)) := by
    have := heap_alloc_new (w.setCell ⟨Rn, 3, none⟩ (.int .i64 ((rc : Int) + 1))) (.cells #[.int .i64 (fr : Int)] 3)
    rw [hWs] at this
    rw [hWe]; exact this
  have hRn' : ∀ g, stv.ownBlock = some g → g ∉ [Rn] := fun g hg hm => hRs (by simp at hm; subst hm; simp [hg])
  have hra := hide (radd_any W Rn X H n i p B (rc + 1) 1 1 (some ⟨w.heap.size, 0, none⟩) smp stv msv cs hWR (hWu.blk hX (by simpa using fun e => hRX e.symm)) (hWu.own hown hRn') hi (Nat.le_trans hB hWu.size))
  have hol := hide (fun g (hg : stv.ownBlock = some g) => (hown.lt g hg).2)
  have hXl := lt_of_block hX
  replace hRn := hide hRn; replace hX := hide hX; replace hown := hide hown; replace hWu := hide hWu; replace hWR := hide hWR; replace hWm := hide hWm; replace hRs := hide hRs
  go_enter Ybaf.func11, Ybaf.ntmps11
  go_wp2_with fail
  rw [← hWe]
  refine hra.out.mono ?_
  rintro e w1 ⟨stv', rfl, hX1, ho1, hu1⟩
  replace hX1 := hide hX1; replace ho1 := hide ho1; replace hu1 := hide hu1
  clear hra hWe
  go_wp2
  go_end0
  refine ⟨stv', rfl, hu1.out.blk hWR.out ?_, hX1.out, hu1.out.blk hWm.out ?_, ho1.out, ?_⟩
  · simp only [List.mem_cons, not_or]; exact ⟨hRX, hRs.out⟩
  · simp only [List.mem_cons, not_or]
    refine ⟨by omega, fun hm => ?_⟩
    have := hol.out _ (by simpa using hm)
    omega
  · exact (hWu.out.mono (by simp)).trans (hu1.out.mono (by intro k hk; exact List.mem_cons_of_mem _ hk))

theorem nil_intn (w : World) (a : Addr) : (nilAhead 194 24 (.pointer (some a)) "IntN").run Ybaf.prog w = .ok (some false) w := by kernel_rfl
theorem method_intn (w : World) (a : Addr) : (method 194 24 (.pointer (some a)) "IntN").run Ybaf.prog w = .ok (48, .pointer (some a)) w := by kernel_rfl
/-- What a draw leaves. -/
def DP (w w' : World) (Rb : Nat) (a2 : Option Addr) (len cap k ch B : Nat) (args l : List Nat) (argsv : Value) (e : Ending) : Prop := ∃ argsv', e = .returned (.int .i64 ((l.getD (ch % l.length) 0 : Nat) : Int)) ∧ w'.heap[Rb]? = some (.cells (rdCells a2 len cap (k + 1) argsv') 27 (0, 0)) ∧ w'.ownsRow B 3 1 argsv' (k + 1) (ints .i64 (args ++ [l.length])) ∧
  Upd (Rb :: argsv.ownBlock.toList) w w' ∧ (argsv'.ownBlock = argsv.ownBlock ∨ ∃ g, argsv'.ownBlock = some g ∧ w.heap.size ≤ g)
set_option maxHeartbeats 1000000 in
theorem draw_any (w : World) (Bx E n Rb k ch len cap B : Nat) (a2 : Option Addr) (args l : List Nat) (argsv : Value) (h : EA w Bx E n l)
    (hR : w.heap[Rb]? = some (.cells (rdCells a2 len cap k argsv) 27 (0, 0))) (hown : w.ownsRow B 3 1 argsv k (ints .i64 args)) (hch : Ans w a2 len k ch B) (hRB : B ≤ Rb) (hc5 : ch ≤ 255) (hk : k ≤ 1000) (hl0 : 0 < l.length) (hl1 : n ≤ 1000) (hB : B ≤ w.heap.size) (hlen : len ≤ 5000) (hEa : argsv.ownBlock ≠ some E) :
    Calls Ybaf.prog 8 #[.slice (some ⟨E, 0, none⟩) l.length n, .iface 24 (.pointer (some ⟨Rb, 0, none⟩))] w fun e w' => DP w w' Rb a2 len cap k ch B args l argsv e := by
  obtain ⟨rest, hE, hrl⟩ := h.blk
  have hin := hide (intn_any w Rb k l.length ch len cap B a2 args argsv hR hown hch hRB hc5 hk hl0 (by omega) hB hlen)
  have hER : ¬ E = Rb := blk_ne hE hR (by decide)
  have hna := nil_intn
  have hme := method_intn
  obtain ⟨N, hN⟩ : ∃ N, N = l.length := ⟨_, rfl⟩
  rw [← hN] at hin hl0 ⊢
  have hmod : ch % N < N := Nat.mod_lt _ hl0
  have hN1 : (N : Int) ≤ 1000 := by omega
  replace h := hide h; replace hE := hide hE; replace hR := hide hR; replace hown := hide hown; replace hch := hide hch; replace hEa := hide hEa; replace hN := hide hN
  go_enter Ybaf.func8, Ybaf.ntmps8
  go_wp2_with fail
  refine hin.out.mono ?_
  rintro e w1 ⟨argsv', rfl, h1, h2, h3, h4⟩
  have hE1 := hide (h3.blk hE.out (by simp only [List.mem_cons, not_or]; exact ⟨hER, fun hm => hEa.out (by simpa using hm)⟩))
  have c1 := cell_blk hE1.out (row_get (k := .i64) (j := ch % N) (by rw [← hN.out]; exact hmod))
  obtain ⟨idx, hidx⟩ : ∃ idx, idx = ch % N := ⟨_, rfl⟩
  rw [← hidx] at c1 hmod ⊢
  have hidx' : (idx : Int) < (N : Int) := by omega
  obtain ⟨v, hv⟩ : ∃ v, v = l.getD idx 0 := ⟨_, rfl⟩
  rw [← hv] at c1
  replace h1 := hide h1; replace h2 := hide h2; replace h3 := hide h3; replace h4 := hide h4; replace hidx := hide hidx; replace hv := hide hv
  clear hin
  go_wp2
  go_ret
  refine ⟨argsv', ?_, h1.out, ?_, h3.out, h4.out⟩
  · rw [← hN.out, ← hidx.out, ← hv.out]; rfl
  · rw [← hN.out]; exact h2.out
end Go.Proofs.YbulkogyFmt
