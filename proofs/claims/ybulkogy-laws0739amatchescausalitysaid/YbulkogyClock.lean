import Derived.Test.YbulkogyKit
namespace Go.Proofs.Ybulkogy
open Go.RowKit
set_option linter.unusedSimpArgs false
set_option linter.unusedVariables false

/-- A clock's cells: its process, the process it counts, the count. -/
def ckCells (p P c : Nat) : List Value := [.int .i64 (p : Int), .int .i64 (P : Int), .int .u32 (c : Int)]

theorem nil_merge (w : World) (a : Addr) : (nilAhead 179 50 (.pointer (some a)) "Merge").run Yba.prog w = .ok (some false) w := by kernel_rfl
theorem method_merge (w : World) (a : Addr) : (method 179 50 (.pointer (some a)) "Merge").run Yba.prog w = .ok (29, .pointer (some a)) w := by kernel_rfl
theorem nil_tick (w : World) (a : Addr) : (nilAhead 179 50 (.pointer (some a)) "Tick").run Yba.prog w = .ok (some false) w := by kernel_rfl
theorem method_tick (w : World) (a : Addr) : (method 179 50 (.pointer (some a)) "Tick").run Yba.prog w = .ok (30, .pointer (some a)) w := by kernel_rfl

set_option maxHeartbeats 400000 in
theorem merge_any (b p P c x : Nat) (w : World) (hb : w.heap[b]? = some (.cells (ckCells p P c).toArray 52 (0, 0))) :
    Calls Yba.prog 29 #[.pointer (some ⟨b, 0, none⟩), .int .u32 (x : Int)] w fun e w' => e = .returned (.tuple #[]) ∧ w'.heap[b]? = some (.cells (ckCells p P (max c x)).toArray 52 (0, 0)) ∧ Upd [b] w w' := by
  have c2 : w.cell? ⟨b, 2, none⟩ = some (.int .u32 (c : Int)) := cell_blk hb rfl
  have f2 : w.frozen? ⟨b, 2, none⟩ = false := froz_blk hb _
  replace hb := hide hb
  by_cases hcx : c < x
  · have hcx' : (c : Int) < (x : Int) := by omega
    rw [Nat.max_eq_right (by omega)]
    go_enter Yba.func29, Yba.ntmps29
    go_wp2
    go_end0
    exact ⟨rfl, by rw [set_blk hb.out]; rfl, (Upd.refl _ w).setCell (p := ⟨b, 2, none⟩) (by simp) _⟩
  · have hcx' : ¬ (c : Int) < (x : Int) := by omega
    rw [Nat.max_eq_left (by omega)]
    go_enter Yba.func29, Yba.ntmps29
    go_wp2
    go_end0
    exact ⟨rfl, by rw [set_blk hb.out]; rfl, (Upd.refl _ w).setCell (p := ⟨b, 2, none⟩) (by simp) _⟩

set_option maxHeartbeats 400000 in
theorem tick_any (b p P c : Nat) (hp : p ≤ 10) (hP : P ≤ 10) (hc : c ≤ 1000) (w : World) (hb : w.heap[b]? = some (.cells (ckCells p P c).toArray 52 (0, 0))) :
    Calls Yba.prog 30 #[.pointer (some ⟨b, 0, none⟩)] w fun e w' => e = .returned (.int .u32 ((if p = P then c + 1 else c : Nat) : Int)) ∧ w'.heap[b]? = some (.cells (ckCells p P (if p = P then c + 1 else c)).toArray 52 (0, 0)) ∧ Upd [b] w w' := by
  have c0 : w.cell? ⟨b, 0, none⟩ = some (.int .i64 (p : Int)) := cell_blk hb rfl
  have c1 : w.cell? ⟨b, 1, none⟩ = some (.int .i64 (P : Int)) := cell_blk hb rfl
  have c2 : w.cell? ⟨b, 2, none⟩ = some (.int .u32 (c : Int)) := cell_blk hb rfl
  have f2 : w.frozen? ⟨b, 2, none⟩ = false := froz_blk hb _
  have hs := hide (set_blk hb 2 (.int .u32 ((c + 1 : Nat) : Int)))
  have hc' : (c : Int) ≤ 1000 := by omega
  replace hb := hide hb
  by_cases he : p = P
  · subst he
    simp only [if_true]
    go_enter Yba.func30, Yba.ntmps30
    go_wp2
    go_quiet (fail)
    go_wp2
    go_ret
    rw [show ((c + 1 : Nat) : Int) = (c : Int) + 1 by omega] at hs ⊢
    refine ⟨rfl, ?_, ((Upd.refl _ w).drewN nq).setCell (p := ⟨b, 2, none⟩) (by simp) _⟩
    rw [set_blk (w := w.drewN nq) hb.out]
    simp [ckCells]
  · have he' : ¬ (p : Int) = (P : Int) := by omega
    simp only [he, if_false]
    go_enter Yba.func30, Yba.ntmps30
    go_wp2
    go_quiet (fail)
    go_wp2
    go_ret
    exact ⟨rfl, hb.out, (Upd.refl _ _).drewN nq⟩
end Go.Proofs.Ybulkogy
