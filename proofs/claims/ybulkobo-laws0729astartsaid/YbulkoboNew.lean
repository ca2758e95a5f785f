import Derived.Test.YbulkoboWalks
namespace Go.Proofs.Ybulkobo
open Go.RowKit
set_option linter.unusedSimpArgs false
set_option linter.unusedVariables false

def zero8 : List Value := [.int .u8 0, .int .u8 0, .int .u8 0, .int .u8 0, .int .u8 0, .int .u8 0, .int .u8 0, .int .u8 0]
def cntCells (S : Nat) (O : List Value) (n : Int) : List Value := .iface 24 (.pointer (some ⟨S, 0, none⟩)) :: (O ++ zero8 ++ [.int .i64 n, .int .i64 0])

theorem nil_ahead (a : Addr) (w : World) : (nilAhead 153 24 (.pointer (some a)) "Encrypt").run Yba.prog w = .ok (some false) w := by kernel_rfl
theorem method_enc (a : Addr) (w : World) : (method 153 24 (.pointer (some a)) "Encrypt").run Yba.prog w = .ok (20, .pointer (some a)) w := by kernel_rfl

theorem isRow_below {B : Nat} {k : IntKind} {w w' : World} {a : Option Addr} {len cap : Nat} {zs : List Int} (h : IsRow B k w a len cap zs) (hb : Below B w w') : IsRow B k w' a len cap zs := by
  rcases h with h | ⟨x, h1, h2, h3, h4, h5, h6, h7⟩
  · exact .inl h
  · exact .inr ⟨x, h1, h2, h3, h4, h5, fun i hi => (hb.cell (by rw [add_block]; exact h2 (by omega))).trans (h6 i hi), h7⟩

theorem pre_new {B S : Nat} {a : Option Addr} {len cap : Nat} {zs : List Int} {w : World} {o : Obj} {c : Array Value} (hB : B ≤ w.heap.size) (hS : w.heap[S]? = some (.cells c 26 (0, 0))) (hrow : IsRow B .u8 w a len cap zs) :
    B ≤ (w.alloc o).drew.heap.size ∧ (w.alloc o).drew.heap[S]? = some (.cells c 26 (0, 0)) ∧ (w.alloc o).drew.heap[w.heap.size]? = some o ∧ IsRow B .u8 (w.alloc o).drew a len cap zs ∧ Below B w (w.alloc o).drew := by
  have hb : Below B w (w.alloc o).drew := ((Below.refl B w).alloc hB o).drew
  refine ⟨Nat.le_trans hB hb.size, ?_, heap_alloc_new w o, isRow_below hrow hb, hb⟩
  exact (Below.heap_alloc w o S (lt_of_block hS)).trans hS

set_option maxHeartbeats 400000 in
theorem new_any (B S : Nat) (hBS : B ≤ S) (O : List Value) (hO : O.length = 8) (hO1 : ∀ v ∈ O, v.oneCell' = true) (a : Option Addr) (len cap : Nat) (zs : List Int) (w : World)
    (hlen : len ≤ 1024) (hB : B ≤ w.heap.size)
    (hS : w.heap[S]? = some (.cells (stubCells O 0 (.slice none 0 0) 0) 26 (0, 0))) (hrow : IsRow B .u8 w a len cap zs) :
    Calls Yba.prog 4 #[.iface 24 (.pointer (some ⟨S, 0, none⟩)), .slice a len cap] w fun e w' => e = .returned (.pointer (some ⟨w.heap.size, 0, none⟩)) ∧
      ∃ v, w'.heap[S]? = some (.cells (stubCells O 1 v 8) 26 (0, 0)) ∧ w'.heap[w.heap.size]? = some (.cells (cntCells S O len).toArray 32 (0, 0)) ∧ w'.ownsRow B 5 1 v len ((zs.take len).map (Value.int .u8)) ∧ Below B w w' := by
  replace hS := hide hS
  have hna := nil_ahead ⟨S, 0, none⟩
  have hme := method_enc ⟨S, 0, none⟩
  have hSl : S < w.heap.size := lt_of_block hS.out
  have hp := hide (pre_new (o := .cells (cntCells S zero8 len).toArray 32 (0, 0)) hB hS.out hrow)
  clear hrow
  go_enter Yba.func4, Yba.ntmps4
  go_wp2_with fail
  go_region_with (go_at_call 20; refine (encrypt_any B S w.heap.size (by omega) hBS hB O (cntCells S zero8 len) hO hO1 (by simp [cntCells, zero8]) a len cap zs _ hlen hp.out.1 hp.out.2.1 hp.out.2.2.1 hp.out.2.2.2.1).mono ?_; rintro e w' ⟨rfl, hrest⟩)
  go_wp2
  go_ret
  obtain ⟨v, r1, r2, r3, r4⟩ := hrest
  refine ⟨rfl, v, r1, ?_, r3, hp.out.2.2.2.2.trans r4⟩
  rw [r2]
  simp [splice, cntCells, zero8, hO]
end Go.Proofs.Ybulkobo
