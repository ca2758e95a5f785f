import Derived.Test.YbulkodsSetup
namespace Go.Proofs.Ybulkods
open Go.RowKit
set_option linter.unusedSimpArgs false
set_option linter.unusedVariables false

theorem lim_of {a0 a4 : Int} {a5 : Bool} (h0 : 0 ≤ a0) (h4 : 0 ≤ a4) : 0 ≤ limOf a0 a4 a5 ∧ limOf a0 a4 a5 ≤ 2000 := by
  unfold limOf; split <;> omega

set_option maxRecDepth 100000 in
set_option maxHeartbeats 2000000 in
theorem model_law (a0 a1 a2 a3 a4 : Int) (a5 : Bool) (a6 : Int) (a7 : Option Addr) (len cap : Nat) (zs : List Int) (a8 a9 : Int) (w : World)
    (h00 : 0 ≤ a0) (h01 : a0 ≤ 65535) (h10 : 0 ≤ a1) (h11 : a1 ≤ 255) (h20 : 0 ≤ a2) (h21 : a2 ≤ 255) (h30 : 0 ≤ a3) (h31 : a3 ≤ 255) (h40 : 0 ≤ a4) (h41 : a4 ≤ 65535) (h60 : 0 ≤ a6) (h61 : a6 < 18446744073709551616) (hrow : IsRow .u8 w a7 len cap zs) (hcap : len ≤ maxLen) :
    Calls Yba.prog 3 #[.int .u16 a0, .int .u8 a1, .int .u8 a2, .int .u8 a3, .int .u16 a4, .bool a5, .int .u64 a6, .slice a7 len cap, .int .i64 a8, .int .i64 a9] w fun e w' => e = .returned (.bool true) ∧ Below w.heap.size w w' := by
  have hcap' : (len : Int) ≤ 9223372036854775807 := by unfold maxLen at hcap; omega
  by_cases hlen : len ≤ 1024
  · have hlg : ¬ (1024 : Int) < (len : Int) := by omega
    have hsu := hide (setup_walk a0 a1 a2 a3 a4 a5 a6 a7 len cap zs a8 a9 w h00 h01 h10 h11 h20 h21 h30 h31 h40 h41 hrow hlen)
    have hrb := hide (row_byte hrow)
    have hlim := hide (lim_of (a5 := a5) h00 h40)
    have hf0 : 0 ≤ a0 % 1000 := by omega
    have hf1 : a0 % 1000 ≤ 1000 := by omega
    have hm0 : 0 < a2 % 8 + 1 := by omega
    have hm8 : a2 % 8 + 1 ≤ 8 := by omega
    go_enter Yba.func3, Yba.ntmps3
    go_wp2_with (go_at_call 5; refine hsu.out.mono ?_; rintro e w1 ⟨T, V, J, ah, ch, vc, H, rfl, hSU⟩; replace hSU := hide hSU)
    clear hsu hrow
    have hm := hide hSU.out.2.2.2.2.2.1
    have hll := hide hSU.out.2.2.2.2.2.2
    have hJ := hide hSU.out.2.2.2.1
    have c2 : w1.cell? ⟨J, 2, none⟩ = some (.int .i64 (a0 % 1000 + a1)) := cell_blk hJ.out rfl
    have c1 : w1.cell? ⟨J, 1, none⟩ = some (.int .i64 (a0 % 1000)) := cell_blk hJ.out rfl
    have c4 : w1.cell? ⟨J, 4, none⟩ = some (.int .i64 (a2 % 8 + 1)) := cell_blk hJ.out rfl
    have c3 : w1.cell? ⟨J, 3, none⟩ = some (.int .i64 (a3 % (a2 % 8 + 1))) := cell_blk hJ.out rfl
    have c9 : w1.cell? ⟨J, 9, none⟩ = some (.int .i64 (limOf a0 a4 a5)) := cell_blk hJ.out rfl
    have c10 : w1.cell? ⟨J, 10, none⟩ = some (.int .u64 a6) := cell_blk hJ.out rfl
    have hmod := hide (fun n => model_walk (w1.drewN n) w.heap.size ah ch H (a0 % 1000) (a0 % 1000 + a1) (a3 % (a2 % 8 + 1)) (a2 % 8 + 1) (limOf a0 a4 a5) a6 (hSU.out.1.drewN n).oh hll.out hm0 hm8 hf0 hf1 (by omega) (by omega) hlim.out.1 hlim.out.2 h60 h61)
    have hserve := hide (fun n => held_walk (w1.drewN n) T w.heap.size V J (.slice ah H.length ch) a8 a9 (a0 % 1000) (a0 % 1000 + a1) (a3 % (a2 % 8 + 1)) (a2 % 8 + 1) (limOf a0 a4 a5) a6 H vc (hSU.out.1.drewN n) hSU.out.2.1 hSU.out.2.2.1 hSU.out.2.2.2.1 hm0 hm8 hf0 hf1 (by omega) (by omega) hlim.out.1 hlim.out.2 h60 h61 hm.out hll.out)
    generalize M H (a2 % 8 + 1) (a3 % (a2 % 8 + 1)) (limOf a0 a4 a5) (fbit (a0 % 1000) (a2 % 8 + 1) a6) (a0 % 1000 + 255) (a0 % 1000 + a1) = p at hmod hserve
    go_wp2_with fail
    go_quiet ((go_at_call 6; exact Calls.quiet_of_same ((hmod.out _).mono fun e w' h => ⟨h.1, h.2.symm⟩)))
    go_wp2_with (go_at_call 7; refine (hserve.out nq).mono ?_; rintro e w2 ⟨fv, av, A, ans, rfl, hrest⟩; replace hrest := hide hrest)
    go_ret
    exact ⟨by simp, (below_drewN hSU.out.2.2.2.2.1 nq).trans hrest.out.2.2.2.2.2.1⟩
  · have hlg : (1024 : Int) < (len : Int) := by omega
    go_enter Yba.func3, Yba.ntmps3
    go_wp2
    go_ret
    exact ⟨rfl, Below.refl _ _⟩
end Go.Proofs.Ybulkods
