import Derived.Test.YbulkoboFmtNextLe
namespace Go.Proofs.YbulkoboFmt
open Go.RowKit
set_option linter.unusedSimpArgs false
set_option linter.unusedVariables false

set_option maxRecDepth 100000 in
set_option maxHeartbeats 1000000 in
theorem section_be (w : World) (Pb R g n cap i gi ci : Nat) (cnt : Int) (bufv : Value) (S : List Int) (B : Nat) (hst : St w Pb R g n cap i 48 cnt (.slice (some ⟨gi, 0, none⟩) 1 ci) bufv S B)
    (G cp : Nat) (Y : List Int) (rest : List Value) (hG : w.heap[G]? = some (.cells (bs (0 :: 1 :: Y) ++ rest).toArray 5 (0, 0))) (hci : 1 ≤ ci) (hcm : ci ≤ maxLen) :
    Calls Ybaf.prog 12 #[.pointer (some ⟨Pb, 0, none⟩), .slice (some ⟨G, 0, none⟩) 12 cp] w fun e w' => e = .returned .nilIface ∧ St w' Pb R g n cap i 48 cnt (.slice (some ⟨gi, 0, none⟩) 0 ci) bufv S B ∧ Upd [Pb] w w' := by
  have p1 : w.cell? ⟨Pb, 1, none⟩ = some (.iface 48 (.agg #[])) := cell_blk hst.hP rfl
  have hna := nil_beu16
  have hme := method_beu16
  have c0 : w.cell? ⟨G, 0, none⟩ = some (.int .u8 0) := cell_blk hG rfl
  have c1 : w.cell? ⟨G, 0 + 1, none⟩ = some (.int .u8 1) := cell_blk hG rfl
  have hu16 := hide (be_u16 G 0 12 cp 0 1 w (by omega) ⟨by omega, by omega⟩ ⟨by omega, by omega⟩ c0 c1)
  rw [show le2 1 0 = 1 by rfl] at hu16
  replace hst := hide hst; replace hG := hide hG
  have hcp' : (ci : Int) ≤ 9223372036854775807 := by unfold maxLen at hcm; omega
  have hcp0 : (0 : Int) ≤ (ci : Int) := by omega
  clear c0 c1
  go_enter Ybaf.func12, Ybaf.ntmps12
  go_wp2_with fail
  refine hu16.out.mono ?_
  rintro e w1 ⟨rfl, hb1⟩
  have hst1 := hide (hst.out.below hb1)
  have p4 : w1.cell? ⟨Pb, 4, none⟩ = some (.slice (some ⟨gi, 0, none⟩) 1 ci) := cell_blk hst1.out.hP rfl
  have f4 : w1.frozen? ⟨Pb, 4, none⟩ = false := froz_blk hst1.out.hP _
  go_wp2
  go_ret
  exact ⟨rfl, hst1.out.setif _, ((Upd.of_below hb1).setCell (p := ⟨Pb, 4, none⟩) (by simp) _)⟩
end Go.Proofs.YbulkoboFmt
