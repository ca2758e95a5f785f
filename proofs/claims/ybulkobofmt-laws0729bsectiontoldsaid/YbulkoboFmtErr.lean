import Derived.Test.YbulkoboFmtPacket
import Derived.Stop.CallBack
import Derived.Stop.FmtLaws
namespace Go.Proofs.YbulkoboFmt
open Go.RowKit Go.Extern.Stop Go.Stop Go.Extern
set_option linter.unusedSimpArgs false
set_option linter.unusedVariables false

theorem call23 (args : Array Value) (w : World) : (callFunc 23 args).run Ybaf.prog w = ((FmtStop.errorf #[9, 71] #[44] args).run Ybaf.prog w).andThen fun v w' => .ok (.value v) w' :=
  run_callFunc_extern Ybaf.func23 (by kernel_rfl) (by kernel_rfl) (by kernel_rfl) (by kernel_rfl) args w
theorem guardOk (name : String) (w : World) : (FmtStop.guard name).run Ybaf.prog w = .ok () w := by kernel_rfl
def fmtA : ByteArray := ⟨#[112, 97, 99, 107, 101, 116, 32, 37, 100, 58, 32, 105, 116, 32, 110, 97, 109, 101, 115, 32, 105, 110, 116, 101, 114, 102, 97, 99, 101, 32, 37, 100, 59, 32, 116, 104, 101, 32, 115, 101, 99, 116, 105, 111, 110, 32, 100, 101, 115, 99, 114, 105, 98, 101, 115, 32, 37, 100]⟩
def fmtB : ByteArray := ⟨#[112, 97, 99, 107, 101, 116, 32, 37, 100, 58, 32, 37, 100, 32, 98, 121, 116, 101, 115, 32, 99, 97, 112, 116, 117, 114, 101, 100, 32, 105, 110, 32, 97, 32, 98, 108, 111, 99, 107, 32, 111, 102, 32, 37, 100]⟩
theorem fmtA_printed (w : World) : (FmtDoors.printed fmtA 3).run Ybaf.prog w = .ok [(0, 100, false), (1, 100, false), (2, 100, false)] w := by kernel_rfl
theorem fmtB_printed (w : World) : (FmtDoors.printed fmtB 3).run Ybaf.prog w = .ok [(0, 100, false), (1, 100, false), (2, 100, false)] w := by kernel_rfl
def shape3 : List UInt8 := [5, 3, 0, 0, 0, 0, 0, 0, 0, 105, 110, 116]
def shape24 : List UInt8 := [8, 6, 0, 0, 0, 0, 0, 0, 0, 117, 105, 110, 116, 51, 50]
theorem op3 (name : String) (x : Int) (w : World) : (FmtStop.operand name true 100 false (.iface 3 (.int .i64 x))).run Ybaf.prog w = .ok (shape3, Go.Extern.Stop.digits 8 (x % 2 ^ 64).toNat) w := by kernel_rfl
theorem op24 (name : String) (x : Int) (w : World) : (FmtStop.operand name true 100 false (.iface 24 (.int .u32 x))).run Ybaf.prog w = .ok (shape24, Go.Extern.Stop.digits 8 (x % 2 ^ 64).toNat) w := by kernel_rfl
theorem ptr81 (w : World) : (FmtStop.ptrTo "errors.errorString").run Ybaf.prog w = .ok 81 w := by kernel_rfl
theorem elem81 (w : World) : (elemOf 81).run Ybaf.prog w = .ok 83 w := by kernel_rfl

theorem errorf_run (f : ByteArray) (hp : ∀ w, (FmtDoors.printed f 3).run Ybaf.prog w = .ok [(0, 100, false), (1, 100, false), (2, 100, false)] w) (V : Nat) (a b c : Int) (w : World)
    (c0 : w.cell? ⟨V, 0, none⟩ = some (.iface 3 (.int .i64 a))) (c1 : w.cell? ⟨V, 1, none⟩ = some (.iface 24 (.int .u32 b))) (c2 : w.cell? ⟨V, 2, none⟩ = some (.iface 3 (.int .i64 c))) :
    ∃ s, (FmtStop.errorf #[9, 71] #[44] #[.string f, .slice (some ⟨V, 0, none⟩) 3 3]).run Ybaf.prog w = .ok (.iface 81 (.pointer (some ⟨w.heap.size, 0, none⟩))) (w.alloc (.cells #[.string s] 83)).drew := by
  apply Exists.intro
  rw [FmtStop.errorf_lit]
  simp [FmtStop.cells, guardOk, hp, FmtStop.readAll, op3, op24, ptr81, elem81, c0, c1, c2, go_sem, FmtStop.text]
  rfl

theorem errorf_any (f : ByteArray) (hp : ∀ w, (FmtDoors.printed f 3).run Ybaf.prog w = .ok [(0, 100, false), (1, 100, false), (2, 100, false)] w) (V : Nat) (a b c : Int) (w : World)
    (c0 : w.cell? ⟨V, 0, none⟩ = some (.iface 3 (.int .i64 a))) (c1 : w.cell? ⟨V, 1, none⟩ = some (.iface 24 (.int .u32 b))) (c2 : w.cell? ⟨V, 2, none⟩ = some (.iface 3 (.int .i64 c))) :
    Calls Ybaf.prog 13 #[.string f, .slice (some ⟨V, 0, none⟩) 3 3] w fun e w' => e = .returned (.iface 81 (.pointer (some ⟨w.heap.size, 0, none⟩))) ∧ Below w.heap.size w w' := by
  obtain ⟨s, hs⟩ := errorf_run f hp V a b c w c0 c1 c2
  have hc : (callFunc 23 #[.string f, .slice (some ⟨V, 0, none⟩) 3 3]).run Ybaf.prog w = .ok (.value (.iface 81 (.pointer (some ⟨w.heap.size, 0, none⟩)))) (w.alloc (.cells #[.string s] 83)).drew := by
    rw [call23, hs]; rfl
  clear hs hp c0 c1 c2
  go_enter Ybaf.func13, Ybaf.ntmps13
  go_wp2
  go_ret
  exact ⟨rfl, ((Below.refl _ w).alloc (Nat.le_refl _) _).drew⟩
end Go.Proofs.YbulkoboFmt
