import Derived.Test.YbulkogyClock
namespace Go.Proofs.Ybulkogy
open Go.RowKit
set_option linter.unusedSimpArgs false
set_option linter.unusedVariables false

/-- A box with one cell. -/
def box1 (w : World) (b : Nat) (t : TypeId) (v : Value) : Prop := w.heap[b]? = some (.cells #[v] t (0, 0))
theorem box1.cell {w : World} {b : Nat} {t : TypeId} {v : Value} (h : box1 w b t v) : w.cell? ⟨b, 0, none⟩ = some v := cell_blk h rfl
theorem box1.froz {w : World} {b : Nat} {t : TypeId} {v : Value} (h : box1 w b t v) : w.frozen? ⟨b, 0, none⟩ = false := froz_blk h _

theorem clo1 (w : World) (p P Bp : Nat) (hP : box1 w Bp 3 (.int .i64 (P : Int))) :
    Calls Yba.prog 10 #[.int .i64 (p : Int), .pointer (some ⟨Bp, 0, none⟩)] w fun e w' => e = .returned (.iface 50 (.pointer (some ⟨w.heap.size, 0, none⟩))) ∧ w' = w.alloc (.cells (ckCells p P 0).toArray 52 (0, 0)) := by
  have c := hP.cell
  replace hP := hide hP
  go_enter Yba.func10, Yba.ntmps10
  go_wp2
  go_ret
  exact ⟨rfl, rfl⟩

def asked (k y f t : Int) : Bool := decide (k = y ∨ (f ≤ k ∧ k < t))
theorem clo2 (w : World) (k y f t : Int) (By Bf Bt : Nat) (hy : box1 w By 3 (.int .i64 y)) (hf : box1 w Bf 3 (.int .i64 f)) (ht : box1 w Bt 3 (.int .i64 t)) :
    Calls Yba.prog 11 #[.int .i64 k, .pointer (some ⟨By, 0, none⟩), .pointer (some ⟨Bf, 0, none⟩), .pointer (some ⟨Bt, 0, none⟩)] w fun e w' => e = .returned (.bool (asked k y f t)) ∧ w' = w := by
  have cy := hy.cell
  have cf := hf.cell
  have ct := ht.cell
  replace hy := hide hy; replace hf := hide hf; replace ht := hide ht
  by_cases h1 : k = y
  · have e : asked k y f t = true := by simp [asked, h1]
    rw [e]
    clear e
    subst h1
    go_enter Yba.func11, Yba.ntmps11
    go_wp2
    go_ret
    exact ⟨rfl, rfl⟩
  · by_cases h2 : f ≤ k
    · by_cases h3 : k < t
      · have e : asked k y f t = true := by simp [asked, h2, h3]
        rw [e]
        clear e
        go_enter Yba.func11, Yba.ntmps11
        go_wp2
        go_ret
        exact ⟨rfl, rfl⟩
      · have e : asked k y f t = false := by simp [asked, h1, h3]
        rw [e]
        clear e
        have hb : (k == y) = false := by simpa using h1
        go_enter Yba.func11, Yba.ntmps11
        go_wp2
        go_ret
        exact ⟨by simp [h1], rfl⟩
    · have e : asked k y f t = false := by simp [asked, h1, h2]
      rw [e]
      clear e
      go_enter Yba.func11, Yba.ntmps11
      go_wp2
      go_ret
      exact ⟨by simp [h1], rfl⟩

def ownNext (k y : Int) (c own : Nat) : Nat := if k = y then c else own
def cntNext (k f t : Int) (c : Nat) (cs : List Nat) : List Nat := if f ≤ k ∧ k < t then cs.set (k - f).toNat c else cs
theorem ints_set (k : IntKind) (cs : List Nat) (i c : Nat) : (ints k cs).toArray.setIfInBounds i (.int k (c : Int)) = (ints k (cs.set i c)).toArray := by simp [ints]
theorem clo3 (w : World) (k y f t : Int) (By Bo Bf Bt Bc C N own c : Nat) (cs : List Nat) (hy : box1 w By 3 (.int .i64 y)) (hf : box1 w Bf 3 (.int .i64 f)) (ht : box1 w Bt 3 (.int .i64 t))
    (ho : box1 w Bo 45 (.int .u32 (own : Int))) (hc : box1 w Bc 46 (.slice (some ⟨C, 0, none⟩) N N)) (hC : w.heap[C]? = some (.cells (ints .u32 cs).toArray 45 (0, 0))) (hl : cs.length = N) (hN : t - f = (N : Int)) (hf1 : -1 ≤ f) (hf2 : f ≤ 1000) (hk0 : 0 ≤ k) (hk1 : k ≤ 1000) (hoC : Bo ≠ C) (hN1 : N ≤ 1000) :
    Calls Yba.prog 12 #[.int .i64 k, .int .u32 (c : Int), .pointer (some ⟨By, 0, none⟩), .pointer (some ⟨Bo, 0, none⟩), .pointer (some ⟨Bf, 0, none⟩), .pointer (some ⟨Bt, 0, none⟩), .pointer (some ⟨Bc, 0, none⟩)] w fun e w' => e = .returned (.tuple #[]) ∧
      box1 w' Bo 45 (.int .u32 ((ownNext k y c own : Nat) : Int)) ∧ w'.heap[C]? = some (.cells (ints .u32 (cntNext k f t c cs)).toArray 45 (0, 0)) ∧ Upd [Bo, C] w w' := by
  have cy := hy.cell
  have cf := hf.cell
  have ct := ht.cell
  have co := ho.cell
  have fo := ho.froz
  have cc := hc.cell
  have ne1 : ¬ Bf = Bo := by rintro rfl; unfold box1 at hf ho; rw [hf] at ho; simp at ho
  have ne2 : ¬ Bt = Bo := by rintro rfl; unfold box1 at ht ho; rw [ht] at ho; simp at ho
  have ne3 : ¬ Bc = Bo := by rintro rfl; unfold box1 at hc ho; rw [hc] at ho; simp at ho
  have ne1' : ¬ Bo = Bf := fun h => ne1 h.symm
  have ne2' : ¬ Bo = Bt := fun h => ne2 h.symm
  have ne3' : ¬ Bo = Bc := fun h => ne3 h.symm
  have hCc := hide (fun (j : Nat) (hj : j < N) => (cell_blk hC (show (ints .u32 cs).toArray[j]? = some (.int .u32 ((cs[j]'(by omega) : Nat) : Int)) by simp [ints, hl, hj]) : w.cell? ⟨C, j, none⟩ = _))
  have fC := hide (fun (j : Nat) => froz_blk hC j)
  replace hy := hide hy; replace hf := hide hf; replace ht := hide ht; replace ho := hide ho; replace hc := hide hc; replace hC := hide hC
  by_cases h1 : k = y
  · have e : ownNext k y c own = c := by simp [ownNext, h1]
    rw [e]
    clear e
    subst h1
    have ho1 : Hid (box1 (w.setCell ⟨Bo, 0, none⟩ (.int .u32 (c : Int))) Bo 45 (.int .u32 (c : Int))) := by unfold box1; rw [set_blk ho.out]; rfl
    have hC1 : Hid ((w.setCell ⟨Bo, 0, none⟩ (.int .u32 (c : Int))).heap[C]? = some (.cells (ints .u32 cs).toArray 45 (0, 0))) := (set_blk_ne (Ne.symm hoC)).trans hC.out
    have hu1 : Hid (Upd [Bo, C] w (w.setCell ⟨Bo, 0, none⟩ (.int .u32 (c : Int)))) := (Upd.refl _ w).setCell (p := ⟨Bo, 0, none⟩) (by simp) _
    by_cases h2 : f ≤ k ∧ k < t
    · have e2 : cntNext k f t c cs = cs.set (k - f).toNat c := by simp [cntNext, h2]
      rw [e2]
      clear e2
      obtain ⟨h2, h3⟩ := h2
      obtain ⟨j, hj⟩ : ∃ j : Nat, k - f = j := ⟨(k - f).toNat, by omega⟩
      have hjN : j < N := by omega
      have hjN' : (j : Int) < (N : Int) := by omega
      have hcj := hCc.out j hjN
      have hfj := fC.out j
      have hnj : ¬ C = Bo := fun h => hoC h.symm
      go_enter Yba.func12, Yba.ntmps12
      go_wp2
      go_end0
      refine ⟨rfl, ?_, ?_, hu1.out.setCell (p := ⟨C, j, none⟩) (by simp) _⟩
      · unfold box1; rw [set_blk_ne hoC]; exact ho1.out
      · rw [set_blk hC1.out, ints_set, hj]; rfl
    · have e2 : cntNext k f t c cs = cs := by simp [cntNext, h2]
      rw [e2]
      clear e2
      by_cases h3 : f ≤ k
      · have h4 : ¬ k < t := fun h => h2 ⟨h3, h⟩
        clear h2
        go_enter Yba.func12, Yba.ntmps12
        go_wp2
        go_end0
        exact ⟨rfl, ho1.out, hC1.out, hu1.out⟩
      · clear h2
        go_enter Yba.func12, Yba.ntmps12
        go_wp2
        go_end0
        exact ⟨rfl, ho1.out, hC1.out, hu1.out⟩
  · have e : ownNext k y c own = own := by simp [ownNext, h1]
    rw [e]
    clear e
    by_cases h2 : f ≤ k ∧ k < t
    · have e2 : cntNext k f t c cs = cs.set (k - f).toNat c := by simp [cntNext, h2]
      rw [e2]
      clear e2
      obtain ⟨h2, h3⟩ := h2
      obtain ⟨j, hj⟩ : ∃ j : Nat, k - f = j := ⟨(k - f).toNat, by omega⟩
      have hjN : j < N := by omega
      have hjN' : (j : Int) < (N : Int) := by omega
      have hcj := hCc.out j hjN
      have hfj := fC.out j
      go_enter Yba.func12, Yba.ntmps12
      go_wp2
      go_end0
      refine ⟨rfl, ?_, ?_, (Upd.refl _ w).setCell (p := ⟨C, j, none⟩) (by simp) _⟩
      · unfold box1; rw [set_blk_ne hoC]; exact ho.out
      · rw [set_blk hC.out, ints_set, hj]; rfl
    · have e2 : cntNext k f t c cs = cs := by simp [cntNext, h2]
      rw [e2]
      clear e2
      by_cases h3 : f ≤ k
      · have h4 : ¬ k < t := fun h => h2 ⟨h3, h⟩
        clear h2
        go_enter Yba.func12, Yba.ntmps12
        go_wp2
        go_end0
        exact ⟨rfl, ho.out, hC.out, Upd.refl _ _⟩
      · clear h2
        go_enter Yba.func12, Yba.ntmps12
        go_wp2
        go_end0
        exact ⟨rfl, ho.out, hC.out, Upd.refl _ _⟩
end Go.Proofs.Ybulkogy
