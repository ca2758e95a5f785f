import Derived.Test.YbulkoboFmtKit
namespace Go.Proofs.YbulkoboFmt
open Go.RowKit
set_option linter.unusedSimpArgs false
set_option linter.unusedVariables false

def le4 (a b c d : Int) : Int := a + b * 256 + c * 65536 + d * 16777216
def le2 (a b : Int) : Int := a + b * 256
def byte (x : Int) : Prop := 0 ≤ x ∧ x < 256
theorem le4_bits {a b c d : Int} (ha : byte a) (hb : byte b) (hc : byte c) (hd : byte d) : bits .or .u32 (bits .or .u32 (bits .or .u32 a (b * 256)) (c * 65536)) (d * 16777216) = le4 a b c d := by
  obtain ⟨h0, h0'⟩ := ha
  obtain ⟨h1, h1'⟩ := hb
  obtain ⟨h2, h2'⟩ := hc
  obtain ⟨h3, h3'⟩ := hd
  simp (disch := omega) only [u32_or8, u32_or16, u32_or24]
  rfl
theorem le2_bits {a b : Int} (ha : byte a) (hb : byte b) : bits .or .u16 a (b * 256) = le2 a b := by
  obtain ⟨h0, h0'⟩ := ha
  obtain ⟨h1, h1'⟩ := hb
  simp (disch := omega) only [u16_or8]
  rfl
theorem ret_int {k : IntKind} {a b : Int} (h : a = b) : Ending.returned (.int k a) = .returned (.int k b) := by rw [h]

set_option maxHeartbeats 400000 in
theorem le_u32 (g o n c : Nat) (b0 b1 b2 b3 : Int) (w : World) (hn : 4 ≤ n) (hb0 : byte b0) (hb1 : byte b1) (hb2 : byte b2) (hb3 : byte b3)
    (c0 : w.cell? ⟨g, o, none⟩ = some (.int .u8 b0)) (c1 : w.cell? ⟨g, o + 1, none⟩ = some (.int .u8 b1)) (c2 : w.cell? ⟨g, o + 2, none⟩ = some (.int .u8 b2)) (c3 : w.cell? ⟨g, o + 3, none⟩ = some (.int .u8 b3)) :
    Calls Ybaf.prog 21 #[.agg #[], .slice (some ⟨g, o, none⟩) n c] w fun e w' => e = .returned (.int .u32 (le4 b0 b1 b2 b3)) ∧ Below w.heap.size w w' := by
  have hb := le4_bits hb0 hb1 hb2 hb3
  replace hb := hide hb
  obtain ⟨h0, h0'⟩ := hb0
  obtain ⟨h1, h1'⟩ := hb1
  obtain ⟨h2, h2'⟩ := hb2
  obtain ⟨h3, h3'⟩ := hb3
  have hg : g < w.heap.size := World.block_lt_of_cell? w _ c0
  have n3 : (3 : Int) < (n : Int) := by omega
  have n2 : (2 : Int) < (n : Int) := by omega
  have n1 : (1 : Int) < (n : Int) := by omega
  have n0 : (0 : Int) < (n : Int) := by omega
  go_enter Ybaf.func21, Ybaf.ntmps21
  go_wp2
  go_quiet (fail)
  go_wp2
  go_ret
  exact ⟨ret_int hb.out, below_drewN ((Below.refl _ w).alloc (Nat.le_refl _) _) _⟩

set_option maxHeartbeats 400000 in
theorem be_u32 (g o n c : Nat) (b0 b1 b2 b3 : Int) (w : World) (hn : 4 ≤ n) (hb0 : byte b0) (hb1 : byte b1) (hb2 : byte b2) (hb3 : byte b3)
    (c0 : w.cell? ⟨g, o, none⟩ = some (.int .u8 b0)) (c1 : w.cell? ⟨g, o + 1, none⟩ = some (.int .u8 b1)) (c2 : w.cell? ⟨g, o + 2, none⟩ = some (.int .u8 b2)) (c3 : w.cell? ⟨g, o + 3, none⟩ = some (.int .u8 b3)) :
    Calls Ybaf.prog 20 #[.agg #[], .slice (some ⟨g, o, none⟩) n c] w fun e w' => e = .returned (.int .u32 (le4 b3 b2 b1 b0)) ∧ Below w.heap.size w w' := by
  have hb := le4_bits hb3 hb2 hb1 hb0
  replace hb := hide hb
  obtain ⟨h0, h0'⟩ := hb0
  obtain ⟨h1, h1'⟩ := hb1
  obtain ⟨h2, h2'⟩ := hb2
  obtain ⟨h3, h3'⟩ := hb3
  have hg : g < w.heap.size := World.block_lt_of_cell? w _ c0
  have n3 : (3 : Int) < (n : Int) := by omega
  have n2 : (2 : Int) < (n : Int) := by omega
  have n1 : (1 : Int) < (n : Int) := by omega
  have n0 : (0 : Int) < (n : Int) := by omega
  go_enter Ybaf.func20, Ybaf.ntmps20
  go_wp2
  go_quiet (fail)
  go_wp2
  go_ret
  exact ⟨ret_int hb.out, below_drewN ((Below.refl _ w).alloc (Nat.le_refl _) _) _⟩

set_option maxHeartbeats 400000 in
theorem le_u16 (g o n c : Nat) (b0 b1 : Int) (w : World) (hn : 2 ≤ n) (hb0 : byte b0) (hb1 : byte b1)
    (c0 : w.cell? ⟨g, o, none⟩ = some (.int .u8 b0)) (c1 : w.cell? ⟨g, o + 1, none⟩ = some (.int .u8 b1)) :
    Calls Ybaf.prog 46 #[.agg #[], .slice (some ⟨g, o, none⟩) n c] w fun e w' => e = .returned (.int .u16 (le2 b0 b1)) ∧ Below w.heap.size w w' := by
  have hb := le2_bits hb0 hb1
  replace hb := hide hb
  obtain ⟨h0, h0'⟩ := hb0
  obtain ⟨h1, h1'⟩ := hb1
  have hg : g < w.heap.size := World.block_lt_of_cell? w _ c0
  have n1 : (1 : Int) < (n : Int) := by omega
  have n0 : (0 : Int) < (n : Int) := by omega
  go_enter Ybaf.func46, Ybaf.ntmps46
  go_wp2
  go_quiet (fail)
  go_wp2
  go_ret
  exact ⟨ret_int hb.out, below_drewN ((Below.refl _ w).alloc (Nat.le_refl _) _) _⟩

set_option maxHeartbeats 400000 in
theorem be_u16 (g o n c : Nat) (b0 b1 : Int) (w : World) (hn : 2 ≤ n) (hb0 : byte b0) (hb1 : byte b1)
    (c0 : w.cell? ⟨g, o, none⟩ = some (.int .u8 b0)) (c1 : w.cell? ⟨g, o + 1, none⟩ = some (.int .u8 b1)) :
    Calls Ybaf.prog 52 #[.agg #[], .slice (some ⟨g, o, none⟩) n c] w fun e w' => e = .returned (.int .u16 (le2 b1 b0)) ∧ Below w.heap.size w w' := by
  have hb := le2_bits hb1 hb0
  replace hb := hide hb
  obtain ⟨h0, h0'⟩ := hb0
  obtain ⟨h1, h1'⟩ := hb1
  have hg : g < w.heap.size := World.block_lt_of_cell? w _ c0
  have n1 : (1 : Int) < (n : Int) := by omega
  have n0 : (0 : Int) < (n : Int) := by omega
  go_enter Ybaf.func52, Ybaf.ntmps52
  go_wp2
  go_quiet (fail)
  go_wp2
  go_ret
  exact ⟨ret_int hb.out, below_drewN ((Below.refl _ w).alloc (Nat.le_refl _) _) _⟩

theorem grown_alloc2 {w w' : World} {o1 o2 : Obj} {row : Option Nat} (h : ((w.alloc o1).alloc o2).grownBy w' row) : w.grownBy w' row :=
  ⟨h.os, h.tape, h.output, by have := h.size; simp at this; omega, fun k hk hn => (h.block k (by simp; omega) hn).trans ((Below.heap_alloc _ _ _ (by simp; omega)).trans (Below.heap_alloc _ _ _ hk))⟩
theorem new_cells (w : World) (o1 : Obj) (l : List Value) (e : TypeId) {j : Nat} {u : Value} (h : l[j]? = some u) : ((w.alloc o1).alloc (.cells l.toArray e (0, 0))).cell? ((⟨w.heap.size + 1, 0, none⟩ : Addr).add j) = some u := by
  have h1 : ((w.alloc o1).alloc (.cells l.toArray e (0, 0))).heap[w.heap.size + 1]? = some (.cells l.toArray e (0, 0)) := by
    have := heap_alloc_new (w.alloc o1) (.cells l.toArray e (0, 0)); simpa using this
  rw [Addr.add_lit, Nat.zero_add]
  exact cell_blk h1 (by simpa using h)

def leB4 (v : Int) : List Int := [v % 256, v / 256 % 256, v / 65536 % 256, v / 16777216]
set_option maxHeartbeats 400000 in
theorem le_app32 (B : Nat) (sv : Value) (n : Nat) (xs : List Int) (v : Int) (w : World) (h0 : 0 ≤ v) (h1 : v < 4294967296) (hown : w.ownsRow B 5 1 sv n (bs xs)) (hn : n ≤ 1000000) (hB : B ≤ w.heap.size) :
    Calls Ybaf.prog 5 #[.agg #[], sv, .int .u32 v] w fun e w' => ∃ sv', e = .returned sv' ∧ w'.ownsRow B 5 1 sv' (n + 4) (bs (xs ++ leB4 v)) ∧ w.grownBy w' sv.ownBlock := by
  obtain ⟨i0, hi, hz0, hz1, hz2⟩ := info_parts Ybaf.info5
  obtain ⟨ao, cp, rfl⟩ := own_form hown
  replace hown := hide hown
  go_enter Ybaf.func5, Ybaf.ntmps5
  go_wp2_with (at_builtin; refine wpList_append_own _ rfl _ _ 23 rfl B 5 i0 (.int .u8 0) 1 1 Ybaf.underlying23 hi hz0 hz1 hz2 rfl (by decide) _ n (bs xs) rfl ((hown.out.alloc _).alloc _) ⟨w.heap.size + 1, 0, none⟩ 4 4 (bs (leB4 v)) rfl rfl ?h2 (bs_one _) ?h3 ?h4 ?h5 ?_)
  case h2 => intro j u hj; exact new_cells w _ (bs (leB4 v)) 5 hj
  case h3 => unfold maxLen; omega
  case h4 => omega
  case h5 => simp; omega
  intro v' w1 hown' hgrow _
  replace hown' := hide hown'
  replace hgrow := hide hgrow
  go_wp2
  go_ret
  exact ⟨v', rfl, by rw [bs_append]; exact hown'.out, grown_alloc2 hgrow.out⟩

def leB2 (v : Int) : List Int := [v % 256, v / 256]
set_option maxHeartbeats 400000 in
theorem le_app16 (B : Nat) (sv : Value) (n : Nat) (xs : List Int) (v : Int) (w : World) (h0 : 0 ≤ v) (h1 : v < 65536) (hown : w.ownsRow B 5 1 sv n (bs xs)) (hn : n ≤ 1000000) (hB : B ≤ w.heap.size) :
    Calls Ybaf.prog 6 #[.agg #[], sv, .int .u16 v] w fun e w' => ∃ sv', e = .returned sv' ∧ w'.ownsRow B 5 1 sv' (n + 2) (bs (xs ++ leB2 v)) ∧ w.grownBy w' sv.ownBlock := by
  obtain ⟨i0, hi, hz0, hz1, hz2⟩ := info_parts Ybaf.info5
  obtain ⟨ao, cp, rfl⟩ := own_form hown
  replace hown := hide hown
  go_enter Ybaf.func6, Ybaf.ntmps6
  go_wp2_with (at_builtin; refine wpList_append_own _ rfl _ _ 23 rfl B 5 i0 (.int .u8 0) 1 1 Ybaf.underlying23 hi hz0 hz1 hz2 rfl (by decide) _ n (bs xs) rfl ((hown.out.alloc _).alloc _) ⟨w.heap.size + 1, 0, none⟩ 2 2 (bs (leB2 v)) rfl rfl ?h2 (bs_one _) ?h3 ?h4 ?h5 ?_)
  case h2 => intro j u hj; exact new_cells w _ (bs (leB2 v)) 5 hj
  case h3 => unfold maxLen; omega
  case h4 => omega
  case h5 => simp; omega
  intro v' w1 hown' hgrow _
  replace hown' := hide hown'
  replace hgrow := hide hgrow
  go_wp2
  go_ret
  exact ⟨v', rfl, by rw [bs_append]; exact hown'.out, grown_alloc2 hgrow.out⟩

def beB4 (v : Int) : List Int := [v / 16777216, v / 65536 % 256, v / 256 % 256, v % 256]
set_option maxHeartbeats 400000 in
theorem be_app32 (B : Nat) (sv : Value) (n : Nat) (xs : List Int) (v : Int) (w : World) (h0 : 0 ≤ v) (h1 : v < 4294967296) (hown : w.ownsRow B 5 1 sv n (bs xs)) (hn : n ≤ 1000000) (hB : B ≤ w.heap.size) :
    Calls Ybaf.prog 8 #[.agg #[], sv, .int .u32 v] w fun e w' => ∃ sv', e = .returned sv' ∧ w'.ownsRow B 5 1 sv' (n + 4) (bs (xs ++ beB4 v)) ∧ w.grownBy w' sv.ownBlock := by
  obtain ⟨i0, hi, hz0, hz1, hz2⟩ := info_parts Ybaf.info5
  obtain ⟨ao, cp, rfl⟩ := own_form hown
  replace hown := hide hown
  go_enter Ybaf.func8, Ybaf.ntmps8
  go_wp2_with (at_builtin; refine wpList_append_own _ rfl _ _ 23 rfl B 5 i0 (.int .u8 0) 1 1 Ybaf.underlying23 hi hz0 hz1 hz2 rfl (by decide) _ n (bs xs) rfl ((hown.out.alloc _).alloc _) ⟨w.heap.size + 1, 0, none⟩ 4 4 (bs (beB4 v)) rfl rfl ?h2 (bs_one _) ?h3 ?h4 ?h5 ?_)
  case h2 => intro j u hj; exact new_cells w _ (bs (beB4 v)) 5 hj
  case h3 => unfold maxLen; omega
  case h4 => omega
  case h5 => simp; omega
  intro v' w1 hown' hgrow _
  replace hown' := hide hown'
  replace hgrow := hide hgrow
  go_wp2
  go_ret
  exact ⟨v', rfl, by rw [bs_append]; exact hown'.out, grown_alloc2 hgrow.out⟩

def beB2 (v : Int) : List Int := [v / 256, v % 256]
set_option maxHeartbeats 400000 in
theorem be_app16 (B : Nat) (sv : Value) (n : Nat) (xs : List Int) (v : Int) (w : World) (h0 : 0 ≤ v) (h1 : v < 65536) (hown : w.ownsRow B 5 1 sv n (bs xs)) (hn : n ≤ 1000000) (hB : B ≤ w.heap.size) :
    Calls Ybaf.prog 9 #[.agg #[], sv, .int .u16 v] w fun e w' => ∃ sv', e = .returned sv' ∧ w'.ownsRow B 5 1 sv' (n + 2) (bs (xs ++ beB2 v)) ∧ w.grownBy w' sv.ownBlock := by
  obtain ⟨i0, hi, hz0, hz1, hz2⟩ := info_parts Ybaf.info5
  obtain ⟨ao, cp, rfl⟩ := own_form hown
  replace hown := hide hown
  go_enter Ybaf.func9, Ybaf.ntmps9
  go_wp2_with (at_builtin; refine wpList_append_own _ rfl _ _ 23 rfl B 5 i0 (.int .u8 0) 1 1 Ybaf.underlying23 hi hz0 hz1 hz2 rfl (by decide) _ n (bs xs) rfl ((hown.out.alloc _).alloc _) ⟨w.heap.size + 1, 0, none⟩ 2 2 (bs (beB2 v)) rfl rfl ?h2 (bs_one _) ?h3 ?h4 ?h5 ?_)
  case h2 => intro j u hj; exact new_cells w _ (bs (beB2 v)) 5 hj
  case h3 => unfold maxLen; omega
  case h4 => omega
  case h5 => simp; omega
  intro v' w1 hown' hgrow _
  replace hown' := hide hown'
  replace hgrow := hide hgrow
  go_wp2
  go_ret
  exact ⟨v', rfl, by rw [bs_append]; exact hown'.out, grown_alloc2 hgrow.out⟩

def beB8 : List Int := [0, 0, 0, 0, 0, 0, 0, 0]
set_option maxHeartbeats 400000 in
theorem be_app64 (B : Nat) (sv : Value) (n : Nat) (xs : List Int) (w : World) (hown : w.ownsRow B 5 1 sv n (bs xs)) (hn : n ≤ 1000000) (hB : B ≤ w.heap.size) :
    Calls Ybaf.prog 10 #[.agg #[], sv, .int .u64 0] w fun e w' => ∃ sv', e = .returned sv' ∧ w'.ownsRow B 5 1 sv' (n + 8) (bs (xs ++ beB8)) ∧ w.grownBy w' sv.ownBlock := by
  obtain ⟨i0, hi, hz0, hz1, hz2⟩ := info_parts Ybaf.info5
  obtain ⟨ao, cp, rfl⟩ := own_form hown
  replace hown := hide hown
  go_enter Ybaf.func10, Ybaf.ntmps10
  go_wp2_with (at_builtin; refine wpList_append_own _ rfl _ _ 23 rfl B 5 i0 (.int .u8 0) 1 1 Ybaf.underlying23 hi hz0 hz1 hz2 rfl (by decide) _ n (bs xs) rfl ((hown.out.alloc _).alloc _) ⟨w.heap.size + 1, 0, none⟩ 8 8 (bs (beB8)) rfl rfl ?h2 (bs_one _) ?h3 ?h4 ?h5 ?_)
  case h2 => intro j u hj; exact new_cells w _ (bs (beB8)) 5 hj
  case h3 => unfold maxLen; omega
  case h4 => omega
  case h5 => simp; omega
  intro v' w1 hown' hgrow _
  replace hown' := hide hown'
  replace hgrow := hide hgrow
  go_wp2
  go_ret
  exact ⟨v', rfl, by rw [bs_append]; exact hown'.out, grown_alloc2 hgrow.out⟩
end Go.Proofs.YbulkoboFmt
