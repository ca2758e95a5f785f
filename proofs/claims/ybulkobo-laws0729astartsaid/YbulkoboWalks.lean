import Derived.Test.YbulkoboRows
import Derived.WalkKit
import Derived.WalkSpells
import Derived.WalkLawsBesides
import Derived.Laws.CopyOwn
import Derived.Laws.AppendOwnNone
import Derived.Deep.QuietTactic
import Derived.BigQuiet
import Derived.Deep.RegionWith
namespace Go.Proofs.Ybulkobo
open Go.RowKit
set_option linter.unusedSimpArgs false
set_option linter.unusedVariables false

theorem hide {p : Prop} (h : p) : Hid p := h

/-! ### blocks -/
theorem cell_blk {w : World} {b o : Nat} {c : Array Value} {e : TypeId} {v : Value} (h : w.heap[b]? = some (.cells c e (0, 0))) (hv : c[o]? = some v) : w.cell? ⟨b, o, none⟩ = some v := by
  simp [World.cell?, h, hv]
theorem froz_blk {w : World} {b : Nat} {c : Array Value} {e : TypeId} (h : w.heap[b]? = some (.cells c e (0, 0))) (o : Nat) : w.frozen? ⟨b, o, none⟩ = false := by
  simp [World.frozen?, h]
theorem set_blk {w : World} {b : Nat} {c : Array Value} {e : TypeId} (h : w.heap[b]? = some (.cells c e (0, 0))) (o : Nat) (v : Value) : (w.setCell ⟨b, o, none⟩ v).heap[b]? = some (.cells (c.setIfInBounds o v) e (0, 0)) := by
  simp [World.setCell, Array.getElem?_modify, h]
theorem set_blk_ne {w : World} {b k o : Nat} {v : Value} (hk : k ≠ b) : (w.setCell ⟨b, o, none⟩ v).heap[k]? = w.heap[k]? := Below.heap_setCell _ _ _ _ hk

theorem add_block (x : Addr) (j : Nat) : (x.add j).block = x.block := by unfold Addr.add; split <;> rfl
theorem own_move {w w' : World} {B : Nat} {e : TypeId} {s : Nat} {v : Value} {n : Nat} {xs : List Value} (h : w.ownsRow B e s v n xs) (hk : ∀ g c, v.ownBlock = some g → w.heap[g]? = some (.cells c e (0, 0)) → w'.heap[g]? = w.heap[g]?) : w'.ownsRow B e s v n xs := by
  obtain ⟨h1, h2⟩ := h
  refine ⟨h1, ?_⟩
  rcases h2 with h2 | ⟨g, cap, cur, rfl, hg, hh, r⟩
  · exact .inl h2
  · exact .inr ⟨g, cap, cur, rfl, hg, (hk g cur rfl hh).trans hh, r⟩
theorem own_form {w : World} {B : Nat} {e : TypeId} {s : Nat} {v : Value} {n : Nat} {xs : List Value} (h : w.ownsRow B e s v n xs) : ∃ ao c, v = .slice ao n c := by
  rcases h.2 with ⟨rfl, rfl⟩ | ⟨g, c, _, rfl, _⟩
  · exact ⟨_, _, rfl⟩
  · exact ⟨_, _, rfl⟩

theorem Yba.info5 : (Yba.prog.info? 5).map (fun i => (i.zero, i.size, i.bytes)) = some (some (.int .u8 0), 1, 1) := by kernel_rfl

theorem Yba.size5 : (Yba.prog.info? 5).map (·.size) = some 1 := by kernel_rfl
/-- What the walk is told of the slice 'iv'. -/
def IsRow (B : Nat) (k : IntKind) (w : World) (a : Option Addr) (len cap : Nat) (zs : List Int) : Prop :=
  (a = none ∧ len = 0 ∧ cap = 0 ∧ zs = []) ∨
  ∃ x, a = some x ∧ (0 < zs.length → x.block < B) ∧ len ≤ cap ∧ cap ≤ maxLen ∧ zs.length = cap ∧ (∀ i, i < zs.length → w.cell? (x.add i) = some (.int k (zs.getD i 0))) ∧ ∀ n ∈ zs, (Lit.int k n).wf = true

def stubCells (O : List Value) (calls : Int) (v : Value) (d : Int) : Array Value := (O ++ [.int .i64 calls, .int .i64 0, v, .int .i64 d]).toArray

theorem stub8 {O : List Value} (hO : O.length = 8) (c : Int) (v : Value) (d : Int) : (stubCells O c v d)[8]? = some (.int .i64 c) := by simp [stubCells, List.getElem?_append, hO]
theorem stub9 {O : List Value} (hO : O.length = 8) (c : Int) (v : Value) (d : Int) : (stubCells O c v d)[9]? = some (.int .i64 0) := by simp [stubCells, List.getElem?_append, hO]
theorem stub10 {O : List Value} (hO : O.length = 8) (c : Int) (v : Value) (d : Int) : (stubCells O c v d)[10]? = some v := by simp [stubCells, List.getElem?_append, hO]
theorem stub11 {O : List Value} (hO : O.length = 8) (c : Int) (v : Value) (d : Int) : (stubCells O c v d)[11]? = some (.int .i64 d) := by simp [stubCells, List.getElem?_append, hO]
theorem stubO {O : List Value} (c : Int) (v : Value) (d : Int) {j : Nat} {u : Value} (h : O[j]? = some u) : (stubCells O c v d)[j]? = some u := by
  have := (List.getElem?_eq_some_iff.1 h).1
  simp only [stubCells, List.getElem?_toArray, List.getElem?_append_left this, h]
theorem stubSet8 {O : List Value} (hO : O.length = 8) (c c' : Int) (v : Value) (d : Int) : (stubCells O c v d).setIfInBounds 8 (.int .i64 c') = stubCells O c' v d := by
  simp [stubCells, List.set_append, hO]
theorem stubSet10 {O : List Value} (hO : O.length = 8) (c : Int) (v v' : Value) (d : Int) : (stubCells O c v d).setIfInBounds 10 v' = stubCells O c v' d := by
  simp [stubCells, List.set_append, hO]
theorem stubSet11 {O : List Value} (hO : O.length = 8) (c : Int) (v : Value) (d d' : Int) : (stubCells O c v d).setIfInBounds 11 (.int .i64 d') = stubCells O c v d' := by
  simp [stubCells, List.set_append, hO]

set_option maxHeartbeats 400000 in
theorem encrypt_any (B S C : Nat) (hSC : S ≠ C) (hBS : B ≤ S) (hBC : B ≤ C) (O cur : List Value) (hO : O.length = 8) (hO1 : ∀ v ∈ O, v.oneCell' = true) (hcur : 9 ≤ cur.length) (a : Option Addr) (len cap : Nat) (zs : List Int) (w : World)
    (hlen : len ≤ 1024) (hB : B ≤ w.heap.size)
    (hS : w.heap[S]? = some (.cells (stubCells O 0 (.slice none 0 0) 0) 26 (0, 0))) (hC : w.heap[C]? = some (.cells cur.toArray 32 (0, 0))) (hrow : IsRow B .u8 w a len cap zs) :
    Calls Yba.prog 20 #[.pointer (some ⟨S, 0, none⟩), .slice (some ⟨C, 1, none⟩) 8 8, .slice a len cap] w fun e w' => e = .returned (.tuple #[]) ∧
      ∃ v, w'.heap[S]? = some (.cells (stubCells O 1 v 8) 26 (0, 0)) ∧ w'.heap[C]? = some (.cells (splice cur 1 O).toArray 32 (0, 0)) ∧ w'.ownsRow B 5 1 v len ((zs.take len).map (Value.int .u8)) ∧ Below B w w' := by
  obtain ⟨i0, hi, hz0, hz1, hz2⟩ := info_parts Yba.info5
  have c8 : w.cell? ⟨S, 8, none⟩ = some (.int .i64 0) := cell_blk hS (stub8 hO _ _ _)
  have f8 : w.frozen? ⟨S, 8, none⟩ = false := froz_blk hS _
  replace hS := hide hS; replace hC := hide hC
  have c10 : w.cell? ⟨S, 10, none⟩ = some (.slice none 0 0) := cell_blk (hS.out) (stub10 hO _ _ _)
  have f10 : w.frozen? ⟨S, 10, none⟩ = false := froz_blk hS.out _
  have c11 : w.cell? ⟨S, 11, none⟩ = some (.int .i64 0) := cell_blk (hS.out) (stub11 hO _ _ _)
  have f11 : w.frozen? ⟨S, 11, none⟩ = false := froz_blk hS.out _
  rcases hrow with ⟨rfl, rfl, rfl, rfl⟩ | ⟨x, rfl, hxB, hlc, hcm, hzl, hcell, hwf⟩
  · go_enter Yba.func20, Yba.ntmps20
    go_wp2_with (first | (at_builtin; refine wpList_append_own_none rfl _ _ 22 rfl B 5 i0 1 Yba.underlying22 hi _ 0 [] rfl (World.ownsRow_nil _ _ _ _) rfl ?_) | (refine wpList_copy_own rfl _ _ 22 22 rfl 5 Yba.underlying22 Yba.size5 C 1 8 8 ⟨S, 0, none⟩ 8 8 rfl rfl cur.toArray 32 ?hg O ?hn ?hsrc ?hfit hO1 ?_))
    case hg => rw [set_blk_ne (Ne.symm hSC), set_blk_ne (Ne.symm hSC), set_blk_ne (Ne.symm hSC)]; exact hC.out
    case hn => simp [hO]
    case hsrc =>
      intro j v hj
      have hs1 := set_blk (set_blk (set_blk hS.out 8 (.int .i64 1)) 10 (.slice none 0 0)) 11 (.int .i64 8)
      rw [stubSet8 hO, stubSet10 hO, stubSet11 hO] at hs1
      rw [Addr.add_lit, Nat.zero_add]
      exact cell_blk hs1 (stubO _ _ _ hj)
    case hfit => simp [hO]; omega
    go_end0
    have hs1 := set_blk (set_blk (set_blk hS.out 8 (.int .i64 1)) 10 (.slice none 0 0)) 11 (.int .i64 8)
    rw [stubSet8 hO, stubSet10 hO, stubSet11 hO] at hs1
    have hc1 : (((w.setCell ⟨S, 8, none⟩ (.int .i64 1)).setCell ⟨S, 10, none⟩ (.slice none 0 0)).setCell ⟨S, 11, none⟩ (.int .i64 8)).heap[C]? = some (.cells cur.toArray 32 (0, 0)) := by
      rw [set_blk_ne (Ne.symm hSC), set_blk_ne (Ne.symm hSC), set_blk_ne (Ne.symm hSC)]; exact hC.out
    have hb1 := (((Below.refl B w).setCell (p := ⟨S, 8, none⟩) hBS (.int .i64 1)).setCell (p := ⟨S, 10, none⟩) hBS (.slice none 0 0)).setCell (p := ⟨S, 11, none⟩) hBS (.int .i64 8)
    refine ⟨rfl, .slice none 0 0, ?_, ?_, World.ownsRow_nil _ _ _ _, ?_⟩
    · rw [setRow_other _ _ _ _ hSC]; exact hs1
    · simpa [splice, hO] using setRow_heap _ _ _ (splice cur 1 O).toArray _ _ hc1
    · exact below_setRow hb1 hBC _
  · go_enter Yba.func20, Yba.ntmps20
    go_wp2_with (at_builtin; refine wpList_append_own _ rfl _ _ 22 rfl B 5 i0 (.int .u8 0) 1 1 Yba.underlying22 hi hz0 hz1 hz2 rfl (by decide) _ 0 [] rfl (World.ownsRow_nil _ _ _ _) x len cap ((zs.take len).map (Value.int .u8)) rfl ?h1 ?h2 (ints_oneCell _ _) ?h3 ?h4 ?h5 ?_)
    case h1 => simp; omega
    case h2 =>
      intro j u hj
      have hjl : j < len := by have := (List.getElem?_eq_some_iff.1 hj).1; simp at this; omega
      have hu : u = .int .u8 (zs.getD j 0) := by simp [List.getElem?_take, hjl, show j < zs.length by omega] at hj; simp [List.getD, ← hj, show j < zs.length by omega]
      have hbx := hxB (by omega)
      rw [hu, ← hcell j (by omega)]
      exact ((Below.refl B w).setCell (p := ⟨S, 8, none⟩) hBS (.int .i64 1)).cell (show (x.add j).block < B by rw [add_block]; exact hbx)
    case h3 => unfold maxLen; omega
    case h4 => omega
    case h5 => simpa [World.setCell] using hB
    intro v' w1 hown hgrow _
    obtain ⟨ao, cp, hv⟩ := own_form hown
    subst hv
    have hSl : S < w.heap.size := lt_of_block hS.out
    have hCl : C < w.heap.size := lt_of_block hC.out
    have hwS : (w.setCell ⟨S, 8, none⟩ (.int .i64 1)).heap[S]? = some (.cells (stubCells O 1 (.slice none 0 0) 0) 26 (0, 0)) := by
      have := set_blk hS.out 8 (.int .i64 1); rwa [stubSet8 hO] at this
    have hwC : (w.setCell ⟨S, 8, none⟩ (.int .i64 1)).heap[C]? = some (.cells cur.toArray 32 (0, 0)) := by rw [set_blk_ne (Ne.symm hSC)]; exact hC.out
    have gS : Hid (w1.heap[S]? = some (.cells (stubCells O 1 (.slice none 0 0) 0) 26 (0, 0))) := (hgrow.block S (by simpa [World.setCell] using hSl) (by simp [Value.ownBlock])).trans hwS
    have gC : Hid (w1.heap[C]? = some (.cells cur.toArray 32 (0, 0))) := (hgrow.block C (by simpa [World.setCell] using hCl) (by simp [Value.ownBlock])).trans hwC
    have hb1 : Hid (Below B w w1) := ((Below.refl B w).setCell (p := ⟨S, 8, none⟩) hBS (.int .i64 1)).grown hgrow (by simpa [World.setCell] using hB) (by simp [Value.ownBlock])
    replace hown := hide hown
    clear hwS hwC hgrow c8 f8 c10 f10 c11 f11 hcell hwf
    have c10 : w1.cell? ⟨S, 10, none⟩ = some (.slice none 0 0) := cell_blk gS.out (stub10 hO _ _ _)
    have f10 : w1.frozen? ⟨S, 10, none⟩ = false := froz_blk gS.out _
    have c11 : w1.cell? ⟨S, 11, none⟩ = some (.int .i64 0) := cell_blk gS.out (stub11 hO _ _ _)
    have f11 : w1.frozen? ⟨S, 11, none⟩ = false := froz_blk gS.out _
    go_wp2_with (refine wpList_copy_own rfl _ _ 22 22 rfl 5 Yba.underlying22 Yba.size5 C 1 8 8 ⟨S, 0, none⟩ 8 8 rfl rfl cur.toArray 32 ?hg O ?hn ?hsrc ?hfit hO1 ?_)
    case hg => rw [set_blk_ne (Ne.symm hSC), set_blk_ne (Ne.symm hSC)]; exact gC.out
    case hn => simp [hO]
    case hsrc =>
      intro j v hj
      have hs1 := set_blk (set_blk gS.out 10 (.slice ao len cp)) 11 (.int .i64 8)
      rw [stubSet10 hO, stubSet11 hO] at hs1
      rw [Addr.add_lit, Nat.zero_add]
      exact cell_blk hs1 (stubO _ _ _ hj)
    case hfit => simp [hO]; omega
    go_end0
    have hs1 := set_blk (set_blk gS.out 10 (.slice ao len cp)) 11 (.int .i64 8)
    rw [stubSet10 hO, stubSet11 hO] at hs1
    have hc1 : ((w1.setCell ⟨S, 10, none⟩ (.slice ao len cp)).setCell ⟨S, 11, none⟩ (.int .i64 8)).heap[C]? = some (.cells cur.toArray 32 (0, 0)) := by
      rw [set_blk_ne (Ne.symm hSC), set_blk_ne (Ne.symm hSC)]; exact gC.out
    have hb2 := (hb1.out.setCell (p := ⟨S, 10, none⟩) hBS (.slice ao len cp)).setCell (p := ⟨S, 11, none⟩) hBS (.int .i64 8)
    refine ⟨rfl, .slice ao len cp, ?_, ?_, ?_, ?_⟩
    · rw [setRow_other _ _ _ _ hSC]; exact hs1
    · simpa [splice, hO] using setRow_heap _ _ _ (splice cur 1 O).toArray _ _ hc1
    · refine own_move (by simpa using hown.out) fun g c _ hc => ?_
      have hgS : g ≠ S := by rintro rfl; have := gS.out; rw [hc] at this; simp at this
      have hgC : g ≠ C := by rintro rfl; have := gC.out; rw [hc] at this; simp at this
      rw [setRow_other _ _ _ _ hgC, set_blk_ne hgS, set_blk_ne hgS]
    · exact below_setRow hb2 hBC _
end Go.Proofs.Ybulkobo
