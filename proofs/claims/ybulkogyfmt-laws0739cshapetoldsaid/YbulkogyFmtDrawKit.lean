import Derived.Test.YbulkogyFmtRead
import Derived.ProofKit
import Derived.OpenShut
namespace Go.Proofs.YbulkogyFmt
open Go.RowKit
set_option linter.unusedSimpArgs false
set_option linter.unusedVariables false

/-- What the walk is told of a slice of numbers. -/
def IsRow (k : IntKind) (w : World) (a : Option Addr) (len cap : Nat) (zs : List Int) : Prop :=
  (a = none ∧ len = 0 ∧ cap = 0 ∧ zs = []) ∨
  ∃ x, a = some x ∧ len ≤ cap ∧ cap ≤ maxLen ∧ zs.length = cap ∧ (∀ i, i < zs.length → w.cell? (x.add i) = some (.int k (zs.getD i 0))) ∧ ∀ n ∈ zs, (Lit.int k n).wf = true
/-- The choices: the k-th answer. -/
theorem row_ans {w : World} {a : Option Addr} {len cap : Nat} {zs : List Int} (h : IsRow .u8 w a len cap zs) : ∃ ch : Nat → Nat, (∀ k, ch k ≤ 255) ∧ (∀ k, Ans w a len k (ch k) w.heap.size) ∧ len ≤ maxLen := by
  rcases h with ⟨rfl, rfl, _, rfl⟩ | ⟨⟨b, off, spot⟩, rfl, h3, h4, h5, h6, h7⟩
  · exact ⟨fun _ => 0, by simp, fun k => .inr ⟨Nat.zero_le _, rfl⟩, Nat.zero_le _⟩
  · refine ⟨fun k => if k < len then (zs.getD k 0).toNat else 0, fun k => ?_, fun k => ?_, by omega⟩
    · show (if k < len then (zs.getD k 0).toNat else 0) ≤ 255
      split
      · have hk : k < zs.length := by omega
        have := bounds_u8 (h7 (zs.getD k 0) (by rw [List.getD_eq_getElem?_getD, List.getElem?_eq_getElem hk]; simp))
        omega
      · omega
    · by_cases hkl : k < len
      · have hk : k < zs.length := by omega
        have hb := bounds_u8 (h7 (zs.getD k 0) (by rw [List.getD_eq_getElem?_getD, List.getElem?_eq_getElem hk]; simp))
        have hspot : spot = none := by simpa [Addr.add] using World.cell?_spot (h6 0 (by omega))
        subst hspot
        have hlt := World.block_lt_of_cell? w _ (h6 0 (by omega))
        rw [add_block] at hlt
        refine .inl ⟨hkl, b, off, rfl, hlt, ?_⟩
        have := h6 k hk
        rw [Addr.add_lit] at this
        rw [this]
        show some (Value.int .u8 (zs.getD k 0)) = some (Value.int .u8 ((if k < len then (zs.getD k 0).toNat else 0 : Nat) : Int))
        rw [if_pos hkl]
        simp only [Option.some.injEq, Value.int.injEq, true_and]
        omega
      · exact .inr ⟨by omega, by simp [hkl]⟩
def pdOf (s : BS) : List Nat := s.inbox.map List.length
theorem pdOf_get (s : BS) (q : Nat) : (pdOf s).getD q 0 = (s.inbox.getD q []).length := by
  unfold pdOf
  rw [List.getD_eq_getElem?_getD, List.getD_eq_getElem?_getD, List.getElem?_map]
  cases s.inbox[q]? <;> rfl
theorem pdOf_len (s : BS) : (pdOf s).length = s.inbox.length := by simp [pdOf]
theorem pdOf_mid_zero {n p : Nat} {s : BS} (h : s.inbox.length = n) : pdOf (midS n p s 0) = pdOf s := by rw [midS_zero h]; rfl
theorem pdOf_mid_next {n p q : Nat} {s : BS} (h : q < n) (hp : q ≠ p) : pdOf (midS n p s (q + 1)) = (pdOf (midS n p s q)).set q ((s.inbox.getD q []).length + 1) := by
  rw [midS_next h hp]
  simp [pdOf, List.map_set]
theorem pdOf_recv (p : Nat) (s : BS) : pdOf (recvOf p s) = (pdOf s).set p ((s.inbox.getD p []).length - 1) := by
  simp [pdOf, recvOf, List.map_set]
theorem fil_succ (p : Nat) (c : Nat → Bool) : fil (p + 1) c = fil p c ++ (if c p then [p] else []) := by
  unfold fil
  rw [List.range_succ, List.filter_append]
  congr 1
  cases h : c p <;> simp [h]
/-- The memory of the law's own loop. -/
structure DW (w1 wr : World) (Sb Pb E n : Nat) (sent : List Bool) (pend l : List Nat) : Prop where
  sb : wr.heap[Sb]? = some (.cells (sent.map Value.bool).toArray 4 (0, 0))
  pb : wr.heap[Pb]? = some (.cells (ints .i64 pend).toArray 3 (0, 0))
  en : wr.ownsRow E 3 1 (.slice (some ⟨E, 0, none⟩) l.length n) l.length (ints .i64 l)
  bl : Below w1.heap.size w1 wr
  nS : w1.heap.size ≤ Sb
  nP : w1.heap.size ≤ Pb
  nE : w1.heap.size ≤ E
  PE : Pb ≠ E
theorem DW.eb {w1 wr : World} {Sb Pb E n : Nat} {sent : List Bool} {pend l : List Nat} (h : DW w1 wr Sb Pb E n sent pend l) : ∃ c, wr.heap[E]? = some (.cells c 3 (0, 0)) := own_blk h.en rfl
theorem DW.le {w1 wr : World} {Sb Pb E n : Nat} {sent : List Bool} {pend l : List Nat} (h : DW w1 wr Sb Pb E n sent pend l) : l.length ≤ n ∧ n ≤ maxLen := by
  rcases h.en.2 with ⟨h', _⟩ | ⟨g, cap, cur, he, hg, hh, r1, r2, r3, r4⟩
  · cases h'
  · simp only [Value.slice.injEq, Option.some.injEq, Addr.mk.injEq] at he
    obtain ⟨⟨rfl, _⟩, _, rfl⟩ := he
    exact ⟨r1, r2⟩
theorem DW.mark {w1 wr : World} {Sb Pb E n p : Nat} {sent : List Bool} {pend l : List Nat} (h : DW w1 wr Sb Pb E n sent pend l) : DW w1 (wr.setCell ⟨Sb, p, none⟩ (.bool true)) Sb Pb E n (sent.set p true) pend l := by
  obtain ⟨c, hc⟩ := h.eb
  have h1 : Pb ≠ Sb := blk_ne h.pb h.sb (by decide)
  have h2 : E ≠ Sb := blk_ne hc h.sb (by decide)
  exact ⟨by rw [set_blk h.sb]; simp [List.map_set], by rw [set_blk_ne h1]; exact h.pb, own_move h.en (fun g c hg hc => by cases hg; exact set_blk_ne h2), h.bl.setCell (p := ⟨Sb, p, none⟩) h.nS _, h.nS, h.nP, h.nE, h.PE⟩
theorem DW.put {w1 wr : World} {Sb Pb E n q v : Nat} {sent : List Bool} {pend l : List Nat} (h : DW w1 wr Sb Pb E n sent pend l) : DW w1 (wr.setCell ⟨Pb, q, none⟩ (.int .i64 (v : Int))) Sb Pb E n sent (pend.set q v) l := by
  have h1 : Sb ≠ Pb := blk_ne h.sb h.pb (by decide)
  exact ⟨by rw [set_blk_ne h1]; exact h.sb, by rw [set_blk h.pb]; simp [ints, List.map_set], own_move h.en (fun g c hg hc => by cases hg; exact set_blk_ne (Ne.symm h.PE)), h.bl.setCell (p := ⟨Pb, q, none⟩) h.nP _, h.nS, h.nP, h.nE, h.PE⟩
theorem DW.cut {w1 wr : World} {Sb Pb E n : Nat} {sent : List Bool} {pend l : List Nat} (h : DW w1 wr Sb Pb E n sent pend l) : DW w1 wr Sb Pb E n sent pend [] := by
  have := own_take (k := 0) h.en (Nat.zero_le _)
  exact ⟨h.sb, h.pb, by simpa using this, h.bl, h.nS, h.nP, h.nE, h.PE⟩
theorem DW.app {w1 wr w2 : World} {Sb Pb E n p : Nat} {sent : List Bool} {pend l : List Nat} {o : Obj} (h : DW w1 wr Sb Pb E n sent pend l) (ho : w2.ownsRow E 3 1 (.slice (some ⟨E, 0, none⟩) (l.length + 1) n) (l.length + 1) (ints .i64 l ++ ints .i64 [p])) (hg : (wr.alloc o).grownBy w2 (some E)) : DW w1 w2 Sb Pb E n sent pend (l ++ [p]) := by
  have hu := Upd.of_grown_alloc hg
  obtain ⟨c, hc⟩ := h.eb
  have h2 : Sb ≠ E := blk_ne h.sb hc (by decide)
  refine ⟨hu.blk h.sb (by simpa using h2), hu.blk h.pb (by simpa using h.PE), by rw [ints_append, List.length_append]; exact ho, h.bl.trans (hu.below h.bl.size (by simpa using h.nE)), h.nS, h.nP, h.nE, h.PE⟩
theorem DW.sent {w1 wr : World} {Sb Pb E n p : Nat} {sent : List Bool} {pend l : List Nat} (h : DW w1 wr Sb Pb E n sent pend l) (hp : p < sent.length) : wr.cell? ⟨Sb, p, none⟩ = some (.bool (sent.getD p false)) := cell_blk h.sb (by simp [List.getD_eq_getElem?_getD, hp])
theorem DW.pend {w1 wr : World} {Sb Pb E n p : Nat} {sent : List Bool} {pend l : List Nat} (h : DW w1 wr Sb Pb E n sent pend l) (hp : p < pend.length) : wr.cell? ⟨Pb, p, none⟩ = some (.int .i64 ((pend.getD p 0 : Nat) : Int)) := cell_blk h.pb (by rw [List.getElem?_toArray]; exact ints_get hp)
theorem DW.at {w1 wr : World} {Sb Pb E n j : Nat} {sent : List Bool} {pend l : List Nat} (h : DW w1 wr Sb Pb E n sent pend l) (hj : j < l.length) : wr.cell? ⟨E, j, none⟩ = some (.int .i64 ((l.getD j 0 : Nat) : Int)) := by
  obtain ⟨g, cap, e1, e2⟩ := own_cells h.en (by omega)
  cases e1
  exact e2 _ _ (ints_get hj)
theorem DW.start {w1 : World} {n : Nat} {za zb zc : Array Value} (ha : za.toList = List.replicate n (.bool false)) (hb : zb.toList = List.replicate n (.int .i64 0)) (hc : zc.size = n) (hn : n ≤ maxLen) :
    DW w1 (((w1.alloc (.cells za 4)).alloc (.cells zb 3)).alloc (.cells zc 3)) w1.heap.size (w1.heap.size + 1) (w1.heap.size + 1 + 1) n (bs0 n).sent (pdOf (bs0 n)) [] := by
  have s1 : (w1.alloc (.cells za 4)).heap.size = w1.heap.size + 1 := by simp
  have s2 : ((w1.alloc (.cells za 4)).alloc (.cells zb 3)).heap.size = w1.heap.size + 1 + 1 := by simp
  have ea : za = (List.map Value.bool (bs0 n).sent).toArray := by rw [← Array.toList_inj]; simp [ha, bs0]
  have eb : zb = (ints .i64 (pdOf (bs0 n))).toArray := by rw [← Array.toList_inj]; simp [hb, bs0, pdOf, ints]
  refine ⟨?_, ?_, ⟨rfl, .inr ⟨w1.heap.size + 1 + 1, n, zc, rfl, Nat.le_refl _, ?_, Nat.zero_le _, hn, by omega, by simp [ints]⟩⟩, ((((Below.refl _ w1).alloc (Nat.le_refl _) _).alloc (by simp) _).alloc (by simp; omega) _), by omega, by omega, by omega, by omega⟩
  · rw [Below.heap_alloc _ _ _ (by rw [s2]; omega), Below.heap_alloc _ _ _ (by rw [s1]; omega), ← ea]
    exact heap_alloc_new w1 (.cells za 4)
  · rw [Below.heap_alloc _ _ _ (by rw [s2]; omega), ← eb]
    have := heap_alloc_new (w1.alloc (.cells za 4)) (.cells zb 3)
    rw [s1] at this; exact this
  · have := heap_alloc_new ((w1.alloc (.cells za 4)).alloc (.cells zb 3)) (.cells zc 3)
    rw [s2] at this; exact this
end Go.Proofs.YbulkogyFmt
