import Derived.Test.YbulkogyWK
import Derived.Laws.OwnMore
namespace Go.Proofs.Ybulkogy
open Go.RowKit
set_option linter.unusedSimpArgs false
set_option linter.unusedVariables false

theorem made_blk {w : World} {B Nb n : Nat} {e : TypeId} {z : Value} (h : w.ownsRow B e 1 (.slice (some ⟨Nb, 0, none⟩) n n) n (madeCells #[z] n).toList) : w.heap[Nb]? = some (.cells (List.replicate n z).toArray e (0, 0)) := by
  rcases h.2 with ⟨h', _⟩ | ⟨g', cap', cur, h', hB, hh, h1, h2, h3, h4⟩
  · cases h'
  · cases h'
    rw [hh]
    rw [toList_madeCells_one, List.take_of_length_le (by simp; omega)] at h4
    have : cur = (List.replicate n z).toArray := by rw [← h4]
    rw [this]

/-- The first loop's state. -/
structure L1 (w wr : World) (p P kb q : Nat) : Prop where
  hK : wr.heap[w.heap.size]? = some (.cells (((List.range q).map fun q => Value.iface 50 (.pointer (some ⟨kb + q, 0, none⟩))) ++ List.replicate (p - q) Value.nilIface).toArray 49 (0, 0))
  hc : ∀ q', q' < q → wr.heap[kb + q']? = some (.cells (ckCells q' P 0).toArray 52 (0, 0))
  hs : wr.heap.size = kb + q
  hk : w.heap.size < kb
  hu : Upd [] w wr
theorem L1.start {w w1 : World} {p P : Nat} (h : w1.ownsRow w.heap.size 49 1 (.slice (some ⟨w.heap.size, 0, none⟩) p p) p (madeCells #[.nilIface] p).toList) (hg : w.grownBy w1 none) : L1 w w1 p P w1.heap.size 0 := by
  have hb := made_blk h
  exact ⟨by simpa using hb, by omega, rfl, lt_of_block hb, Upd.of_grown hg⟩
theorem L1.cell {w wr : World} {p P kb q : Nat} (h : L1 w wr p P kb q) (hq : q < p) : (wr.alloc (.cells (ckCells q P 0).toArray 52 (0, 0))).heap[w.heap.size]? = some (.cells (((List.range q).map fun q => Value.iface 50 (.pointer (some ⟨kb + q, 0, none⟩))) ++ List.replicate (p - q) Value.nilIface).toArray 49 (0, 0)) :=
  (Below.heap_alloc _ _ _ (by have := h.hs; have := h.hk; omega)).trans h.hK
theorem L1.next {w wr : World} {p P kb q : Nat} (h : L1 w wr p P kb q) (hq : q < p) : L1 w ((wr.alloc (.cells (ckCells q P 0).toArray 52 (0, 0))).setCell ⟨w.heap.size, q, none⟩ (.iface 50 (.pointer (some ⟨wr.heap.size, 0, none⟩)))) p P kb (q + 1) := by
  have hs := h.hs
  have hk := h.hk
  have hu : Upd [w.heap.size] wr ((wr.alloc (.cells (ckCells q P 0).toArray 52 (0, 0))).setCell ⟨w.heap.size, q, none⟩ (.iface 50 (.pointer (some ⟨wr.heap.size, 0, none⟩)))) := ((Upd.refl _ wr).alloc _).setCell (p := ⟨w.heap.size, q, none⟩) (by simp) _
  refine ⟨?_, fun q' hq' => ?_, by simp [World.setCell]; omega, hk, h.hu.fresh hu (Nat.le_refl _)⟩
  · rw [set_blk (h.cell hq)]
    congr 2
    rw [hs]
    obtain ⟨r, hr⟩ : ∃ r, p - q = r + 1 := ⟨p - q - 1, by omega⟩
    rw [hr, show p - (q + 1) = r by omega, List.replicate_succ, List.range_succ]
    simp
  · by_cases e : q' = q
    · subst e
      rw [set_blk_ne (by omega), ← hs]
      exact heap_alloc_new wr _
    · exact hu.blk (h.hc q' (by omega)) (by simp; omega)
/-- The second loop's state. -/
structure L2 (w wr : World) (p P kb M : Nat) (mg : List Nat) : Prop where
  hK : wr.heap[w.heap.size]? = some (.cells ((List.range p).map fun q => Value.iface 50 (.pointer (some ⟨kb + q, 0, none⟩))).toArray 49 (0, 0))
  hc : ∀ q', q' < p → wr.heap[kb + q']? = some (.cells (ckCells q' P 0).toArray 52 (0, 0))
  hM : wr.heap[M]? = some (.cells (ints .i64 mg).toArray 3 (0, 0))
  hk : w.heap.size < kb
  hm : w.heap.size ≤ M
  hu : Upd [] w wr
theorem ints_rep (k : IntKind) (n : Nat) : ints k (List.replicate n 0) = List.replicate n (.int k 0) := by simp [ints]
theorem L2.start {w wr w1 : World} {p P kb n : Nat} (h : L1 w wr p P kb p) (hw : w1.ownsRow wr.heap.size 3 1 (.slice (some ⟨wr.heap.size, 0, none⟩) n n) n (madeCells #[.int .i64 0] n).toList) (hg : wr.grownBy w1 none) : L2 w w1 p P kb wr.heap.size (List.replicate n 0) := by
  have hu := Upd.of_grown hg
  refine ⟨?_, fun q hq => hu.blk (h.hc q hq) (by simp), by rw [ints_rep]; exact made_blk hw, h.hk, h.hu.size, h.hu.trans hu⟩
  have := hu.blk h.hK (by simp)
  simpa using this
theorem L2.move {w wr w1 : World} {p P kb M : Nat} {mg : List Nat} (h : L2 w wr p P kb M mg) (hu : Upd [] wr w1) : L2 w w1 p P kb M mg :=
  ⟨hu.blk h.hK (by simp), fun q hq => hu.blk (h.hc q hq) (by simp), hu.blk h.hM (by simp), h.hk, h.hm, h.hu.trans hu⟩
theorem L2.set {w wr : World} {p P kb M m c : Nat} {mg : List Nat} (h : L2 w wr p P kb M mg) : L2 w (wr.setCell ⟨M, m, none⟩ (.int .i64 (c : Int))) p P kb M (mg.set m c) := by
  have hu : Upd [M] wr (wr.setCell ⟨M, m, none⟩ (.int .i64 (c : Int))) := (Upd.refl _ wr).setCell (p := ⟨M, m, none⟩) (by simp) _
  refine ⟨hu.blk h.hK (by simpa using blk_ne h.hK h.hM (by decide)), fun q hq => hu.blk (h.hc q hq) (by simpa using blk_ne (h.hc q hq) h.hM (by decide)), ?_, h.hk, h.hm, h.hu.fresh hu h.hm⟩
  rw [set_blk h.hM, ints_set]
theorem L2.wk {w wr w1 : World} {p P kb M n N Bo C : Nat} {mg : List Nat} (h : L2 w wr p P kb M mg) (hw : w1.ownsRow wr.heap.size 45 1 (.slice (some ⟨wr.heap.size, 0, none⟩) n n) n (madeCells #[.int .u32 0] n).toList) (hg : wr.grownBy w1 none)
    (hO : box1 w Bo 45 (.int .u32 0)) (hC : w.heap[C]? = some (.cells (ints .u32 (List.replicate N 0)).toArray 45 (0, 0))) (hoC : Bo ≠ C) : WK w w1 p P kb w.heap.size M wr.heap.size Bo C ⟨List.replicate p 0, mg, List.replicate n 0, 0, List.replicate N 0⟩ := by
  have hu := Upd.of_grown hg
  have hu2 := h.hu.trans hu
  have hsz := h.hu.size
  have h1 : Bo < w.heap.size := lt_of_block hO
  have h2 := lt_of_block hC
  refine ⟨fun q hq => ?_, hu.blk h.hM (by simp), by rw [ints_rep]; exact made_blk hw, hu2.blk hO (by simp), hu2.blk hC (by simp), hu.blk h.hK (by simp), hu2.mono (by simp), ⟨by omega, by omega, hoC⟩, h.hm, hsz, by have := h.hk; omega, ⟨_, hO⟩, ⟨_, hC⟩⟩
  have := hu.blk (h.hc q hq) (by simp)
  rw [this]
  simp [List.getD_eq_getElem?_getD, List.getElem?_replicate, hq]

def cntOf (n : Nat) (l : List Nat) : List Nat := (List.range n).map fun k => l.count k
theorem cntOf_len (n : Nat) (l : List Nat) : (cntOf n l).length = n := by simp [cntOf]
theorem cntOf_get {n : Nat} {l : List Nat} {k : Nat} (h : k < n) : (cntOf n l).getD k 0 = l.count k := by simp [cntOf, List.getD_eq_getElem?_getD, h]
theorem cntOf_nil (n : Nat) : cntOf n [] = List.replicate n 0 := by simp [cntOf, List.map_const']
theorem cntOf_snoc (n : Nat) (l : List Nat) (m : Nat) : (cntOf n l).set m (l.count m + 1) = cntOf n (l ++ [m]) := by
  refine List.ext_getElem (by simp [cntOf]) fun k h1 h2 => ?_
  simp only [List.getElem_set, cntOf, List.getElem_map, List.getElem_range, List.count_append]
  by_cases e : m = k
  · subst e; simp
  · simp [e, List.count_singleton]

theorem mm (want : Array (String × TypeId)) (got : Array Method) (m : String) (sig : TypeId) (h : (want.toList.filter fun (name, sig) => !got.any fun m => m.name == name && m.sig == sig) = [(m, sig)]) : ∃ s, Instr.missingMethod want got = some s := by
  unfold Instr.missingMethod
  simp only [h, List.map_cons, List.map_nil]
  cases hc : m.contains '.' <;> simp [List.partition, List.partition.loop, hc, Instr.least]
def I50 : Array Method := #[{ name := "Merge", sig := 56, path := #[], func := some (29, true) }, { name := "Tick", sig := 61, path := #[], func := some (30, true) }]
theorem meth50 : (Yba.prog.info? 50).map (·.methods) = some I50 := by kernel_rfl
theorem ta_no (w : World) (a : Addr) : (Instr.typeAssert (.iface 50 (.pointer (some a))) 49 59 true).run Yba.prog w = .ok (.tuple #[.nilIface, .bool false]) w := by
  obtain ⟨s, hs⟩ := mm #[("Advance", 1)] I50 "Advance" 1 (by simp [I50])
  have hu : (underlying 59).run Yba.prog w = .ok (.interface #[("Advance", 1)]) w := by kernel_rfl
  have hz : (zeroValue 59).run Yba.prog w = .ok .nilIface w := by kernel_rfl
  obtain ⟨I, hI, hm⟩ : ∃ I, Yba.prog.info? 50 = some I ∧ I.methods = I50 := by
    have := meth50
    cases h : Yba.prog.info? 50 with
    | none => rw [h] at this; cases this
    | some I => rw [h] at this; exact ⟨I, rfl, by simpa using this⟩
  have hi : (typeInfo 50).run Yba.prog w = .ok I w := by
    simp [typeInfo, hI, go_sem]
  unfold Instr.typeAssert
  simp [go_sem, hu, hi, hm, hs, hz]
theorem neq_nilf (w : World) : (binOp BinOp.neq 56 .nilFunc .nilFunc).run Yba.prog w = .ok (.bool false) w := by kernel_rfl
theorem ints_get {k : IntKind} {l : List Nat} {j : Nat} (h : j < l.length) : (ints k l).toArray[j]? = some (.int k ((l.getD j 0 : Nat) : Int)) := by
  simp [ints, List.getD_eq_getElem?_getD, h]
def WP (w w' : World) (Bo C : Nat) (s : PS) (e : Ending) : Prop := e = .returned (.tuple #[]) ∧ box1 w' Bo 45 (.int .u32 (s.own : Int)) ∧ w'.heap[C]? = some (.cells (ints .u32 s.cs).toArray 45 (0, 0)) ∧ Upd [Bo, C] w w'
/-- The run's start. -/
def ps0 (p n N : Nat) (L : List (Nat × List Nat)) : PS := ⟨List.replicate p 0, cntOf n (L.flatMap (·.2)), List.replicate n 0, 0, List.replicate N 0⟩
theorem inv0 (p n N : Nat) (L : List (Nat × List Nat)) (hb : (L.flatMap (·.2)).length ≤ 65792) : Inv p n N 0 (L.flatMap (·.2)) (ps0 p n N L) := by
  refine ⟨by simp [ps0], by simp [ps0, cntOf], by simp [ps0], by simp [ps0], fun q => ?_, fun k => ?_, fun k hk => cntOf_get hk, fun k => ?_⟩
  · simp only [ps0, List.getD_eq_getElem?_getD, List.getElem?_replicate]; split <;> simp
  · simp only [ps0, List.getD_eq_getElem?_getD, List.getElem?_replicate]; split <;> simp
  · by_cases hk : k < n
    · show (cntOf n _).getD k 0 ≤ _
      rw [cntOf_get hk]
      exact Nat.le_trans List.count_le_length hb
    · show (cntOf n _).getD k 0 ≤ _
      rw [List.getD_eq_getElem?_getD, List.getElem?_eq_none (by rw [cntOf_len]; omega)]
      simp
theorem mstep0 {q m : Nat} {s : PS} (h : s.mg.getD m 0 = 0 + 1) : mstep q s m = { s with cl := s.cl.set q (max (s.cl.getD q 0) (s.hd.getD m 0)), mg := s.mg.set m 0, hd := s.hd.set m 0 } := by
  simp only [mstep, h]
  simp
theorem mstepS {q m g : Nat} {s : PS} (h : s.mg.getD m 0 = g + 1) (hg : ¬ g = 0) : mstep q s m = { s with cl := s.cl.set q (max (s.cl.getD q 0) (s.hd.getD m 0)), mg := s.mg.set m g } := by
  simp only [mstep, h]
  simp [hg]
theorem flat_take {L : List (Nat × List Nat)} {i q : Nat} {ms : List Nat} (h : L[i]? = some (q, ms)) : (L.take (i + 1)).flatMap (·.2) = (L.take i).flatMap (·.2) ++ ms := by
  have hi := (List.getElem?_eq_some_iff.1 h).1
  rw [List.take_succ_eq_append_getElem hi, List.flatMap_append, (List.getElem?_eq_some_iff.1 h).2]
  simp
theorem flat_drop {L : List (Nat × List Nat)} {i q : Nat} {ms : List Nat} (h : L[i]? = some (q, ms)) : (L.drop i).flatMap (·.2) = ms ++ (L.drop (i + 1)).flatMap (·.2) := by
  have hi := (List.getElem?_eq_some_iff.1 h).1
  rw [List.drop_eq_getElem_cons hi, (List.getElem?_eq_some_iff.1 h).2]
  simp
theorem take_snoc {l : List Nat} {j x : Nat} (h : l[j]? = some x) : l.take (j + 1) = l.take j ++ [x] := by
  have hj := (List.getElem?_eq_some_iff.1 h).1
  rw [List.take_succ_eq_append_getElem hj, (List.getElem?_eq_some_iff.1 h).2]
theorem drop_cons {l : List Nat} {j x : Nat} (h : l[j]? = some x) : l.drop j = x :: l.drop (j + 1) := by
  have hj := (List.getElem?_eq_some_iff.1 h).1
  rw [List.drop_eq_getElem_cons hj, (List.getElem?_eq_some_iff.1 h).2]
theorem cnt_le {n m : Nat} (l : List Nat) (B : Nat) (h : l.length ≤ B) : l.count m ≤ B := Nat.le_trans List.count_le_length h
theorem flat_len (L : List (Nat × List Nat)) (h : ∀ x ∈ L, x.2.length ≤ 256) : (L.flatMap (·.2)).length ≤ 256 * L.length := by
  induction L with
  | nil => simp
  | cons a L ih =>
    have := ih (fun x hx => h x (by simp [hx]))
    have := h a (by simp)
    simp only [List.flatMap_cons, List.length_append, List.length_cons]
    omega

theorem asked_no {k y f t : Int} {c own : Nat} {cs : List Nat} (h : asked k y f t = false) : ownNext k y c own = own ∧ cntNext k f t c cs = cs := by
  simp only [asked, decide_eq_false_iff_not, not_or] at h
  simp [ownNext, cntNext, h.1, h.2]
end Go.Proofs.Ybulkogy
