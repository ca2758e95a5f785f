import Derived.Test.YbulkogyClo
namespace Go.Proofs.Ybulkogy
open Go.RowKit
set_option linter.unusedSimpArgs false
set_option linter.unusedVariables false

/-! ### the plain run of the clocks -/
structure PS where
  cl : List Nat
  mg : List Nat
  hd : List Nat
  own : Nat
  cs : List Nat
def mstep (q : Nat) (s : PS) (m : Nat) : PS :=
  { s with cl := s.cl.set q (max (s.cl.getD q 0) (s.hd.getD m 0)), mg := s.mg.set m (s.mg.getD m 0 - 1), hd := if s.mg.getD m 0 - 1 = 0 then s.hd.set m 0 else s.hd }
def tickOf (P q : Nat) (s : PS) : Nat := if q = P then s.cl.getD q 0 + 1 else s.cl.getD q 0
def estep (P : Nat) (y f t : Int) (e q : Nat) (s : PS) : PS :=
  { cl := s.cl.set q (tickOf P q s), mg := s.mg, hd := if 0 < s.mg.getD e 0 then s.hd.set e (tickOf P q s) else s.hd, own := ownNext e y (tickOf P q s) s.own, cs := cntNext e f t (tickOf P q s) s.cs }
def sstep (P : Nat) (y f t : Int) (s : PS) (x : (Nat × List Nat) × Nat) : PS := estep P y f t x.2 x.1.1 (x.1.2.foldl (mstep x.1.1) s)
def runTo (P : Nat) (y f t : Int) (L : List (Nat × List Nat)) (s0 : PS) (i : Nat) : PS := (L.zipIdx.take i).foldl (sstep P y f t) s0
theorem runTo_succ {P : Nat} {y f t : Int} {L : List (Nat × List Nat)} {s0 : PS} {i q : Nat} {ms : List Nat} (h : L[i]? = some (q, ms)) : runTo P y f t L s0 (i + 1) = estep P y f t i q (ms.foldl (mstep q) (runTo P y f t L s0 i)) := by
  have hi := (List.getElem?_eq_some_iff.1 h).1
  have hz : L.zipIdx[i]? = some ((q, ms), i) := by rw [List.getElem?_zipIdx, h]; simp
  have hi' : i < L.zipIdx.length := by simpa using hi
  unfold runTo
  rw [List.take_succ_eq_append_getElem hi', List.foldl_append, (List.getElem?_eq_some_iff.1 hz).2]
  rfl

/-- What the run keeps. -/
structure Inv (p n N i : Nat) (rest : List Nat) (s : PS) : Prop where
  lc : s.cl.length = p
  lm : s.mg.length = n
  lh : s.hd.length = n
  ls : s.cs.length = N
  bc : ∀ q, s.cl.getD q 0 ≤ i
  bh : ∀ k, s.hd.getD k 0 ≤ i
  mg : ∀ k, k < n → s.mg.getD k 0 = rest.count k
  bm : ∀ k, s.mg.getD k 0 ≤ 65792

theorem getD_set {l : List Nat} {i j v : Nat} : (l.set i v).getD j 0 = if i = j ∧ j < l.length then v else l.getD j 0 := by
  simp only [List.getD_eq_getElem?_getD, List.getElem?_set]
  by_cases h : i = j
  · subst h
    by_cases h2 : i < l.length
    · simp [h2]
    · simp [h2]
  · simp [h]

theorem Inv.mstep {p n N i q m : Nat} {rest : List Nat} {s : PS} (h : Inv p n N i (m :: rest) s) (hm : m < n) : Inv p n N i rest (mstep q s m) ∧ 1 ≤ s.mg.getD m 0 := by
  have h1 : s.mg.getD m 0 = rest.count m + 1 := by rw [h.mg m hm]; simp
  refine ⟨⟨by simp [Ybulkogy.mstep, h.lc], by simp [Ybulkogy.mstep, h.lm], ?_, h.ls, ?_, ?_, ?_, ?_⟩, by omega⟩
  · simp only [Ybulkogy.mstep]; split <;> simp [h.lh]
  · intro q'
    simp only [Ybulkogy.mstep, getD_set]
    have := h.bc q'
    have := h.bc q
    have := h.bh m
    split <;> omega
  · intro k
    simp only [Ybulkogy.mstep]
    have := h.bh k
    split
    · rw [getD_set]; split <;> omega
    · omega
  · intro k hk
    simp only [Ybulkogy.mstep, getD_set]
    have := h.mg k hk
    have hl := h.lm
    by_cases e : m = k
    · subst e; rw [if_pos ⟨rfl, by omega⟩]; omega
    · rw [if_neg (by simp [e]), this, List.count_cons_of_ne (by simpa using e)]
  · intro k
    simp only [Ybulkogy.mstep, getD_set]
    have := h.bm k
    have := h.bm m
    split <;> omega

theorem Inv.estep {p n N i e q P : Nat} {y f t : Int} {rest : List Nat} {s : PS} (h : Inv p n N i rest s) : Inv p n N (i + 1) rest (estep P y f t e q s) := by
  have ht : tickOf P q s ≤ i + 1 := by
    unfold tickOf
    have := h.bc q
    split <;> omega
  refine ⟨by simp [Ybulkogy.estep, h.lc], h.lm, ?_, ?_, ?_, ?_, h.mg, h.bm⟩
  · simp only [Ybulkogy.estep]; split <;> simp [h.lh]
  · simp only [Ybulkogy.estep, cntNext]; split <;> simp [h.ls]
  · intro q'
    simp only [Ybulkogy.estep, getD_set]
    have := h.bc q'
    split <;> omega
  · intro k
    simp only [Ybulkogy.estep]
    have := h.bh k
    split
    · rw [getD_set]; split <;> omega
    · omega

theorem Inv.fold {p n N i q : Nat} {ms rest : List Nat} {s : PS} (h : Inv p n N i (ms ++ rest) s) (hm : ∀ m ∈ ms, m < n) : Inv p n N i rest (ms.foldl (Ybulkogy.mstep q) s) := by
  induction ms generalizing s with
  | nil => exact h
  | cons m ms ih => exact ih (h.mstep (hm m (by simp))).1 (fun m' h' => hm m' (by simp [h']))

/-! ### the memory -/
/-- What is neither a count nor a held stamp is kept. -/
def Keep (w wr : World) : Prop := ∀ (k : Nat) (c : Array Value) (e : TypeId), w.heap[k]? = some (.cells c e (0, 0)) → e ≠ 45 → wr.heap[k]? = some (.cells c e (0, 0))

structure WK (w wr : World) (p P kb K M Hd Bo C : Nat) (s : PS) : Prop where
  hcl : ∀ q, q < p → wr.heap[kb + q]? = some (.cells (ckCells q P (s.cl.getD q 0)).toArray 52 (0, 0))
  hM : wr.heap[M]? = some (.cells (ints .i64 s.mg).toArray 3 (0, 0))
  hH : wr.heap[Hd]? = some (.cells (ints .u32 s.hd).toArray 45 (0, 0))
  hO : box1 wr Bo 45 (.int .u32 (s.own : Int))
  hC : wr.heap[C]? = some (.cells (ints .u32 s.cs).toArray 45 (0, 0))
  hK : wr.heap[K]? = some (.cells ((List.range p).map fun q => Value.iface 50 (.pointer (some ⟨kb + q, 0, none⟩))).toArray 49 (0, 0))
  hU : Upd [Bo, C] w wr
  nH : Hd ≠ Bo ∧ Hd ≠ C ∧ Bo ≠ C
  n1 : w.heap.size ≤ M
  n2 : w.heap.size ≤ Hd
  n3 : w.heap.size ≤ kb
  tB : ∃ v, w.heap[Bo]? = some (.cells #[v] 45 (0, 0))
  tC : ∃ c, w.heap[C]? = some (.cells c 45 (0, 0))

theorem blk_ne {w : World} {k l : Nat} {c d : Array Value} {e f : TypeId} (h : w.heap[k]? = some (.cells c e (0, 0))) (h' : w.heap[l]? = some (.cells d f (0, 0))) (hne : e ≠ f) : k ≠ l := by
  rintro rfl; rw [h] at h'; simp at h'; exact hne h'.2
theorem Upd.fresh {ks : List Nat} {w wr w2 : World} {b : Nat} (h : Upd ks w wr) (hu : Upd [b] wr w2) (hb : w.heap.size ≤ b) : Upd ks w w2 :=
  ⟨hu.os.trans h.os, hu.tape.trans h.tape, hu.output.trans h.output, Nat.le_trans h.size hu.size, fun k hk hn => (hu.block k (Nat.lt_of_lt_of_le hk h.size) (by simp; omega)).trans (h.block k hk hn)⟩
theorem WK.keep {w wr : World} {p P kb K M Hd Bo C : Nat} {s : PS} (h : WK w wr p P kb K M Hd Bo C s) : Keep w wr := by
  intro k c e hk he
  obtain ⟨v, hv⟩ := h.tB
  obtain ⟨v', hv'⟩ := h.tC
  refine h.hU.blk hk ?_
  simp only [List.mem_cons, List.not_mem_nil, or_false, not_or]
  exact ⟨blk_ne hk hv he, blk_ne hk hv' he⟩
theorem WK.move {w wr w2 : World} {p P kb K M Hd Bo C : Nat} {s : PS} (h : WK w wr p P kb K M Hd Bo C s) (hu : Upd [] wr w2) : WK w w2 p P kb K M Hd Bo C s :=
  ⟨fun q hq => hu.blk (h.hcl q hq) (by simp), hu.blk h.hM (by simp), hu.blk h.hH (by simp), hu.blk h.hO (by simp), hu.blk h.hC (by simp), hu.blk h.hK (by simp), h.hU.trans (hu.mono (by simp)), h.nH, h.n1, h.n2, h.n3, h.tB, h.tC⟩
theorem WK.setcl {w wr w2 : World} {p P kb K M Hd Bo C q c : Nat} {s : PS} (h : WK w wr p P kb K M Hd Bo C s) (hq : q < p) (hl : s.cl.length = p) (hb : w2.heap[kb + q]? = some (.cells (ckCells q P c).toArray 52 (0, 0))) (hu : Upd [kb + q] wr w2) : WK w w2 p P kb K M Hd Bo C { s with cl := s.cl.set q c } := by
  have hc := h.hcl q hq
  refine ⟨fun q' hq' => ?_, hu.blk h.hM (by simpa using blk_ne h.hM hc (by decide)), hu.blk h.hH (by simpa using blk_ne h.hH hc (by decide)), hu.blk h.hO (by simpa using blk_ne h.hO hc (by decide)), hu.blk h.hC (by simpa using blk_ne h.hC hc (by decide)), hu.blk h.hK (by simpa using blk_ne h.hK hc (by decide)), h.hU.fresh hu (by have := h.n3; omega), h.nH, h.n1, h.n2, h.n3, h.tB, h.tC⟩
  rw [getD_set]
  by_cases e : q = q'
  · subst e; rw [if_pos ⟨rfl, by omega⟩]; exact hb
  · rw [if_neg (by simp [e])]
    exact hu.blk (h.hcl q' hq') (by simp; omega)
theorem WK.setM {w wr : World} {p P kb K M Hd Bo C m c : Nat} {s : PS} (h : WK w wr p P kb K M Hd Bo C s) : WK w (wr.setCell ⟨M, m, none⟩ (.int .i64 (c : Int))) p P kb K M Hd Bo C { s with mg := s.mg.set m c } := by
  have hu : Upd [M] wr (wr.setCell ⟨M, m, none⟩ (.int .i64 (c : Int))) := (Upd.refl _ wr).setCell (p := ⟨M, m, none⟩) (by simp) _
  have hc := h.hM
  refine ⟨fun q' hq' => hu.blk (h.hcl q' hq') (by simpa using blk_ne (h.hcl q' hq') hc (by decide)), ?_, hu.blk h.hH (by simpa using blk_ne h.hH hc (by decide)), hu.blk h.hO (by simpa using blk_ne h.hO hc (by decide)), hu.blk h.hC (by simpa using blk_ne h.hC hc (by decide)), hu.blk h.hK (by simpa using blk_ne h.hK hc (by decide)), h.hU.fresh hu h.n1, h.nH, h.n1, h.n2, h.n3, h.tB, h.tC⟩
  rw [set_blk hc, ints_set]
theorem WK.setH {w wr : World} {p P kb K M Hd Bo C m c : Nat} {s : PS} (h : WK w wr p P kb K M Hd Bo C s) : WK w (wr.setCell ⟨Hd, m, none⟩ (.int .u32 (c : Int))) p P kb K M Hd Bo C { s with hd := s.hd.set m c } := by
  have hu : Upd [Hd] wr (wr.setCell ⟨Hd, m, none⟩ (.int .u32 (c : Int))) := (Upd.refl _ wr).setCell (p := ⟨Hd, m, none⟩) (by simp) _
  have hc := h.hH
  refine ⟨fun q' hq' => hu.blk (h.hcl q' hq') (by simpa using blk_ne (h.hcl q' hq') hc (by decide)), hu.blk h.hM (by simpa using blk_ne h.hM hc (by decide)), ?_, hu.blk h.hO (by simpa using Ne.symm h.nH.1), hu.blk h.hC (by simpa using Ne.symm h.nH.2.1), hu.blk h.hK (by simpa using blk_ne h.hK hc (by decide)), h.hU.fresh hu h.n2, h.nH, h.n1, h.n2, h.n3, h.tB, h.tC⟩
  rw [set_blk hc, ints_set]
theorem WK.visit {w wr w2 : World} {p P kb K M Hd Bo C own : Nat} {cs : List Nat} {s : PS} (h : WK w wr p P kb K M Hd Bo C s) (hO : box1 w2 Bo 45 (.int .u32 (own : Int))) (hC : w2.heap[C]? = some (.cells (ints .u32 cs).toArray 45 (0, 0))) (hu : Upd [Bo, C] wr w2) : WK w w2 p P kb K M Hd Bo C { s with own := own, cs := cs } := by
  have nn : ∀ {k : Nat} {c : Array Value} {e : TypeId}, wr.heap[k]? = some (.cells c e (0, 0)) → e ≠ 45 → k ∉ [Bo, C] := by
    intro k c e hk he
    simp only [List.mem_cons, List.not_mem_nil, or_false, not_or]
    exact ⟨blk_ne hk h.hO he, blk_ne hk h.hC he⟩
  exact ⟨fun q' hq' => hu.blk (h.hcl q' hq') (nn (h.hcl q' hq') (by decide)), hu.blk h.hM (nn h.hM (by decide)), hu.blk h.hH (by simp; exact ⟨h.nH.1, h.nH.2.1⟩), hO, hC, hu.blk h.hK (nn h.hK (by decide)), h.hU.trans hu, h.nH, h.n1, h.n2, h.n3, h.tB, h.tC⟩

/-- The execution in memory. -/
structure Ex (w : World) (X H p n : Nat) (L : List (Nat × List Nat)) (ao : Option Addr) (cap : Nat) : Prop where
  hX : w.heap[X]? = some (.cells #[.slice (some ⟨H, 0, none⟩) p p, .slice ao n cap, .slice none 0 0] 42 (0, 0))
  len : L.length = n
  hn : n ≤ 256
  hp : p ≤ 4
  hp0 : 0 < p
  step : ∀ (i q : Nat) (ms : List Nat), L[i]? = some (q, ms) → q < p ∧ ms.length ≤ 256 ∧ (∀ m ∈ ms, m < i) ∧ ∃ (g : Nat) (cg : Array Value) (am : Option Addr) (cm : Nat), ao = some ⟨g, 0, none⟩ ∧ w.heap[g]? = some (.cells cg 44 (0, 0)) ∧ cg[i * 3]? = some (.int .i64 (i : Int)) ∧ cg[i * 3 + 1]? = some (.int .i64 (q : Int)) ∧ cg[i * 3 + 2]? = some (.slice am ms.length cm) ∧
    ∀ (j m : Nat), ms[j]? = some m → ∃ (b : Nat) (cb : Array Value), am = some ⟨b, 0, none⟩ ∧ w.heap[b]? = some (.cells cb 3 (0, 0)) ∧ cb[j]? = some (.int .i64 (m : Int))
theorem Ex.keep {w wr : World} {X H p n : Nat} {L : List (Nat × List Nat)} {ao : Option Addr} {cap : Nat} (h : Ex w X H p n L ao cap) (hk : Keep w wr) : Ex wr X H p n L ao cap := by
  refine ⟨hk _ _ _ h.hX (by decide), h.len, h.hn, h.hp, h.hp0, fun i q ms hi => ?_⟩
  obtain ⟨h1, h2, h3, g, cg, am, cm, h4, h5, h6, h7, h8, h9⟩ := h.step i q ms hi
  refine ⟨h1, h2, h3, g, cg, am, cm, h4, hk _ _ _ h5 (by decide), h6, h7, h8, fun j m hj => ?_⟩
  obtain ⟨b, cb, e1, e2, e3⟩ := h9 j m hj
  exact ⟨b, cb, e1, hk _ _ _ e2 (by decide), e3⟩
theorem Keep.of_upd {w wr : World} (h : Upd [] w wr) : Keep w wr := fun k c e hk _ => h.blk hk (by simp)
theorem Keep.of_below {w wr : World} (h : Below w.heap.size w wr) : Keep w wr := Keep.of_upd (Upd.of_below h)
theorem Keep.trans {a b c : World} (h : Keep a b) (k : Keep b c) : Keep a c := fun i x e hi he => k i x e (h i x e hi he) he
end Go.Proofs.Ybulkogy
