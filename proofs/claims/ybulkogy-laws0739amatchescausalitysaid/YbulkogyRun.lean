import Derived.Test.YbulkogyAfter
import Derived.Test.YbulkogyPlain
namespace Go.Proofs.Ybulkogy
set_option linter.unusedSimpArgs false
set_option linter.unusedVariables false

/-! ### the run computes the stamps -/
def stpAt (P : Nat) (y f t : Int) (L : List (Nat × List Nat)) (s0 : PS) (k : Nat) : Nat := match L[k]? with | some (q, ms) => tickOf P q (ms.foldl (mstep q) (runTo P y f t L s0 k)) | none => 0

theorem mfold_all {p n N i q : Nat} {S : Nat → Nat} {rest : List Nat} (hq : q < p) (ms : List Nat) (s : PS) (hI : Inv p n N i (ms ++ rest) s) (hm : ∀ m ∈ ms, m < i ∧ m < n) (hh : ∀ k, k < i → 0 < (ms ++ rest).count k → s.hd.getD k 0 = S k) :
    Inv p n N i rest (ms.foldl (mstep q) s) ∧ (ms.foldl (mstep q) s).cl.getD q 0 = ms.foldl (fun c m => max c (S m)) (s.cl.getD q 0) ∧ (∀ q', q' ≠ q → (ms.foldl (mstep q) s).cl.getD q' 0 = s.cl.getD q' 0) ∧
    (∀ k, k < i → 0 < rest.count k → (ms.foldl (mstep q) s).hd.getD k 0 = S k) ∧ (ms.foldl (mstep q) s).own = s.own ∧ (ms.foldl (mstep q) s).cs = s.cs := by
  induction ms generalizing s with
  | nil => exact ⟨hI, rfl, fun _ _ => rfl, hh, rfl, rfl⟩
  | cons m ms ih =>
    have hmi := hm m (by simp)
    obtain ⟨h1, h2⟩ := hI.mstep (q := q) hmi.2
    have hSm : s.hd.getD m 0 = S m := hh m hmi.1 (by simp)
    have hcnt := hI.mg m hmi.2
    have hh' : ∀ k, k < i → 0 < (ms ++ rest).count k → (mstep q s m).hd.getD k 0 = S k := by
      intro k hk hc
      have hk2 := hh k hk (by rw [List.cons_append, List.count_cons]; omega)
      simp only [mstep]
      split
      · rename_i h0
        rw [getD_set]
        split
        · rename_i h3
          obtain ⟨rfl, _⟩ := h3
          rw [hcnt, List.cons_append, List.count_cons_self] at h0
          omega
        · exact hk2
      · exact hk2
    obtain ⟨r1, r2, r3, r4, r5, r6⟩ := ih (mstep q s m) h1 (fun m' h' => hm m' (by simp [h'])) hh'
    have hql : q < s.cl.length := by rw [hI.lc]; exact hq
    refine ⟨r1, ?_, fun q' hq' => ?_, r4, r5, r6⟩
    · rw [List.foldl_cons, r2, List.foldl_cons]
      have : (mstep q s m).cl.getD q 0 = max (s.cl.getD q 0) (S m) := by
        simp only [mstep]
        rw [getD_set, if_pos ⟨rfl, hql⟩, hSm]
      rw [this]
    · rw [List.foldl_cons, r3 q' hq']
      simp only [mstep]
      rw [getD_set, if_neg (by intro h; exact hq' h.1.symm)]

structure PI (P : Nat) (y f t : Int) (L : List (Nat × List Nat)) (p n N i : Nat) : Prop where
  inv : Inv p n N i ((L.drop i).flatMap (·.2)) (runTo P y f t L (ps0 p n N L) i)
  cl : ∀ q, q < p → (runTo P y f t L (ps0 p n N L) i).cl.getD q 0 = clk L (stpAt P y f t L (ps0 p n N L)) i q
  hd : ∀ k, k < i → 0 < ((L.drop i).flatMap (·.2)).count k → (runTo P y f t L (ps0 p n N L) i).hd.getD k 0 = stpAt P y f t L (ps0 p n N L) k
  own : (runTo P y f t L (ps0 p n N L) i).own = if 0 ≤ y ∧ y < (i : Int) then stpAt P y f t L (ps0 p n N L) y.toNat else 0
  cs : ∀ j, j < N → (runTo P y f t L (ps0 p n N L) i).cs.getD j 0 = if 0 ≤ f + (j : Int) ∧ f + (j : Int) < (i : Int) then stpAt P y f t L (ps0 p n N L) (f + (j : Int)).toNat else 0

theorem pi_step {P : Nat} {y f t : Int} {L : List (Nat × List Nat)} {p n N i q : Nat} {ms : List Nat} (h : PI P y f t L p n N i) (hL : L[i]? = some (q, ms)) (hq : q < p) (hm : ∀ m ∈ ms, m < i) (hn : L.length = n) (hN : t - f = (N : Int)) :
    PI P y f t L p n N (i + 1) ∧ stpAt P y f t L (ps0 p n N L) i = ms.foldl (fun c m => max c (stpAt P y f t L (ps0 p n N L) m)) (clk L (stpAt P y f t L (ps0 p n N L)) i q) + if q = P then 1 else 0 := by
  have hi := (List.getElem?_eq_some_iff.1 hL).1
  have hI := h.inv
  have hh := h.hd
  rw [flat_drop hL] at hI hh
  obtain ⟨r1, r2, r3, r4, r5, r6⟩ := mfold_all (S := stpAt P y f t L (ps0 p n N L)) hq ms _ hI (fun m h' => ⟨hm m h', by have := hm m h'; omega⟩) hh
  have hrun := runTo_succ (P := P) (y := y) (f := f) (t := t) (s0 := ps0 p n N L) hL
  have hst : stpAt P y f t L (ps0 p n N L) i = tickOf P q (ms.foldl (mstep q) (runTo P y f t L (ps0 p n N L) i)) := by simp [stpAt, hL]
  have hgd : (L.getD i (0, [])).1 = q := by rw [getD_of hL]
  generalize hs' : ms.foldl (mstep q) (runTo P y f t L (ps0 p n N L) i) = s' at r1 r2 r3 r4 r5 r6 hrun hst
  refine ⟨⟨by rw [hrun]; exact r1.estep, fun q' hq' => ?_, fun k hk hc => ?_, ?_, fun j hj => ?_⟩, ?_⟩
  · rw [hrun]
    simp only [estep]
    rw [getD_set]
    unfold clk
    simp only [lastOf, hgd]
    by_cases e : q = q'
    · subst e
      rw [if_pos ⟨rfl, by rw [r1.lc]; exact hq⟩, if_pos rfl]
      exact hst.symm
    · rw [if_neg (by simp [e]), if_neg e, r3 q' (Ne.symm e)]
      exact h.cl q' hq'
  · rw [hrun]
    simp only [estep]
    have hmg := r1.mg i (by omega)
    by_cases e : k = i
    · subst e
      rw [if_pos (by rw [hmg]; exact hc), getD_set, if_pos ⟨rfl, by rw [r1.lh]; omega⟩, hst]
    · have := r4 k (by omega) hc
      split
      · rw [getD_set, if_neg (by omega)]; exact this
      · exact this
  · rw [hrun]
    simp only [estep, ownNext, r5, h.own]
    by_cases e : (i : Int) = y
    · subst e
      rw [if_pos rfl, if_pos (by omega), ← hst]
      simp
    · rw [if_neg e]
      by_cases e2 : 0 ≤ y ∧ y < (i : Int)
      · rw [if_pos e2, if_pos (by omega)]
      · rw [if_neg e2, if_neg (by omega)]
  · rw [hrun]
    simp only [estep, cntNext, r6]
    have hcs := h.cs j hj
    by_cases e : f + (j : Int) = (i : Int)
    · rw [if_pos (by omega), getD_set, if_pos ⟨by omega, by rw [← r6, r1.ls]; exact hj⟩, if_pos (by omega), e, ← hst]
      simp
    · have hne : ¬ ((i : Int) - f).toNat = j ∨ ¬ (f ≤ (i : Int)) := by omega
      have h2 : (if f ≤ (i : Int) ∧ (i : Int) < t then (runTo P y f t L (ps0 p n N L) i).cs.set ((i : Int) - f).toNat (tickOf P q s') else (runTo P y f t L (ps0 p n N L) i).cs).getD j 0 = (runTo P y f t L (ps0 p n N L) i).cs.getD j 0 := by
        split
        · rw [getD_set, if_neg (by omega)]
        · rfl
      rw [h2, hcs]
      by_cases e2 : 0 ≤ f + (j : Int) ∧ f + (j : Int) < (i : Int)
      · rw [if_pos e2, if_pos (by omega)]
      · rw [if_neg e2, if_neg (by omega)]
  · rw [hst, ← h.cl q hq, ← r2]
    unfold tickOf
    split <;> rfl

theorem pi_all {P : Nat} {y f t : Int} {L : List (Nat × List Nat)} {p n N : Nat} (hq : ∀ (i q : Nat) (ms : List Nat), L[i]? = some (q, ms) → q < p ∧ ms.length ≤ 256 ∧ ∀ m ∈ ms, m < i) (hn : L.length = n) (hn2 : n ≤ 256) (hN : t - f = (N : Int)) (i : Nat) (hi : i ≤ n) : PI P y f t L p n N i := by
  induction i with
  | zero =>
    have hb : (L.flatMap (·.2)).length ≤ 65792 := by
      have h1 := flat_len L (fun x hx => by
        obtain ⟨k, hk⟩ := List.getElem?_of_mem hx
        exact (hq k x.1 x.2 hk).2.1)
      rw [hn] at h1
      omega
    refine ⟨inv0 p n N L hb, fun q hq' => ?_, fun k hk => by omega, ?_, fun j hj => ?_⟩
    · show (List.replicate p 0).getD q 0 = _
      simp [clk, lastOf, List.getD_eq_getElem?_getD, List.getElem?_replicate, hq']
    · rw [if_neg (by omega)]; rfl
    · rw [if_neg (by omega)]
      show (List.replicate N 0).getD j 0 = _
      simp [List.getD_eq_getElem?_getD, List.getElem?_replicate, hj]
  | succ i ih =>
    obtain ⟨x, hx⟩ : ∃ x, L[i]? = some x := ⟨_, List.getElem?_eq_getElem (by omega)⟩
    obtain ⟨h1, _, h2⟩ := hq i x.1 x.2 hx
    exact (pi_step (ih (by omega)) hx h1 h2 hn hN).1

/-- What the law wants of event k. -/
def wantOf (n : Nat) (A : Nat → Nat) (k y : Int) : Bool := if k = y then false else if y < 0 ∨ (n : Int) ≤ y then true else if k < 0 ∨ (n : Int) ≤ k then false else (A k.toNat).testBit y.toNat

theorem res_want {y f t : Int} {L : List (Nat × List Nat)} {p n N : Nat} {A : Nat → Nat} (hq : ∀ (i q : Nat) (ms : List Nat), L[i]? = some (q, ms) → q < p ∧ ms.length ≤ 256 ∧ ∀ m ∈ ms, m < i) (hn : L.length = n) (hn2 : n ≤ 256) (hN : t - f = (N : Int)) (hA : Ancs L A) (j : Nat) (hj : j < N) :
    resOf (runTo (procTo L y n) y f t L (ps0 p n N L) n).own ((runTo (procTo L y n) y f t L (ps0 p n N L) n).cs.getD j 0) (f + j) y = wantOf n A (f + j) y := by
  obtain ⟨P, hP⟩ : ∃ P, P = procTo L y n := ⟨_, rfl⟩
  rw [← hP]
  have hpi := fun i hi => pi_all (P := P) (y := y) (f := f) (t := t) (p := p) hq hn hn2 hN i hi
  have hS : Stamps L P (stpAt P y f t L (ps0 p n N L)) := by
    intro k q ms hk
    have hkl := (List.getElem?_eq_some_iff.1 hk).1
    obtain ⟨h1, _, h2⟩ := hq k q ms hk
    exact (pi_step (hpi k (by omega)) hk h1 h2 hn hN).2
  have hW : Wf L := fun k q ms hk => (hq k q ms hk).2.2
  have hf := hpi n (Nat.le_refl _)
  rw [hf.own, hf.cs j hj]
  unfold resOf wantOf
  by_cases e1 : f + (j : Int) = y
  · simp [e1]
  · rw [if_neg e1]
    by_cases e2 : y < 0 ∨ (n : Int) ≤ y
    · rw [if_pos e2, if_neg (by omega)]
      simp [e1]
    · rw [if_neg e2, if_pos (by omega)]
      obtain ⟨x, hx⟩ : ∃ x, L[y.toNat]? = some x := ⟨_, List.getElem?_eq_getElem (by omega)⟩
      have hPx : P = x.1 := by
        rw [hP]
        unfold procTo
        rw [if_pos (by omega), getD_of (q := x.1) (ms := x.2) hx]
      have hx' : L[y.toNat]? = some (P, x.2) := by rw [hx, hPx]
      have hSy := (stamp_bound hS hW y.toNat P x.2 hx').2 rfl
      by_cases e3 : f + (j : Int) < 0 ∨ (n : Int) ≤ f + (j : Int)
      · rw [if_pos e3, if_neg (by omega)]
        simp
        omega
      · rw [if_neg e3, if_pos (by omega)]
        obtain ⟨z, hz⟩ : ∃ z, L[(f + (j : Int)).toNat]? = some z := ⟨_, List.getElem?_eq_getElem (by omega)⟩
        have := anc_stamp hS hA hW hx' (f + (j : Int)).toNat z.1 z.2 hz
        by_cases hb : (A (f + (j : Int)).toNat).testBit y.toNat = true
        · rw [hb]; simp [this.1 hb, e1]
        · rw [Bool.not_eq_true] at hb
          rw [hb]
          have h2 : ¬ stpAt P y f t L (ps0 p n N L) y.toNat ≤ stpAt P y f t L (ps0 p n N L) (f + (j : Int)).toNat := fun h => by rw [this.2 h] at hb; cases hb
          simp [h2]
end Go.Proofs.Ybulkogy
