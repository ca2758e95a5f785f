import Derived.Test.YbulkogyWalkKit
namespace Go.Proofs.Ybulkogy
set_option linter.unusedSimpArgs false
set_option linter.unusedVariables false

/-! ### the plain law: a vector clock's entry against the ancestors -/
def lastOf (L : List (Nat × List Nat)) : Nat → Nat → Option Nat
  | 0, _ => none
  | i + 1, q => if (L.getD i (0, [])).1 = q then some i else lastOf L i q
def cntP (L : List (Nat × List Nat)) (P : Nat) : Nat → Nat
  | 0 => 0
  | i + 1 => cntP L P i + if (L.getD i (0, [])).1 = P then 1 else 0
theorem cntP_mono {L : List (Nat × List Nat)} {P i j : Nat} (h : i ≤ j) : cntP L P i ≤ cntP L P j := by
  induction h with
  | refl => exact Nat.le_refl _
  | step _ ih => exact Nat.le_trans ih (by simp [cntP])
theorem lastOf_some {L : List (Nat × List Nat)} {i q k : Nat} (h : lastOf L i q = some k) : k < i ∧ (L.getD k (0, [])).1 = q ∧ ∀ j, k < j → j < i → (L.getD j (0, [])).1 ≠ q := by
  induction i with
  | zero => simp [lastOf] at h
  | succ i ih =>
    simp only [lastOf] at h
    split at h
    · rename_i hq
      cases h
      exact ⟨by omega, hq, fun j h1 h2 => by omega⟩
    · rename_i hq
      obtain ⟨h1, h2, h3⟩ := ih h
      refine ⟨by omega, h2, fun j hj1 hj2 => ?_⟩
      by_cases e : j = i
      · subst e; exact hq
      · exact h3 j hj1 (by omega)
theorem lastOf_none {L : List (Nat × List Nat)} {i q : Nat} (h : lastOf L i q = none) : ∀ j, j < i → (L.getD j (0, [])).1 ≠ q := by
  induction i with
  | zero => intro j hj; omega
  | succ i ih =>
    simp only [lastOf] at h
    split at h
    · cases h
    · rename_i hq
      intro j hj
      by_cases e : j = i
      · subst e; exact hq
      · exact ih h j (by omega)
theorem cntP_last {L : List (Nat × List Nat)} {i P : Nat} : (∀ k, lastOf L i P = some k → cntP L P i = cntP L P k + 1) ∧ (lastOf L i P = none → cntP L P i = 0) := by
  induction i with
  | zero => simp [lastOf, cntP]
  | succ i ih =>
    by_cases hq : (L.getD i (0, [])).1 = P
    · simp only [lastOf, cntP, if_pos hq]
      exact ⟨fun k h => by cases h; rfl, fun h => by cases h⟩
    · simp only [lastOf, cntP, if_neg hq, Nat.add_zero]
      exact ih

theorem foldmax_le {l : List Nat} {S : Nat → Nat} {c B : Nat} (hc : c ≤ B) (h : ∀ m ∈ l, S m ≤ B) : l.foldl (fun c m => max c (S m)) c ≤ B := by
  induction l generalizing c with
  | nil => exact hc
  | cons m l ih => exact ih (Nat.max_le.2 ⟨hc, h m (by simp)⟩) (fun m' hm => h m' (by simp [hm]))
theorem le_foldmax {l : List Nat} {S : Nat → Nat} {c x : Nat} : x ≤ l.foldl (fun c m => max c (S m)) c ↔ x ≤ c ∨ ∃ m ∈ l, x ≤ S m := by
  induction l generalizing c with
  | nil => simp
  | cons m l ih =>
    simp only [List.foldl_cons, ih, List.mem_cons]
    constructor
    · rintro (h | ⟨m', h1, h2⟩)
      · by_cases h' : x ≤ c
        · exact .inl h'
        · exact .inr ⟨m, .inl rfl, by omega⟩
      · exact .inr ⟨m', .inr h1, h2⟩
    · rintro (h | ⟨m', h1 | h1, h2⟩)
      · exact .inl (by omega)
      · subst h1; exact .inl (by omega)
      · exact .inr ⟨m', h1, h2⟩

/-- The entry at a process's clock. -/
def clk (L : List (Nat × List Nat)) (S : Nat → Nat) (i q : Nat) : Nat := match lastOf L i q with | some k => S k | none => 0
/-- The stamps' recursion. -/
def Stamps (L : List (Nat × List Nat)) (P : Nat) (S : Nat → Nat) : Prop := ∀ k q ms, L[k]? = some (q, ms) → S k = ms.foldl (fun c m => max c (S m)) (clk L S k q) + if q = P then 1 else 0
/-- The ancestors' recursion. -/
def Ancs (L : List (Nat × List Nat)) (A : Nat → Nat) : Prop := ∀ k q ms, L[k]? = some (q, ms) → A k = ms.foldl (fun a m => a ||| A m) ((1 <<< k) ||| (match lastOf L k q with | some l => A l | none => 0))
theorem foldor_bit {l : List Nat} {A : Nat → Nat} {a j : Nat} : (l.foldl (fun a m => a ||| A m) a).testBit j = true ↔ a.testBit j = true ∨ ∃ m ∈ l, (A m).testBit j = true := by
  induction l generalizing a with
  | nil => simp
  | cons m l ih =>
    simp only [List.foldl_cons, ih, List.mem_cons, Nat.testBit_or, Bool.or_eq_true]
    constructor
    · rintro ((h | h) | ⟨m', h1, h2⟩)
      · exact .inl h
      · exact .inr ⟨m, .inl rfl, h⟩
      · exact .inr ⟨m', .inr h1, h2⟩
    · rintro (h | ⟨m', h1 | h1, h2⟩)
      · exact .inl (.inl h)
      · subst h1; exact .inl (.inr h2)
      · exact .inr ⟨m', h1, h2⟩

def Wf (L : List (Nat × List Nat)) : Prop := ∀ (k q : Nat) (ms : List Nat), L[k]? = some (q, ms) → ∀ m ∈ ms, m < k
theorem getD_of {L : List (Nat × List Nat)} {k q : Nat} {ms : List Nat} (h : L[k]? = some (q, ms)) : L.getD k (0, []) = (q, ms) := by simp [List.getD_eq_getElem?_getD, h]

theorem stamp_bound {L : List (Nat × List Nat)} {P : Nat} {S : Nat → Nat} (hS : Stamps L P S) (hW : Wf L) (k : Nat) : ∀ q ms, L[k]? = some (q, ms) → S k ≤ cntP L P (k + 1) ∧ (q = P → S k = cntP L P k + 1) := by
  induction k using Nat.strongRecOn with
  | _ k ih =>
    intro q ms h
    have hlt := (List.getElem?_eq_some_iff.1 h).1
    have bnd : ∀ m, m < k → S m ≤ cntP L P k := by
      intro m hm
      obtain ⟨x, hx⟩ : ∃ x, L[m]? = some x := ⟨_, List.getElem?_eq_getElem (by omega)⟩
      exact Nat.le_trans (ih m hm x.1 x.2 hx).1 (cntP_mono (by omega))
    have hc : clk L S k q ≤ cntP L P k := by
      unfold clk
      split
      · rename_i l hl; exact bnd l (lastOf_some hl).1
      · omega
    have hf := foldmax_le (S := S) hc (fun m hm => bnd m (hW k q ms h m hm))
    have hr := hS k q ms h
    have hq : (L.getD k (0, [])).1 = q := by rw [getD_of h]
    have hcs : cntP L P (k + 1) = cntP L P k + if q = P then 1 else 0 := by simp only [cntP, hq]
    rw [hcs]
    by_cases e : q = P
    · subst e
      simp only [if_true] at hr ⊢
      refine ⟨by omega, fun _ => ?_⟩
      have hge : cntP L q k ≤ ms.foldl (fun c m => max c (S m)) (clk L S k q) := by
        refine le_foldmax.2 (.inl ?_)
        unfold clk
        split
        · rename_i l hl
          have hl' := lastOf_some hl
          obtain ⟨x, hx⟩ : ∃ x, L[l]? = some x := ⟨_, List.getElem?_eq_getElem (by omega)⟩
          have h2 := (ih l hl'.1 x.1 x.2 hx).2 (by have := hl'.2.1; rw [getD_of hx] at this; exact this)
          rw [h2, cntP_last.1 l hl]
          exact Nat.le_refl _
        · rename_i hl
          rw [cntP_last.2 hl]
          omega
      omega
    · simp only [if_neg e] at hr ⊢
      exact ⟨by omega, fun h' => absurd h' e⟩

theorem anc_stamp {L : List (Nat × List Nat)} {P : Nat} {S A : Nat → Nat} (hS : Stamps L P S) (hA : Ancs L A) (hW : Wf L) {j : Nat} {msj : List Nat} (hj : L[j]? = some (P, msj)) (k : Nat) :
    ∀ q ms, L[k]? = some (q, ms) → ((A k).testBit j = true ↔ S j ≤ S k) := by
  have hSj := (stamp_bound hS hW j P msj hj).2 rfl
  induction k using Nat.strongRecOn with
  | _ k ih =>
    intro q ms h
    have hlt := (List.getElem?_eq_some_iff.1 h).1
    have bnd : ∀ m, m < k → S m ≤ cntP L P k := by
      intro m hm
      obtain ⟨x, hx⟩ : ∃ x, L[m]? = some x := ⟨_, List.getElem?_eq_getElem (by omega)⟩
      exact Nat.le_trans (stamp_bound hS hW m x.1 x.2 hx).1 (cntP_mono (by omega))
    have ihm : ∀ m, m < k → ((A m).testBit j = true ↔ S j ≤ S m) := by
      intro m hm
      obtain ⟨x, hx⟩ : ∃ x, L[m]? = some x := ⟨_, List.getElem?_eq_getElem (by omega)⟩
      exact ih m hm x.1 x.2 hx
    have hb1 : (1 <<< k).testBit j = true ↔ j = k := by
      rw [Nat.one_shiftLeft, Nat.testBit_two_pow]
      constructor
      · intro h; have := of_decide_eq_true h; omega
      · intro h; subst h; simp
    rw [hA k q ms h, foldor_bit, Nat.testBit_or, Bool.or_eq_true, hb1]
    have hlast : ∀ {b : Prop}, ((match lastOf L k q with | some l => A l | none => 0).testBit j = true ↔ ∃ l, lastOf L k q = some l ∧ S j ≤ S l) := by
      intro b
      cases hl : lastOf L k q with
      | none => simp
      | some l =>
        simp only [Option.some.injEq]
        rw [ihm l (lastOf_some hl).1]
        exact ⟨fun h => ⟨l, rfl, h⟩, fun ⟨l', e, h⟩ => e ▸ h⟩
    rw [hlast (b := True)]
    have hms : (∃ m ∈ ms, (A m).testBit j = true) ↔ ∃ m ∈ ms, S j ≤ S m := by
      constructor
      · rintro ⟨m, h1, h2⟩; exact ⟨m, h1, (ihm m (hW k q ms h m h1)).1 h2⟩
      · rintro ⟨m, h1, h2⟩; exact ⟨m, h1, (ihm m (hW k q ms h m h1)).2 h2⟩
    rw [hms]
    by_cases e : q = P
    · subst e
      have hSk := (stamp_bound hS hW k q ms h).2 rfl
      constructor
      · rintro ((rfl | ⟨l, hl, h2⟩) | ⟨m, h1, h2⟩)
        · exact Nat.le_refl _
        · have := bnd l (lastOf_some hl).1; omega
        · have := bnd m (hW k q ms h m h1); omega
      · intro hle
        left
        by_cases ejk : j = k
        · exact .inl ejk
        · right
          have hjk : j < k := by
            rcases Nat.lt_or_ge j k with h' | h'
            · exact h'
            · exfalso
              have h1 : cntP L q (k + 1) ≤ cntP L q j := cntP_mono (by omega)
              have h2 : cntP L q (k + 1) = cntP L q k + 1 := by simp only [cntP, getD_of h, if_true]
              omega
          cases hl : lastOf L k q with
          | none => exact absurd (by rw [getD_of hj]) (lastOf_none hl j hjk)
          | some l =>
            refine ⟨l, rfl, ?_⟩
            obtain ⟨h1, h2, h3⟩ := lastOf_some hl
            have hjl : j ≤ l := by
              rcases Nat.lt_or_ge l j with h' | h'
              · exact absurd (by rw [getD_of hj]) (h3 j h' hjk)
              · exact h'
            obtain ⟨x, hx⟩ : ∃ x, L[l]? = some x := ⟨_, List.getElem?_eq_getElem (by omega)⟩
            have := (stamp_bound hS hW l x.1 x.2 hx).2 (by rw [getD_of hx] at h2; exact h2)
            have := cntP_mono (L := L) (P := q) hjl
            omega
    · have hr := hS k q ms h
      simp only [if_neg e, Nat.add_zero] at hr
      rw [hr, le_foldmax]
      have hne : ¬ j = k := by rintro rfl; rw [hj] at h; cases h; exact e rfl
      simp only [hne, false_or]
      have hck : (∃ l, lastOf L k q = some l ∧ S j ≤ S l) ↔ S j ≤ clk L S k q := by
        unfold clk
        cases hl : lastOf L k q with
        | none => simp; omega
        | some l => simp
      rw [hck]
end Go.Proofs.Ybulkogy
