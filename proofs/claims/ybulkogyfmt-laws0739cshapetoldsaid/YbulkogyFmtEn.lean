import Derived.Test.YbulkogyFmtInbox
import Derived.Test.YbulkogyFmtPlain
namespace Go.Proofs.YbulkogyFmt
set_option linter.unusedSimpArgs false
set_option linter.unusedVariables false

/-! ### the actors as a filter of the processes -/
def fil (n : Nat) (c : Nat → Bool) : List Nat := (List.range n).filter c
theorem range_split {n q : Nat} (h : q < n) : List.range n = List.range q ++ q :: List.range' (q + 1) (n - q - 1) := by
  apply List.ext_getElem
  · simp; omega
  · intro i h1 h2
    simp only [List.getElem_range]
    by_cases e : i < q
    · rw [List.getElem_append_left (by simpa using e)]
      simp
    · rw [List.getElem_append_right (by simp; omega)]
      simp only [List.length_range]
      by_cases e2 : i = q
      · subst e2; simp
      · have : ∃ k, i - q = k + 1 := ⟨i - q - 1, by omega⟩
        obtain ⟨k, hk⟩ := this
        simp only [hk, List.getElem_cons_succ, List.getElem_range']
        omega
theorem fil_split {n q : Nat} {c : Nat → Bool} (h : q < n) : fil n c = (List.range q).filter c ++ ((if c q then [q] else []) ++ (List.range' (q + 1) (n - q - 1)).filter c) := by
  unfold fil
  rw [range_split h, List.filter_append, List.filter_cons]
  split <;> simp
theorem filt_congr {l : List Nat} {c c' : Nat → Bool} (h : ∀ x ∈ l, c x = c' x) : l.filter c = l.filter c' := List.filter_congr h
theorem at_split {A B : List Nat} {q r : Nat} (hA : ∀ x ∈ A, x < q) (hB : ∀ x ∈ B, q ≤ x) (h : AtIdx (A ++ B) q r) : r = A.length := by
  obtain ⟨h1, h2, h3⟩ := h
  rcases Nat.lt_trichotomy r A.length with hr | hr | hr
  · have := h3 r (Nat.le_refl _) (by simp; omega)
    rw [List.getD_eq_getElem?_getD, List.getElem?_append_left hr, List.getElem?_eq_getElem hr] at this
    have := hA _ (List.getElem_mem hr)
    simp at *
    omega
  · exact hr
  · have hr2 : A.length < (A ++ B).length := by omega
    have := h2 A.length hr
    rw [List.getD_eq_getElem?_getD, List.getElem?_append_right (Nat.le_refl _), Nat.sub_self, List.getElem?_eq_getElem (by simp at hr2; omega)] at this
    have := hB _ (List.getElem_mem (l := B) (n := 0) (by simp at hr2; omega))
    simp at *
    omega
theorem fil_add {n q r : Nat} {c c' : Nat → Bool} (hq : q < n) (h0 : c q = false) (h1 : c' q = true) (hc : ∀ x, x ≠ q → c x = c' x) (h : AtIdx (fil n c) q r) : (fil n c).take r ++ q :: (fil n c).drop r = fil n c' := by
  have e1 := fil_split (c := c) hq
  have e2 := fil_split (c := c') hq
  rw [h0] at e1
  rw [h1] at e2
  simp only [Bool.false_eq_true, if_false, if_true, List.nil_append, List.singleton_append] at e1 e2
  have hr := at_split (q := q) (A := (List.range q).filter c) (B := (List.range' (q + 1) (n - q - 1)).filter c) (fun x hx => by simp at hx; omega) (fun x hx => by simp at hx; omega) (by rw [← e1]; exact h)
  rw [e1, hr, List.take_left, List.drop_left, e2]
  have a1 : (List.range q).filter c = (List.range q).filter c' := filt_congr (fun x hx => by simp at hx; exact hc x (by omega))
  have a2 : (List.range' (q + 1) (n - q - 1)).filter c = (List.range' (q + 1) (n - q - 1)).filter c' := filt_congr (fun x hx => by simp at hx; exact hc x (by omega))
  rw [a1, a2]
theorem fil_rem {n q r : Nat} {c c' : Nat → Bool} (hq : q < n) (h0 : c q = true) (h1 : c' q = false) (hc : ∀ x, x ≠ q → c x = c' x) (h : AtIdx (fil n c) q r) : (fil n c).take r ++ (fil n c).drop (r + 1) = fil n c' := by
  have e1 := fil_split (c := c) hq
  have e2 := fil_split (c := c') hq
  rw [h0] at e1
  rw [h1] at e2
  simp only [Bool.false_eq_true, if_false, if_true, List.nil_append, List.singleton_append] at e1 e2
  have hr := at_split (q := q) (A := (List.range q).filter c) (B := q :: (List.range' (q + 1) (n - q - 1)).filter c) (fun x hx => by simp at hx; omega) (fun x hx => by simp at hx; omega) (by rw [← e1]; exact h)
  rw [e1, hr, List.take_left, ← List.drop_drop, List.drop_left, e2]
  have a1 : (List.range q).filter c = (List.range q).filter c' := filt_congr (fun x hx => by simp at hx; exact hc x (by omega))
  have a2 : (List.range' (q + 1) (n - q - 1)).filter c = (List.range' (q + 1) (n - q - 1)).filter c' := filt_congr (fun x hx => by simp at hx; exact hc x (by omega))
  rw [a1, a2]
  rfl
theorem fil_congr {n : Nat} {c c' : Nat → Bool} (h : ∀ x, x < n → c x = c' x) : fil n c = fil n c' := filt_congr (fun x hx => h x (by simpa using hx))
theorem fil_len (n : Nat) (c : Nat → Bool) : (fil n c).length ≤ n := by
  have := List.length_filter_le c (List.range n)
  simpa [fil] using this
theorem fil_len_lt {n q : Nat} {c : Nat → Bool} (hq : q < n) (h0 : c q = false) : (fil n c).length < n := by
  rw [fil_split hq, h0]
  have h1 := List.length_filter_le c (List.range q)
  have h2 := List.length_filter_le c (List.range' (q + 1) (n - q - 1))
  simp at h1 h2 ⊢
  omega
theorem fil_sorted (n : Nat) (c : Nat → Bool) : ∀ a b, a ≤ b → b < (fil n c).length → (fil n c).getD a 0 ≤ (fil n c).getD b 0 := by
  have hp : (fil n c).Pairwise (· < ·) := List.Pairwise.filter _ List.pairwise_lt_range
  intro a b hab hb
  rcases Nat.lt_or_ge a b with h | h
  · have := List.pairwise_iff_getElem.1 hp a b (by omega) hb h
    rw [List.getD_eq_getElem?_getD, List.getD_eq_getElem?_getD, List.getElem?_eq_getElem (by omega), List.getElem?_eq_getElem hb]
    simp
    omega
  · obtain rfl : a = b := by omega
    exact Nat.le_refl _
theorem en_fil (n : Nat) (s : BS) : enOf n s = fil n (can s) := rfl
end Go.Proofs.YbulkogyFmt
