import Derived.Test.YbulkogyFmtRows
namespace Go.Proofs.YbulkogyFmt
set_option linter.unusedSimpArgs false
set_option linter.unusedVariables false

/-! ### the broadcast round, plainly -/
structure BS where
  sent : List Bool
  inbox : List (List Nat)
  steps : List (Nat × List Nat)
  msgs : List Nat

def can (s : BS) (q : Nat) : Bool := !(s.sent.getD q false) || !(s.inbox.getD q []).isEmpty
def enOf (n : Nat) (s : BS) : List Nat := (List.range n).filter (can s)
def pickOf (c : Nat → Nat) (n : Nat) (s : BS) : Nat := (enOf n s).getD (c s.steps.length % (enOf n s).length) 0
def sendOf (n p : Nat) (s : BS) : BS :=
  { sent := s.sent.set p true, steps := s.steps ++ [(p, [])], msgs := s.msgs ++ [s.steps.length], inbox := (List.range n).map fun q => if q = p then s.inbox.getD q [] else s.inbox.getD q [] ++ [s.steps.length] }
def recvOf (p : Nat) (s : BS) : BS :=
  { s with steps := s.steps ++ [(p, [(s.inbox.getD p []).headD 0])], inbox := s.inbox.set p (s.inbox.getD p []).tail }
def stepOf (c : Nat → Nat) (n : Nat) (s : BS) : BS := if s.sent.getD (pickOf c n s) false = true then recvOf (pickOf c n s) s else sendOf n (pickOf c n s) s
def bs0 (n : Nat) : BS := ⟨List.replicate n false, List.replicate n [], [], []⟩
def runOf (c : Nat → Nat) (n : Nat) : Nat → BS
  | 0 => bs0 n
  | i + 1 => stepOf c n (runOf c n i)

def sumIn (l : List (List Nat)) : Nat := (l.map List.length).sum
def sents (l : List Bool) : Nat := l.count true

theorem sumIn_set {l : List (List Nat)} {p : Nat} {x : List Nat} (h : p < l.length) : sumIn (l.set p x) + (l.getD p []).length = sumIn l + x.length := by
  induction l generalizing p with
  | nil => simp at h
  | cons a l ih =>
    cases p with
    | zero => simp [sumIn]; omega
    | succ p =>
      have := ih (p := p) (by simpa using h)
      simp [sumIn] at this ⊢
      omega
theorem sumIn_map (n : Nat) (f : Nat → List Nat) : sumIn ((List.range n).map f) = ((List.range n).map fun q => (f q).length).sum := by simp [sumIn, List.map_map, Function.comp_def]
theorem list_eq_map {α : Type} (l : List α) (d : α) : l = (List.range l.length).map fun q => l.getD q d := by
  apply List.ext_getElem
  · simp
  · intro i h1 h2
    simp [List.getD_eq_getElem?_getD, h1]
theorem sum_add_one {n p : Nat} (f g : Nat → Nat) (hp : p < n) (hfp : g p = f p) (h : ∀ q, q < n → q ≠ p → g q = f q + 1) : ((List.range n).map g).sum + 1 = ((List.range n).map f).sum + n := by
  induction n with
  | zero => omega
  | succ n ih =>
    rw [List.range_succ, List.map_append, List.map_append, List.sum_append, List.sum_append]
    simp only [List.map_cons, List.map_nil, List.sum_cons, List.sum_nil, Nat.add_zero]
    by_cases e : p = n
    · subst e
      have : ∀ m, m ≤ p → ((List.range m).map g).sum = ((List.range m).map f).sum + m := by
        intro m hm
        induction m with
        | zero => rfl
        | succ m ih2 =>
          rw [List.range_succ, List.map_append, List.map_append, List.sum_append, List.sum_append, ih2 (by omega)]
          simp only [List.map_cons, List.map_nil, List.sum_cons, List.sum_nil, Nat.add_zero]
          have := h m (by omega) (by omega)
          omega
      have := this p (Nat.le_refl _)
      omega
    · have h1 := ih (by omega) (fun q hq hqp => h q (by omega) hqp)
      have h2 := h n (by omega) (Ne.symm e)
      omega
theorem sents_set {l : List Bool} {p : Nat} (h : p < l.length) (hf : l.getD p false = false) : sents (l.set p true) = sents l + 1 := by
  induction l generalizing p with
  | nil => simp at h
  | cons a l ih =>
    cases p with
    | zero =>
      simp at hf
      subst hf
      simp [sents]
    | succ p =>
      have := ih (p := p) (by simpa using h) (by simpa using hf)
      simp only [sents, List.set_cons_succ, List.count_cons] at this ⊢
      omega
theorem sents_le (l : List Bool) : sents l ≤ l.length := List.count_le_length
theorem sents_lt {l : List Bool} {p : Nat} (h : p < l.length) (hf : l.getD p false = false) : sents l < l.length := by
  have := sents_set h hf
  have h2 := sents_le (l.set p true)
  simp at h2
  omega

/-- What every state keeps. -/
structure BInv (n : Nat) (s : BS) : Prop where
  ls : s.sent.length = n
  li : s.inbox.length = n
  lm : s.msgs.length = sents s.sent
  tot : s.steps.length + sumIn s.inbox = n * sents s.sent

theorem mem_en {n q : Nat} {s : BS} : q ∈ enOf n s ↔ q < n ∧ can s q = true := by simp [enOf]
theorem en_nil {n : Nat} {s : BS} (h : enOf n s = []) : ∀ q, q < n → s.sent.getD q false = true ∧ s.inbox.getD q [] = [] := by
  intro q hq
  have : ¬ q ∈ enOf n s := by rw [h]; simp
  rw [mem_en] at this
  have h2 : can s q = false := by
    cases hc : can s q with
    | false => rfl
    | true => exact absurd ⟨hq, hc⟩ this
  simp [can] at h2
  simpa using h2
theorem sum_zero_mem {l : List (List Nat)} {q : Nat} {x : List Nat} (h : l[q]? = some x) : x.length ≤ sumIn l := by
  induction l generalizing q with
  | nil => simp at h
  | cons a l ih =>
    cases q with
    | zero => simp at h; subst h; simp [sumIn]
    | succ q =>
      have := ih (q := q) (by simpa using h)
      simp [sumIn] at this ⊢
      omega
theorem BInv.more {n : Nat} {s : BS} (h : BInv n s) (hn : 0 < n) (he : enOf n s ≠ []) : s.steps.length < n * n := by
  obtain ⟨q, hq⟩ : ∃ q, q ∈ enOf n s := by
    cases hl : enOf n s with
    | nil => exact absurd hl he
    | cons a l => exact ⟨a, by simp⟩
  rw [mem_en] at hq
  obtain ⟨hqn, hc⟩ := hq
  have ht := h.tot
  have hle := sents_le s.sent
  rw [h.ls] at hle
  have hmul : n * sents s.sent ≤ n * n := Nat.mul_le_mul_left n hle
  simp only [can, Bool.or_eq_true, Bool.not_eq_true'] at hc
  rcases hc with hc | hc
  · have hlt := sents_lt (by rw [h.ls]; exact hqn) hc
    rw [h.ls] at hlt
    have : n * (sents s.sent + 1) ≤ n * n := Nat.mul_le_mul_left n hlt
    rw [Nat.mul_add] at this
    omega
  · obtain ⟨x, hx⟩ : ∃ x, s.inbox[q]? = some x := ⟨_, List.getElem?_eq_getElem (by rw [h.li]; exact hqn)⟩
    have hxl := sum_zero_mem hx
    have hxe : s.inbox.getD q [] = x := by simp [List.getD_eq_getElem?_getD, hx]
    rw [hxe] at hc
    have : 0 < x.length := by
      cases x with
      | nil => simp at hc
      | cons _ _ => simp
    omega
theorem count_all {l : List Bool} (h : ∀ q, q < l.length → l.getD q false = true) : sents l = l.length := by
  induction l with
  | nil => rfl
  | cons a l ih =>
    have h0 := h 0 (by simp)
    simp at h0
    have := ih (fun q hq => by have := h (q + 1) (by simp; omega); simpa using this)
    simp only [sents, List.count_cons, h0, List.length_cons] at this ⊢
    simp
    omega
theorem sumIn_all {l : List (List Nat)} (h : ∀ q, q < l.length → l.getD q [] = []) : sumIn l = 0 := by
  induction l with
  | nil => rfl
  | cons a l ih =>
    have h0 := h 0 (by simp)
    simp at h0
    have := ih (fun q hq => by have := h (q + 1) (by simp; omega); simpa using this)
    simp [sumIn, h0] at this ⊢
    exact this
theorem BInv.done {n : Nat} {s : BS} (h : BInv n s) (he : enOf n s = []) : s.steps.length = n * n ∧ sents s.sent = n := by
  have h1 := en_nil he
  have e1 : sents s.sent = n := by rw [count_all fun q hq => (h1 q (by rw [h.ls] at hq; exact hq)).1, h.ls]
  have e2 := sumIn_all (l := s.inbox) fun q hq => (h1 q (by rw [h.li] at hq; exact hq)).2
  have ht := h.tot
  rw [e1, e2] at ht
  exact ⟨by omega, e1⟩

theorem BInv.send {n p : Nat} {s : BS} (h : BInv n s) (hp : p < n) (hf : s.sent.getD p false = false) : BInv n (sendOf n p s) := by
  refine ⟨by simp [sendOf, h.ls], by simp [sendOf], ?_, ?_⟩
  · simp only [sendOf, List.length_append, List.length_cons, List.length_nil, h.lm]
    rw [sents_set (by rw [h.ls]; exact hp) hf]
  · simp only [sendOf, List.length_append, List.length_cons, List.length_nil]
    rw [sents_set (by rw [h.ls]; exact hp) hf, sumIn_map]
    have h1 := sum_add_one (n := n) (p := p) (fun q => (s.inbox.getD q []).length) (fun q => (if q = p then s.inbox.getD q [] else s.inbox.getD q [] ++ [s.steps.length]).length) hp (by simp) (fun q hq hqp => by simp [hqp])
    have h2 : ((List.range n).map fun q => (s.inbox.getD q []).length).sum = sumIn s.inbox := by
      have e := list_eq_map s.inbox []
      rw [h.li] at e
      conv => rhs; rw [e]
      rw [sumIn_map]
    rw [h2] at h1
    have ht := h.tot
    rw [Nat.mul_add]
    omega
theorem BInv.recv {n p : Nat} {s : BS} (h : BInv n s) (hp : p < n) (hi : s.inbox.getD p [] ≠ []) : BInv n (recvOf p s) := by
  refine ⟨h.ls, by simp [recvOf, h.li], h.lm, ?_⟩
  simp only [recvOf, List.length_append, List.length_cons, List.length_nil]
  have h1 := sumIn_set (l := s.inbox) (p := p) (x := (s.inbox.getD p []).tail) (by rw [h.li]; exact hp)
  have h2 : (s.inbox.getD p []).length = (s.inbox.getD p []).tail.length + 1 := by
    cases hl : s.inbox.getD p [] with
    | nil => exact absurd hl hi
    | cons a l => simp
  have ht := h.tot
  omega
theorem pick_mem {c : Nat → Nat} {n : Nat} {s : BS} (he : enOf n s ≠ []) : pickOf c n s ∈ enOf n s := by
  have hl : 0 < (enOf n s).length := List.length_pos_iff.2 he
  have : c s.steps.length % (enOf n s).length < (enOf n s).length := Nat.mod_lt _ hl
  unfold pickOf
  rw [List.getD_eq_getElem?_getD, List.getElem?_eq_getElem this]
  simp
theorem BInv.step {c : Nat → Nat} {n : Nat} {s : BS} (h : BInv n s) (he : enOf n s ≠ []) : BInv n (stepOf c n s) := by
  have hm := pick_mem (c := c) he
  rw [mem_en] at hm
  unfold stepOf
  split
  · rename_i hs
    refine h.recv hm.1 fun hi => ?_
    have := hm.2
    simp [can, hi, hs] at this
    simp_all
  · rename_i hs
    exact h.send hm.1 (by simpa using hs)
theorem BInv.zero (n : Nat) : BInv n (bs0 n) := by
  have h1 : sents (List.replicate n false) = 0 := by simp [sents, List.count_replicate]
  have h2 : sumIn (List.replicate n []) = 0 := by simp [sumIn]
  exact ⟨by simp [bs0], by simp [bs0], by simp [bs0, h1], by simp [bs0, h1, h2]⟩
theorem run_inv (c : Nat → Nat) {n : Nat} (hn : 0 < n) (i : Nat) (hi : i ≤ n * n) : BInv n (runOf c n i) ∧ (runOf c n i).steps.length = i := by
  induction i with
  | zero => exact ⟨BInv.zero n, rfl⟩
  | succ i ih =>
    obtain ⟨h1, h2⟩ := ih (by omega)
    have he : enOf n (runOf c n i) ≠ [] := fun he => by have := (h1.done he).1; omega
    refine ⟨h1.step he, ?_⟩
    show (stepOf c n (runOf c n i)).steps.length = i + 1
    unfold stepOf
    split <;> simp [recvOf, sendOf, h2]
theorem run_en {c : Nat → Nat} {n : Nat} (hn : 0 < n) {i : Nat} (hi : i < n * n) : enOf n (runOf c n i) ≠ [] := fun he => by
  obtain ⟨h1, h2⟩ := run_inv c hn i (by omega)
  have := (h1.done he).1
  omega
theorem run_end {c : Nat → Nat} {n : Nat} (hn : 0 < n) : enOf n (runOf c n (n * n)) = [] := by
  obtain ⟨h1, h2⟩ := run_inv c hn (n * n) (Nat.le_refl _)
  cases he : enOf n (runOf c n (n * n)) with
  | nil => rfl
  | cons a l =>
    have := h1.more hn (by rw [he]; simp)
    omega
end Go.Proofs.YbulkogyFmt
