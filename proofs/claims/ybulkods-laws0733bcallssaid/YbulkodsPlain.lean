import Derived.Test.YbulkodsKit
namespace Go.Proofs.Ybulkods
set_option linter.unusedSimpArgs false
set_option linter.unusedVariables false

/-! ### The stock's answer: the lowest number from 'fr' up of residue r modulo m -/
def good (fr r m x : Int) : Bool := decide (fr ≤ x) && (x % m == r)
def step (fr r m b x : Int) : Int := if good fr r m x = true ∧ (b < 0 ∨ x < b) then x else b
def best (fr r m : Int) (l : List Int) : Int := l.foldl (step fr r m) (-1)
theorem best_snoc (fr r m : Int) (l : List Int) (x : Int) : best fr r m (l ++ [x]) = step fr r m (best fr r m l) x := by simp [best]

theorem snocInd {P : List Int → Prop} (h0 : P []) (h1 : ∀ l x, P l → P (l ++ [x])) (l : List Int) : P l := by
  have h : ∀ l : List Int, P l.reverse := fun l => by
    induction l with
    | nil => exact h0
    | cons x l ih => rw [List.reverse_cons]; exact h1 _ _ ih
  simpa using h l.reverse

/-- 'none is found' or 'b is found, and it is the lowest'. -/
theorem best_spec (fr r m : Int) (l : List Int) (hl : ∀ x ∈ l, 0 ≤ x) :
    (best fr r m l = -1 ∧ ∀ x ∈ l, good fr r m x = false) ∨ (0 ≤ best fr r m l ∧ best fr r m l ∈ l ∧ good fr r m (best fr r m l) = true ∧ ∀ x ∈ l, good fr r m x = true → best fr r m l ≤ x) := by
  revert hl
  refine snocInd (P := fun l => (∀ x ∈ l, 0 ≤ x) → (best fr r m l = -1 ∧ ∀ x ∈ l, good fr r m x = false) ∨ (0 ≤ best fr r m l ∧ best fr r m l ∈ l ∧ good fr r m (best fr r m l) = true ∧ ∀ x ∈ l, good fr r m x = true → best fr r m l ≤ x)) ?_ ?_ l
  · intro _; exact .inl ⟨rfl, by simp⟩
  · intro l x ih hl
    have hx : 0 ≤ x := hl x (by simp)
    have ih := ih fun y hy => hl y (by simp [hy])
    rw [best_snoc]
    unfold step
    rcases ih with ⟨h1, h2⟩ | ⟨h1, h2, h3, h4⟩
    · rw [h1]
      cases hg : good fr r m x
      · left
        refine ⟨by simp, fun y hy => ?_⟩
        rcases List.mem_append.1 hy with hy | hy
        · exact h2 y hy
        · simp at hy; rw [hy]; exact hg
      · right
        rw [if_pos ⟨rfl, .inl (by omega)⟩]
        refine ⟨hx, by simp, hg, fun y hy hy' => ?_⟩
        rcases List.mem_append.1 hy with hy | hy
        · rw [h2 y hy] at hy'; cases hy'
        · simp at hy; omega
    · right
      by_cases hc : good fr r m x = true ∧ (best fr r m l < 0 ∨ x < best fr r m l)
      · rw [if_pos hc]
        refine ⟨hx, by simp, hc.1, fun y hy hy' => ?_⟩
        rcases List.mem_append.1 hy with hy | hy
        · have := h4 y hy hy'; omega
        · simp at hy; omega
      · rw [if_neg hc]
        refine ⟨h1, by simp [h2], h3, fun y hy hy' => ?_⟩
        rcases List.mem_append.1 hy with hy | hy
        · exact h4 y hy hy'
        · simp at hy; subst hy
          have : ¬ y < best fr r m l := fun h => hc ⟨hy', .inr h⟩
          omega

/-! ### The model -/
/-- May v be answered? ('fb': is the bit free) -/
def mdl (h : List Int) (m r limit : Int) (fb : Int → Bool) : Nat → Int → Int × Bool
  | 0, _ => (0, false)
  | n + 1, v => if v ∈ h ∧ v % m = r then (if 0 < limit ∧ limit ≤ v then (0, false) else if fb v = true then (v, true) else mdl h m r limit fb n (v + 1)) else mdl h m r limit fb n (v + 1)

/-- Nothing fits in [v, b): the model goes on at b. -/
theorem mdl_skip (h : List Int) (m r limit : Int) (fb : Int → Bool) : ∀ (k : Nat) (n : Nat) (v : Int), (∀ x ∈ h, x % m = r → v ≤ x → v + k ≤ x) → k ≤ n → mdl h m r limit fb n v = mdl h m r limit fb (n - k) (v + k)
  | 0, n, v, _, _ => by simp
  | k + 1, n, v, hx, hk => by
    obtain ⟨n, rfl⟩ : ∃ n', n = n' + 1 := ⟨n - 1, by omega⟩
    have hv : ¬ (v ∈ h ∧ v % m = r) := fun ⟨h1, h2⟩ => by have := hx v h1 h2 (Int.le_refl _); omega
    rw [mdl, if_neg hv, mdl_skip h m r limit fb k n (v + 1) (fun x h1 h2 h3 => by have := hx x h1 h2 (by omega); omega) (by omega)]
    rw [show n + 1 - (k + 1) = n - k by omega, show v + 1 + (k : Int) = v + ((k + 1 : Nat) : Int) by omega]
/-- Nothing fits from v on. -/
theorem mdl_none (h : List Int) (m r limit : Int) (fb : Int → Bool) : ∀ (n : Nat) (v : Int), (∀ x ∈ h, x % m = r → ¬ v ≤ x) → mdl h m r limit fb n v = (0, false)
  | 0, _, _ => rfl
  | n + 1, v, hx => by
    have hv : ¬ (v ∈ h ∧ v % m = r) := fun ⟨h1, h2⟩ => hx v h1 h2 (Int.le_refl _)
    rw [mdl, if_neg hv, mdl_none h m r limit fb n (v + 1) fun x h1 h2 h3 => hx x h1 h2 (by omega)]

/-- The rounds of the server's loop, one by one, against the model; top = first + 255: no number of h lies above. -/
def M (h : List Int) (m r limit : Int) (fb : Int → Bool) (top v : Int) : Int × Bool := mdl h m r limit fb (top + 1 - v).toNat v

theorem M_none {h : List Int} {m r limit : Int} {fb : Int → Bool} {top v : Int} (hb : ∀ x ∈ h, good v r m x = false) : M h m r limit fb top v = (0, false) := by
  refine mdl_none h m r limit fb _ v fun x h1 h2 h3 => ?_
  have := hb x h1
  simp [good, h2, h3] at this
theorem M_found {h : List Int} {m r limit : Int} {fb : Int → Bool} {top v b : Int} (ht : ∀ x ∈ h, x ≤ top) (hbm : b ∈ h) (hg : good v r m b = true) (hmin : ∀ x ∈ h, good v r m x = true → b ≤ x) :
    M h m r limit fb top v = if 0 < limit ∧ limit ≤ b then (0, false) else if fb b = true then (b, true) else M h m r limit fb top (b + 1) := by
  have hbt := ht b hbm
  simp [good] at hg
  obtain ⟨k, hk⟩ : ∃ k : Nat, b = v + k := ⟨(b - v).toNat, by omega⟩
  have h1 := mdl_skip h m r limit fb k (top + 1 - v).toNat v (fun x h1 h2 h3 => by have := hmin x h1 (by simp [good, h2, h3]); omega) (by omega)
  unfold M
  rw [h1, ← hk]
  obtain ⟨n, hn⟩ : ∃ n, (top + 1 - v).toNat - k = n + 1 := ⟨(top - b).toNat, by omega⟩
  rw [hn, mdl, if_pos ⟨hbm, hg.2⟩]
  rw [show n = (top + 1 - (b + 1)).toNat by omega]
theorem M_over {h : List Int} {m r limit : Int} {fb : Int → Bool} {top v : Int} (hv : top < v) : M h m r limit fb top v = (0, false) := by
  unfold M
  rw [show (top + 1 - v).toNat = 0 by omega, mdl]
theorem M_step {h : List Int} {m r limit : Int} {fb : Int → Bool} {top v : Int} (hv : v ≤ top) :
    M h m r limit fb top v = if v ∈ h ∧ v % m = r then (if 0 < limit ∧ limit ≤ v then (0, false) else if fb v = true then (v, true) else M h m r limit fb top (v + 1)) else M h m r limit fb top (v + 1) := by
  unfold M
  obtain ⟨n, hn⟩ : ∃ n, (top + 1 - v).toNat = n + 1 := ⟨(top - v).toNat, by omega⟩
  rw [hn, mdl, show n = (top + 1 - (v + 1)).toNat by omega]
end Go.Proofs.Ybulkods
