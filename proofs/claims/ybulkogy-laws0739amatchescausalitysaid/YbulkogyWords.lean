import Derived.Test.YbulkogyRun
import Derived.Laws.Bits64b
namespace Go.Proofs.Ybulkogy
open Go.RowKit
set_option linter.unusedSimpArgs false
set_option linter.unusedVariables false

/-! ### the arguments, and the bit sets as words -/
def ArgSt (w : World) (a1 : Option Addr) (R : List (Int × List Int)) : Prop := ∀ (i : Nat) (b : Int) (ms : List Int), R[i]? = some (b, ms) → ∃ (g off : Nat) (am : Option Addr) (cm : Nat), a1 = some ⟨g, off, none⟩ ∧ 0 ≤ b ∧ b ≤ 255 ∧ (ms.length : Int) ≤ 9223372036854775807 ∧
  w.cell? ⟨g, off + i * 2, none⟩ = some (.int .u8 b) ∧ w.cell? ⟨g, off + i * 2 + 1, none⟩ = some (.slice am ms.length cm) ∧ ∀ (j : Nat) (m : Int), ms[j]? = some m → ∃ (g' off' : Nat), am = some ⟨g', off', none⟩ ∧ w.cell? ⟨g', off' + j, none⟩ = some (.int .u8 m) ∧ 0 ≤ m ∧ m ≤ 255
theorem ArgSt.move {w w' : World} {a1 : Option Addr} {R : List (Int × List Int)} (h : ArgSt w a1 R) (hb : Below w.heap.size w w') : ArgSt w' a1 R := by
  intro i b ms hi
  obtain ⟨g, off, am, cm, h1, h2, h3, h4, h5, h6, h7⟩ := h i b ms hi
  refine ⟨g, off, am, cm, h1, h2, h3, h4, (hb.cell (World.block_lt_of_cell? w _ h5)).trans h5, (hb.cell (World.block_lt_of_cell? w _ h6)).trans h6, fun j m hj => ?_⟩
  obtain ⟨g', off', k1, k2, k3⟩ := h7 j m hj
  exact ⟨g', off', k1, (hb.cell (World.block_lt_of_cell? w _ k2)).trans k2, k3⟩

/-- The steps as the program takes them. -/
def mkL (p : Nat) (R : List (Int × List Int)) : List (Nat × List Nat) := R.zipIdx.map fun x => ((x.1.1 % (p : Int)).toNat, if x.2 = 0 then [] else x.1.2.map fun m => (m % (x.2 : Int)).toNat)
theorem mkL_len (p : Nat) (R : List (Int × List Int)) : (mkL p R).length = R.length := by simp [mkL]
theorem mkL_get {p : Nat} {R : List (Int × List Int)} {i : Nat} {b : Int} {ms : List Int} (h : R[i]? = some (b, ms)) : (mkL p R)[i]? = some ((b % (p : Int)).toNat, if i = 0 then [] else ms.map fun m => (m % (i : Int)).toNat) := by
  simp [mkL, List.getElem?_zipIdx, h]
theorem mkL_wf {p : Nat} {R : List (Int × List Int)} (hp : 0 < p) (hR : ∀ x ∈ R, x.2.length ≤ 256) : ∀ (i q : Nat) (ms : List Nat), (mkL p R)[i]? = some (q, ms) → q < p ∧ ms.length ≤ 256 ∧ ∀ m ∈ ms, m < i := by
  intro i q ms h
  have hi := (List.getElem?_eq_some_iff.1 h).1
  rw [mkL_len] at hi
  obtain ⟨⟨b, rs⟩, hx⟩ : ∃ x, R[i]? = some x := ⟨_, List.getElem?_eq_getElem hi⟩
  rw [mkL_get hx] at h
  cases h
  have h0 : 0 ≤ b % (p : Int) := Int.emod_nonneg _ (by omega)
  have h1 : b % (p : Int) < (p : Int) := Int.emod_lt_of_pos _ (by omega)
  refine ⟨by omega, ?_, ?_⟩
  · have := hR _ (List.mem_of_getElem? hx)
    split
    · simp
    · simpa using this
  · intro m hm
    split at hm
    · simp at hm
    · rename_i hi0
      obtain ⟨x, _, rfl⟩ := List.mem_map.1 hm
      have h2 : 0 ≤ x % (i : Int) := Int.emod_nonneg _ (by omega)
      have h3 : x % (i : Int) < (i : Int) := Int.emod_lt_of_pos _ (by omega)
      omega

def word (a t : Nat) : Nat := (a >>> (64 * t)) % 2 ^ 64
theorem word_lt (a t : Nat) : word a t < 18446744073709551616 := Nat.mod_lt _ (by decide)
theorem word_or (a b t : Nat) : word (a ||| b) t = word a t ||| word b t := by
  unfold word
  rw [Nat.shiftRight_or_distrib, Nat.or_mod_two_pow]
theorem word_bit (a t j : Nat) : (word a t).testBit j = (decide (j < 64) && a.testBit (64 * t + j)) := by
  unfold word
  rw [Nat.testBit_mod_two_pow, Nat.testBit_shiftRight]
theorem word_zero (t : Nat) : word 0 t = 0 := by simp [word]
theorem word_one (i t : Nat) : word (1 <<< i) t = if t = i / 64 then 1 <<< (i % 64) else 0 := by
  apply Nat.eq_of_testBit_eq
  intro j
  rw [word_bit, Nat.one_shiftLeft, Nat.testBit_two_pow]
  split
  · rename_i h
    rw [Nat.one_shiftLeft, Nat.testBit_two_pow, Bool.eq_iff_iff]
    simp
    omega
  · rename_i h
    rw [Nat.zero_testBit, Bool.eq_false_iff]
    simp
    omega
def words (W a : Nat) : List Value := (List.range W).map fun t => Value.int .u64 ((word a t : Nat) : Int)
theorem words_zero (W : Nat) : words W 0 = List.replicate W (.int .u64 0) := by simp [words, word_zero, List.map_const']
theorem words_get {W a t : Nat} (h : t < W) : (words W a).toArray[t]? = some (.int .u64 ((word a t : Nat) : Int)) := by simp [words, h]
theorem words_one {W i : Nat} (h : i / 64 < W) : (words W 0).toArray.setIfInBounds (i / 64) (.int .u64 ((1 <<< (i % 64) : Nat) : Int)) = (words W (1 <<< i)).toArray := by
  apply Array.ext
  · simp [words]
  · intro t h1 h2
    simp [words] at h2
    by_cases e : i / 64 = t
    · subst e
      simp [words, word_one]
    · simp [words, word_one, e, word_zero, Array.getElem_setIfInBounds, Ne.symm e]
def orTo (W j a b : Nat) : List Value := (List.range W).map fun t => Value.int .u64 ((if t < j then word (a ||| b) t else word a t : Nat) : Int)
theorem orTo_zero (W a b : Nat) : orTo W 0 a b = words W a := by simp [orTo, words]
theorem orTo_all (W a b : Nat) : orTo W W a b = words W (a ||| b) := by
  unfold orTo words
  exact List.map_congr_left fun t ht => by rw [if_pos (by simpa using ht)]
theorem orTo_get {W j a b t : Nat} (h : t < W) (hj : j ≤ t) : (orTo W j a b).toArray[t]? = some (.int .u64 ((word a t : Nat) : Int)) := by
  simp [orTo, h, show ¬ t < j by omega]
theorem orTo_set {W j a b : Nat} (h : j < W) : (orTo W j a b).toArray.setIfInBounds j (.int .u64 ((word a j ||| word b j : Nat) : Int)) = (orTo W (j + 1) a b).toArray := by
  apply Array.ext
  · simp [orTo]
  · intro t h1 h2
    simp [orTo] at h2
    by_cases e : j = t
    · subst e
      simp [orTo, word_or]
    · by_cases e2 : t < j
      · simp [orTo, e, e2, Array.getElem_setIfInBounds, show t < j + 1 by omega]
      · simp [orTo, e, e2, Array.getElem_setIfInBounds, show ¬ t < j + 1 by omega]
theorem and_pow (x r : Nat) : (x &&& 2 ^ r) ≠ 0 ↔ x.testBit r = true := by
  constructor
  · intro h
    cases hb : x.testBit r with
    | true => rfl
    | false =>
      exfalso
      apply h
      apply Nat.eq_of_testBit_eq
      intro j
      rw [Nat.testBit_and, Nat.testBit_two_pow, Nat.zero_testBit]
      by_cases e : r = j
      · subst e; simp [hb]
      · simp [e]
  · intro h h0
    have h1 : (x &&& 2 ^ r).testBit r = true := by rw [Nat.testBit_and, Nat.testBit_two_pow, h]; simp
    rw [h0, Nat.zero_testBit] at h1
    cases h1
theorem bit_word (a y : Nat) : (word a (y / 64) &&& 1 <<< (y % 64)) ≠ 0 ↔ a.testBit y = true := by
  rw [Nat.one_shiftLeft, and_pow, word_bit, show 64 * (y / 64) + y % 64 = y by omega]
  have : y % 64 < 64 := by omega
  simp [this]

/-! ### the ancestors -/
def ancTo (L : List (Nat × List Nat)) : Nat → List Nat
  | 0 => []
  | i + 1 => ancTo L i ++ [(L.getD i (0, [])).2.foldl (fun a m => a ||| (ancTo L i).getD m 0) ((1 <<< i) ||| (match lastOf L i (L.getD i (0, [])).1 with | some l => (ancTo L i).getD l 0 | none => 0))]
theorem ancTo_len (L : List (Nat × List Nat)) (i : Nat) : (ancTo L i).length = i := by
  induction i with
  | zero => rfl
  | succ i ih => simp [ancTo, ih]
def ancOf (L : List (Nat × List Nat)) (k : Nat) : Nat := (ancTo L (k + 1)).getD k 0
theorem ancTo_get (L : List (Nat × List Nat)) {i k : Nat} (h : k < i) : (ancTo L i).getD k 0 = ancOf L k := by
  induction i with
  | zero => omega
  | succ i ih =>
    by_cases e : k = i
    · subst e; rfl
    · rw [← ih (by omega)]
      simp only [ancTo, List.getD_eq_getElem?_getD]
      rw [List.getElem?_append_left (by rw [ancTo_len]; omega)]
theorem foldor_congr {l : List Nat} {F G : Nat → Nat} {a : Nat} (h : ∀ m ∈ l, F m = G m) : l.foldl (fun a m => a ||| F m) a = l.foldl (fun a m => a ||| G m) a := by
  induction l generalizing a with
  | nil => rfl
  | cons m l ih => rw [List.foldl_cons, List.foldl_cons, h m (by simp)]; exact ih fun m' h' => h m' (by simp [h'])
theorem ancs_of {L : List (Nat × List Nat)} (hW : Wf L) : Ancs L (ancOf L) := by
  intro k q ms h
  have hg := getD_of h
  show (ancTo L (k + 1)).getD k 0 = _
  simp only [ancTo, List.getD_eq_getElem?_getD]
  rw [List.getElem?_append_right (by rw [ancTo_len]; omega), ancTo_len, Nat.sub_self]
  have hg' : L[k]?.getD (0, []) = (q, ms) := by rw [h]; rfl
  simp only [hg', List.getElem?_cons_zero, Option.getD_some]
  have e1 : (match lastOf L k q with | some l => (ancTo L k)[l]?.getD 0 | none => 0) = (match lastOf L k q with | some l => ancOf L l | none => 0) := by
    cases hl : lastOf L k q with
    | none => rfl
    | some l =>
      have := ancTo_get L (lastOf_some hl).1
      rwa [List.getD_eq_getElem?_getD] at this
  rw [e1]
  exact foldor_congr fun m hm => by
    have := ancTo_get L (hW k q ms h m hm)
    rwa [List.getD_eq_getElem?_getD] at this
def lastV (L : List (Nat × List Nat)) (i q : Nat) : Int := match lastOf L i q with | some l => (l : Int) | none => -1
end Go.Proofs.Ybulkogy
