import Derived.Test.YbulkoboFmtEpb
namespace Go.Proofs.YbulkoboFmt
open Go.RowKit
set_option linter.unusedSimpArgs false
set_option linter.unusedVariables false

/-- What the walk is told of a slice of numbers. -/
def IsRow (k : IntKind) (w : World) (a : Option Addr) (len cap : Nat) (zs : List Int) : Prop :=
  (a = none ∧ len = 0 ∧ cap = 0 ∧ zs = []) ∨
  ∃ x, a = some x ∧ len ≤ cap ∧ cap ≤ maxLen ∧ zs.length = cap ∧ (∀ i, i < zs.length → w.cell? (x.add i) = some (.int k (zs.getD i 0))) ∧ ∀ n ∈ zs, (Lit.int k n).wf = true

theorem row_list {k : IntKind} {w : World} {a : Option Addr} {len cap : Nat} {zs : List Int} (h : IsRow k w a len cap zs) :
    ∃ l : List Int, l.length = len ∧ len ≤ maxLen ∧ (∀ x ∈ l, (Lit.int k x).wf = true) ∧ ∀ j v, l[j]? = some v → ∃ b off, a = some ⟨b, off, none⟩ ∧ ∀ w', Below w.heap.size w w' → w'.cell? ⟨b, off + j, none⟩ = some (.int k v) := by
  rcases h with ⟨rfl, rfl, _, rfl⟩ | ⟨⟨b, off, spot⟩, rfl, h3, h4, h5, h6, h7⟩
  · exact ⟨[], rfl, by unfold maxLen; omega, by simp, by simp⟩
  · refine ⟨zs.take len, by simp; omega, by omega, fun x hx => h7 x (List.mem_of_mem_take hx), fun j v hj => ?_⟩
    have hjl := (List.getElem?_eq_some_iff.1 hj).1
    simp at hjl
    have hspot : spot = none := by simpa [Addr.add] using World.cell?_spot (h6 0 (by omega))
    subst hspot
    have hb := World.block_lt_of_cell? w _ (h6 0 (by omega))
    rw [add_block] at hb
    refine ⟨b, off, rfl, fun w' hw => ?_⟩
    have hv : zs.getD j 0 = v := by
      rw [List.getElem?_take_of_lt (by omega)] at hj
      rw [List.getD_eq_getElem?_getD, hj]; rfl
    rw [hw.cell (show b < w.heap.size from hb), ← hv, ← h6 j (by omega), Addr.add_lit]

/-- The stream while it is built. -/
def OW (w wr : World) (sv : Value) (n : Nat) (xs : List Int) : Prop := wr.ownsRow w.heap.size 5 1 sv n (bs xs) ∧ Below w.heap.size w wr
theorem OW.grow {w w1 w2 : World} {sv sv' : Value} {n n' : Nat} {xs xs' : List Int} (h : OW w w1 sv n xs) (ho : w2.ownsRow w.heap.size 5 1 sv' n' (bs xs')) (hg : w1.grownBy w2 sv.ownBlock) : OW w w2 sv' n' xs' :=
  ⟨ho, h.2.grown hg h.2.size fun k hk => (h.1.lt k hk).1⟩
theorem app32 {w w1 : World} {sv : Value} {n : Nat} {xs : List Int} {v : Int} (h : OW w w1 sv n xs) (h0 : 0 ≤ v) (h1 : v < 4294967296) (hn : n ≤ 1000000) :
    Calls Ybaf.prog 5 #[.agg #[], sv, .int .u32 v] w1 fun e w' => ∃ sv', e = .returned sv' ∧ OW w w' sv' (n + 4) (xs ++ leB4 v) := by
  refine (le_app32 w.heap.size sv n xs v w1 h0 h1 h.1 hn h.2.size).mono ?_
  rintro e w' ⟨sv', rfl, ho, hg⟩
  exact ⟨sv', rfl, h.grow ho hg⟩
theorem app16 {w w1 : World} {sv : Value} {n : Nat} {xs : List Int} {v : Int} (h : OW w w1 sv n xs) (h0 : 0 ≤ v) (h1 : v < 65536) (hn : n ≤ 1000000) :
    Calls Ybaf.prog 6 #[.agg #[], sv, .int .u16 v] w1 fun e w' => ∃ sv', e = .returned sv' ∧ OW w w' sv' (n + 2) (xs ++ leB2 v) := by
  refine (le_app16 w.heap.size sv n xs v w1 h0 h1 h.1 hn h.2.size).mono ?_
  rintro e w' ⟨sv', rfl, ho, hg⟩
  exact ⟨sv', rfl, h.grow ho hg⟩
theorem OW.drewN {w wr : World} {sv : Value} {n : Nat} {xs : List Int} (h : OW w wr sv n xs) (k : Nat) : OW w (wr.drewN k) sv n xs := ⟨h.1, ⟨h.2.os, h.2.tape, h.2.output, h.2.size, h.2.block⟩⟩
theorem OW.drew {w wr : World} {sv : Value} {n : Nat} {xs : List Int} (h : OW w wr sv n xs) : OW w wr.drew sv n xs := ⟨h.1, h.2.drew⟩
theorem OW.alloc {w wr : World} {sv : Value} {n : Nat} {xs : List Int} (h : OW w wr sv n xs) (o : Obj) : OW w (wr.alloc o) sv n xs := ⟨h.1.alloc o, h.2.alloc h.2.size o⟩
theorem OW.nil (w : World) : OW w w (.slice none 0 0) 0 [] := ⟨World.ownsRow_nil _ _ _ _, Below.refl _ _⟩

theorem OW.some {w wr : World} {sv : Value} {n : Nat} {xs : List Int} (h : OW w wr sv n xs) (hn : 0 < n) : ∃ g cp, sv = .slice (some ⟨g, 0, none⟩) n cp ∧ n ≤ cp ∧ cp ≤ maxLen := by
  rcases h.1.2 with ⟨_, h0⟩ | ⟨g, cp, _, h1, _, _, h2, h3, _⟩
  · omega
  · exact ⟨g, cp, h1, h2, h3⟩

/-! ### the stream, plainly -/
theorem idb_len (x : Int) : (idb x).length = 20 := rfl
theorem skb_len : skb.length = 16 := rfl
theorem flat_len (l : List Int) : (l.flatMap idb).length = 20 * l.length := by
  induction l with
  | nil => rfl
  | cons a l ih => simp only [List.flatMap_cons, List.length_append, ih, idb_len, List.length_cons]; omega
theorem sk_len (q : Nat) : ((List.replicate q skb).flatten).length = 16 * q := by
  induction q with
  | zero => rfl
  | succ q ih => simp only [List.replicate_succ, List.flatten_cons, List.length_append, ih, skb_len]; omega
theorem drop_past {A T : List Int} {n : Nat} (h : A.length = n) (k : Nat) : (A ++ T).drop (n + k) = T.drop k := by
  rw [← List.drop_drop, ← h, List.drop_left]
theorem flat_drop (l : List Int) (j : Nat) (x : Int) (h : l[j]? = some x) : ∃ tl, (l.flatMap idb).drop (20 * j) = idb x ++ tl := by
  induction l generalizing j with
  | nil => simp at h
  | cons a l ih =>
    cases j with
    | zero => simp at h; subst h; exact ⟨l.flatMap idb, by simp⟩
    | succ j =>
      simp at h
      obtain ⟨tl, e⟩ := ih j h
      refine ⟨tl, ?_⟩
      rw [List.flatMap_cons, show 20 * (j + 1) = 20 + 20 * j by omega, drop_past (idb_len a), e]
theorem sk_drop (n q : Nat) (h : q < n) : ∃ tl, ((List.replicate n skb).flatten).drop (16 * q) = skb ++ tl := by
  induction n generalizing q with
  | zero => omega
  | succ n ih =>
    cases q with
    | zero => exact ⟨(List.replicate n skb).flatten, by simp [List.replicate_succ]⟩
    | succ q =>
      obtain ⟨tl, e⟩ := ih q (by omega)
      refine ⟨tl, ?_⟩
      rw [List.replicate_succ, List.flatten_cons, show 16 * (q + 1) = 16 + 16 * q by omega, drop_past skb_len, e]
/-- The whole stream. -/
def strm (lts : List Int) (ns : Nat) (E : List Int) : List Int := lts.flatMap idb ++ ((List.replicate ns skb).flatten ++ E)
theorem strm_idb (lts : List Int) (ns : Nat) (E : List Int) (j : Nat) (x : Int) (h : lts[j]? = some x) : ∃ tl, (strm lts ns E).drop (20 * j) = idb x ++ tl := by
  obtain ⟨tl, e⟩ := flat_drop lts j x h
  have hj := (List.getElem?_eq_some_iff.1 h).1
  exact ⟨tl ++ ((List.replicate ns skb).flatten ++ E), by rw [strm, List.drop_append_of_le_length (by rw [flat_len]; omega), e, List.append_assoc]⟩
theorem strm_skb (lts : List Int) (ns : Nat) (E : List Int) (q : Nat) (h : q < ns) : ∃ tl, (strm lts ns E).drop (20 * lts.length + 16 * q) = skb ++ tl := by
  obtain ⟨tl, e⟩ := sk_drop ns q h
  refine ⟨tl ++ E, ?_⟩
  rw [strm, drop_past (flat_len lts), List.drop_append_of_le_length (by rw [sk_len]; omega), e, List.append_assoc]
theorem strm_end (lts : List Int) (ns : Nat) (E : List Int) : (strm lts ns E).drop (20 * lts.length + 16 * ns) = E := by
  rw [strm, drop_past (flat_len lts), ← Nat.add_zero (16 * ns), drop_past (sk_len ns), List.drop_zero]
theorem flat_snoc {l : List Int} {j : Nat} {x : Int} (h : l[j]? = some x) : (l.take (j + 1)).flatMap idb = (l.take j).flatMap idb ++ leB4 1 ++ leB4 20 ++ leB2 x ++ leB2 0 ++ leB4 0 ++ leB4 20 := by
  have hj := (List.getElem?_eq_some_iff.1 h).1
  rw [List.take_succ_eq_append_getElem hj, List.flatMap_append, (List.getElem?_eq_some_iff.1 h).2]
  simp [idb]
theorem sk_snoc (q : Nat) : (List.replicate (q + 1) skb).flatten = (List.replicate q skb).flatten ++ leB4 5 ++ leB4 16 ++ leB4 0 ++ leB4 16 := by
  rw [List.replicate_succ', List.flatten_append]
  simp [skb]
theorem take_snoc {l : List Int} {j : Nat} {x : Int} (h : l[j]? = some x) : l.take (j + 1) = l.take j ++ [x] := by
  have hj := (List.getElem?_eq_some_iff.1 h).1
  rw [List.take_succ_eq_append_getElem hj, (List.getElem?_eq_some_iff.1 h).2]
end Go.Proofs.YbulkoboFmt
