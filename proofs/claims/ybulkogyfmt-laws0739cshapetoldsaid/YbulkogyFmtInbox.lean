import Derived.Test.YbulkogyFmtSample
import Derived.ArgAppend
namespace Go.Proofs.YbulkogyFmt
open Go.RowKit
set_option linter.unusedSimpArgs false
set_option linter.unusedVariables false

/-- A row that may begin inside its block (a queue: appended to at the end, cut at the head). -/
def IRow (w : World) (v : Value) (xs : List Nat) : Prop := (v = .slice none 0 0 ∧ xs = []) ∨
  ∃ (g off cap : Nat) (cur : Array Value), v = .slice (some ⟨g, off, none⟩) xs.length cap ∧ w.heap[g]? = some (.cells cur 3 (0, 0)) ∧ (0 < cap → cur.size = off + cap) ∧ xs.length ≤ cap ∧ cap ≤ maxLen ∧ ∀ (j x : Nat), xs[j]? = some x → cur[off + j]? = some (.int .i64 (x : Int))
theorem IRow.of_own {w : World} {B : Nat} {v : Value} {xs : List Nat} (h : w.ownsRow B 3 1 v xs.length (ints .i64 xs)) : IRow w v xs := by
  rcases h.2 with ⟨rfl, h0⟩ | ⟨g, cap, cur, rfl, hg, hh, r1, r2, r3, r4⟩
  · exact .inl ⟨rfl, List.eq_nil_of_length_eq_zero h0⟩
  · refine .inr ⟨g, 0, cap, cur, rfl, hh, fun _ => by omega, r1, r2, fun j x hj => ?_⟩
    have hjl := (List.getElem?_eq_some_iff.1 hj).1
    have e : (cur.toList.take (xs.length * 1))[j]? = some (.int .i64 (x : Int)) := by rw [r4]; simp [ints, hj]
    rw [List.getElem?_take_of_lt (by omega)] at e
    rw [Nat.zero_add]
    simpa using e
theorem IRow.upd {w w' : World} {v : Value} {xs : List Nat} {ks : List Nat} (h : IRow w v xs) (hu : Upd ks w w') (hn : ∀ g, v.ownBlock = some g → g ∉ ks) : IRow w' v xs := by
  rcases h with h | ⟨g, off, cap, cur, rfl, h1, h2⟩
  · exact .inl h
  · exact .inr ⟨g, off, cap, cur, rfl, hu.blk h1 (hn g rfl), h2⟩
theorem IRow.form {w : World} {v : Value} {xs : List Nat} (h : IRow w v xs) : ∃ a c, v = .slice a xs.length c := by
  rcases h with ⟨rfl, rfl⟩ | ⟨g, off, cap, cur, rfl, _⟩
  · exact ⟨_, _, rfl⟩
  · exact ⟨_, _, rfl⟩
theorem IRow.lt {w : World} {v : Value} {xs : List Nat} (h : IRow w v xs) {g : Nat} (hg : v.ownBlock = some g) : g < w.heap.size := by
  rcases h with ⟨rfl, _⟩ | ⟨g', off, cap, cur, rfl, h1, _⟩
  · cases hg
  · cases hg; exact lt_of_block h1
theorem IRow.ty {w : World} {v : Value} {xs : List Nat} (h : IRow w v xs) {g : Nat} (hg : v.ownBlock = some g) : ∃ c, w.heap[g]? = some (.cells c 3 (0, 0)) := by
  rcases h with ⟨rfl, _⟩ | ⟨g', off, cap, cur, rfl, h1, _⟩
  · cases hg
  · cases hg; exact ⟨_, h1⟩
/-- The head of a queue. -/
theorem IRow.head {w : World} {v : Value} {x : Nat} {xs : List Nat} (h : IRow w v (x :: xs)) : ∃ g off cap, v = .slice (some ⟨g, off, none⟩) (xs.length + 1) cap ∧ w.cell? ⟨g, off, none⟩ = some (.int .i64 (x : Int)) ∧ xs.length + 1 ≤ cap ∧ cap ≤ maxLen ∧
    IRow w (.slice (some ⟨g, if cap = 1 then off else off + 1, none⟩) xs.length (cap - 1)) xs := by
  rcases h with ⟨_, h⟩ | ⟨g, off, cap, cur, rfl, h1, h2, h3, h4, h5⟩
  · cases h
  · simp only [List.length_cons] at h3
    refine ⟨g, off, cap, rfl, cell_blk h1 (by have := h5 0 x rfl; simpa using this), h3, h4, ?_⟩
    by_cases e : cap = 1
    · subst e
      have hx : xs = [] := List.eq_nil_of_length_eq_zero (by omega)
      subst hx
      exact .inr ⟨g, off, 0, cur, by simp, h1, by omega, by simp, by unfold maxLen; omega, fun j x hj => by simp at hj⟩
    · rw [if_neg e]
      refine .inr ⟨g, off + 1, cap - 1, cur, rfl, h1, fun _ => by have := h2 (by omega); omega, by omega, by omega, fun j y hj => ?_⟩
      have := h5 (j + 1) y (by simpa using hj)
      rwa [show off + (j + 1) = off + 1 + j by omega] at this

theorem run_irow (w : World) (v : Value) (xs : List Nat) (e ty : Nat) (ad : Addr) (c : Nat) (h : IRow w v xs) (hc : ∀ j u, (ints .i64 [e])[j]? = some u → w.cell? (ad.add j) = some u) (hl : xs.length ≤ 1000) :
    ∃ v' w', (Builtin.append_ #[25, 25] ty #[v, .slice (some ad) 1 c]).run Ybaf.prog w = .ok v' w' ∧ IRow w' v' (xs ++ [e]) ∧ Upd v.ownBlock.toList w w' ∧ (v'.ownBlock = v.ownBlock ∨ ∃ g, v'.ownBlock = some g ∧ w.heap.size ≤ g) := by
  obtain ⟨i3, hi3, z0, z1, z2⟩ := info_parts Ybaf.info3
  rcases h with ⟨rfl, rfl⟩ | ⟨g, off, cap, cur, rfl, h1, h2, h3, h4, h5⟩
  · obtain ⟨v', w', hrun, r1, r2, _, r3⟩ := run_append_own_at (P := Ybaf.prog) w w.heap.size 25 ty 3 i3 (.int .i64 0) 1 8 Ybaf.underlying25 hi3 z0 z1 z2 rfl (by decide) (.slice none 0 0) 0 [] (World.ownsRow_nil _ _ _ _) ad 1 c (ints .i64 [e]) rfl hc (ints_one _ _) (by unfold maxLen; omega) (by omega) (Nat.le_refl _)
    refine ⟨v', w', hrun, IRow.of_own r1, (Upd.of_grown r2).mono (by simp), ?_⟩
    rcases r3 with h | h
    · exact .inl h
    · exact .inr ⟨_, h, Nat.le_refl _⟩
  · have hold : ∀ j u, (ints .i64 xs)[j]? = some u → w.cell? ⟨g, off + j, none⟩ = some u := by
      intro j u hj
      simp [ints] at hj
      obtain ⟨x, hx, rfl⟩ := hj
      exact cell_blk h1 (h5 j x hx)
    by_cases hr : xs.length + 1 ≤ cap
    · have hcs := h2 (by omega)
      have hrun := run_append_room_cells (P := Ybaf.prog) w 25 ty 3 i3 Ybaf.underlying25 hi3 g off xs.length cap ad 1 c (ints .i64 [e]) (by rw [z1]; rfl) hc (ints_one _ _) hr
        (fun j hj => by
          have hj0 : j = 0 := by simp [ints] at hj; omega
          subst hj0
          rw [z1, cell_blk h1 (show cur[off + xs.length * 1 + 0]? = some (cur[off + xs.length * 1 + 0]'(by omega)) from Array.getElem?_eq_getElem (by omega))]
          rfl)
        (fun j hj => froz_blk h1 _)
      rw [z1] at hrun
      refine ⟨_, _, hrun, ?_, ?_, .inl rfl⟩
      · have hset : (w.setCells g (off + xs.length * 1) (ints .i64 [e])) = w.setCell ⟨g, off + xs.length, none⟩ (.int .i64 (e : Int)) := by simp [ints, World.setCells]
        rw [hset]
        refine .inr ⟨g, off, cap, cur.setIfInBounds (off + xs.length) (.int .i64 (e : Int)), by simp, set_blk h1 _ _, fun _ => by simpa using hcs, by simpa using hr, h4, fun j x hj => ?_⟩
        by_cases ej : j < xs.length
        · rw [List.getElem?_append_left ej] at hj
          rw [Array.getElem?_setIfInBounds_ne (by omega)]
          exact h5 j x hj
        · have hjl := (List.getElem?_eq_some_iff.1 hj).1
          simp at hjl
          obtain rfl : j = xs.length := by omega
          rw [List.getElem?_append_right (Nat.le_refl _), Nat.sub_self] at hj
          simp at hj
          subst hj
          rw [Array.getElem?_setIfInBounds_self_of_lt (by omega)]
      · have hset : (w.setCells g (off + xs.length * 1) (ints .i64 [e])) = w.setCell ⟨g, off + xs.length, none⟩ (.int .i64 (e : Int)) := by simp [ints, World.setCells]
        rw [hset]
        exact (Upd.refl _ w).setCell (p := ⟨g, off + xs.length, none⟩) (by simp [Value.ownBlock]) _
    · obtain ⟨v', w', hrun, r1, r2⟩ := run_append_arg_grows (P := Ybaf.prog) w 25 ty 3 i3 (.int .i64 0) 1 8 Ybaf.underlying25 hi3 z0 z1 z2 rfl (by decide) ⟨g, off, none⟩ xs.length cap (ints .i64 xs) (by rw [ints_len]; omega) (fun j u hj => by rw [Addr.add_lit]; exact hold j u hj) ad 1 c (ints .i64 [e]) rfl hc (by omega) (by unfold maxLen; omega) (by omega)
      refine ⟨v', w', hrun, IRow.of_own (B := w.heap.size) (by rw [ints_append]; simpa using r1), (Upd.of_grown r2).mono (by simp), ?_⟩
      cases hv : v'.ownBlock with
      | none => rcases r1.2 with ⟨rfl, h0⟩ | ⟨g', cap', cur', rfl, _⟩
                · omega
                · cases hv
      | some g' => exact .inr ⟨g', rfl, (r1.lt g' hv).1⟩
theorem wpList_irow (w : World) {ops : Array Oper} {rest : List Oper} {o : Oper} {a : Act} {Q : Exit → Act → World → Prop} (hgd : o.guard = none) (s x : Operand)
    (ho : o.op = .call { callee := .builtin .append, args := #[s, x], argTypes := #[25, 25] })
    (v : Value) (xs : List Nat) (e : Nat) (hs : a.eval s = v) (h : IRow w v xs) (ad : Addr) (c : Nat) (hx : a.eval x = .slice (some ad) 1 c) (hc : ∀ j u, (ints .i64 [e])[j]? = some u → w.cell? (ad.add j) = some u) (hl : xs.length ≤ 1000)
    (hK : ∀ v' w', IRow w' v' (xs ++ [e]) → Upd v.ownBlock.toList w w' → (v'.ownBlock = v.ownBlock ∨ ∃ g, v'.ownBlock = some g ∧ w.heap.size ≤ g) → wpList Ybaf.prog ops Q rest (a.put o.dst v') w') : wpList Ybaf.prog ops Q (o :: rest) a w := by
  refine wpList_plain hgd fun K hK' => ?_
  obtain ⟨v', w', hrun, r1, r2, r3⟩ := run_irow w v xs e o.type ad c h hc hl
  unfold Oper.wp
  simp [execOp, ho, resolve, invoke, builtin, hs, hx, hrun, Result.andThen]
  exact hK' _ _ (hK v' w' r1 r2 r3)
end Go.Proofs.YbulkogyFmt
