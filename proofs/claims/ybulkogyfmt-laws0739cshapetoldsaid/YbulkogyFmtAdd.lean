import Derived.Test.YbulkogyFmtActors
namespace Go.Proofs.YbulkogyFmt
open Go.RowKit
set_option linter.unusedSimpArgs false
set_option linter.unusedVariables false

/-- 'copy' as one step of a region that draws its order, the world written out. -/
theorem step_copy_row {P : Program} {ops : Array Oper} {o : Oper} {a : Act} {w : World} {K : Act → World → Prop} {Q : Exit → Act → World → Prop} {E : Prop} (hgd : o.guard = none) (d s : Operand) (dT sT : TypeId)
    (ho : o.op = .call { callee := .builtin .copy, args := #[d, s], argTypes := #[dT, sT] }) (elem : TypeId) (hu : P.underlying dT = some (.slice elem)) (hsz : (P.info? elem).map (·.size) = some 1)
    (g off dLen dCap : Nat) (ad : Addr) (sLen sCap : Nat) (hd : a.eval d = .slice (some ⟨g, off, none⟩) dLen dCap) (hs : a.eval s = .slice (some ad) sLen sCap)
    (cur : List Value) (t : TypeId) (hg : w.heap[g]? = some (.cells cur.toArray t (0, 0))) (cs : List Value) (hn : cs.length = Nat.min sLen dLen)
    (hsrc : ∀ j v, cs[j]? = some v → w.cell? (ad.add j) = some v) (hfit : off + cs.length ≤ cur.length) (h1 : ∀ v ∈ cs, v.oneCell' = true)
    (h : K (a.put o.dst (goInt cs.length)) (w.setRow g (splice cur off cs).toArray)) :
    if Region.wanted o (yielded ops a.tmps) = true then Oper.wp P o a w K Q else E := by
  have hw : Region.wanted o (yielded ops a.tmps) = true := by simp [Region.wanted, hgd]
  rw [if_pos hw]
  have hrun := run_copy_row (P := P) w dT sT o.type elem g off dLen dCap ad sLen sCap cur.toArray t cs hu hsz hg hn hsrc (by simpa using hfit) h1
  unfold Oper.wp
  simp [execOp, ho, resolve, invoke, builtin, hd, hs, hrun, Result.andThen]
  have e : (cur.take off ++ (cs ++ cur.drop (off + cs.length))).toArray = (splice cur off cs).toArray := rfl
  rw [← e] at h
  simpa [Oper.upon] using h


theorem step_copy_nothing {P : Program} {ops : Array Oper} {o : Oper} {a : Act} {w : World} {K : Act → World → Prop} {Q : Exit → Act → World → Prop} {E : Prop} (hgd : o.guard = none) (d s : Operand) (dT sT : TypeId)
    (ho : o.op = .call { callee := .builtin .copy, args := #[d, s], argTypes := #[dT, sT] }) (elem : TypeId) (hu : P.underlying dT = some (.slice elem)) (hsz : (P.info? elem).map (·.size) = some 1)
    (dp sp : Option Addr) (dLen dCap sLen sCap : Nat) (hd : a.eval d = .slice dp dLen dCap) (hs : a.eval s = .slice sp sLen sCap) (hn : Nat.min sLen dLen = 0)
    (h : K (a.put o.dst (goInt 0)) w) : if Region.wanted o (yielded ops a.tmps) = true then Oper.wp P o a w K Q else E := by
  have hw : Region.wanted o (yielded ops a.tmps) = true := by simp [Region.wanted, hgd]
  rw [if_pos hw]
  have hrun := run_copy_none (P := P) w dT sT o.type elem dp sp dLen dCap sLen sCap hu hsz hn
  unfold Oper.wp
  simp [execOp, ho, resolve, invoke, builtin, hd, hs, hrun, Result.andThen]
  exact h

theorem ins_splice {l : List Nat} {r q : Nat} {z : Value} {rest : List Value} (hr : r ≤ l.length) : (splice (ints .i64 l ++ z :: rest) (r + 1) (ints .i64 (l.drop r))).set r (.int .i64 (q : Int)) = ints .i64 (l.take r ++ q :: l.drop r) ++ rest := by
  have e1 : ints .i64 l = ints .i64 (l.take r) ++ ints .i64 (l.drop r) := by rw [← ints_append, List.take_append_drop]
  have hl1 : (ints .i64 (l.take r)).length = r := by rw [ints_len, List.length_take]; omega
  have hl2 : (ints .i64 (l.drop r)).length = l.length - r := by rw [ints_len, List.length_drop]
  unfold splice
  have e2 : (ints .i64 l ++ z :: rest).drop (r + 1 + (ints .i64 (l.drop r)).length) = rest := by
    rw [hl2, show r + 1 + (l.length - r) = (ints .i64 l).length + 1 by rw [ints_len]; omega, List.drop_append]
    simp
  rw [e2]
  obtain ⟨y, hy⟩ : ∃ y, (ints .i64 l ++ z :: rest).take (r + 1) = ints .i64 (l.take r) ++ [y] := by
    rw [e1, List.append_assoc, List.take_append, hl1, List.take_of_length_le (by omega)]
    cases hd : ints .i64 (l.drop r) with
    | nil => exact ⟨z, by simp⟩
    | cons a t => exact ⟨a, by simp⟩
  rw [hy, List.append_assoc, List.set_append_right _ _ (by omega), hl1, Nat.sub_self]
  simp [ints]
theorem ins_last {l : List Nat} {q : Nat} {z : Value} {rest : List Value} : (ints .i64 l ++ z :: rest).set l.length (.int .i64 (q : Int)) = ints .i64 (l.take l.length ++ q :: l.drop l.length) ++ rest := by
  rw [List.set_append_right _ _ (by rw [ints_len]; omega), ints_len, Nat.sub_self, List.take_length, List.drop_length]
  simp [ints]
theorem EA.of_blk {w : World} {Bx E n : Nat} {l : List Nat} {rest : List Value} (hbx : box1 w Bx 47 (.slice (some ⟨E, 0, none⟩) l.length n)) (hE : w.heap[E]? = some (.cells (ints .i64 l ++ rest).toArray 3 (0, 0))) (hl : l.length + rest.length = n) (hn : n ≤ maxLen) : EA w Bx E n l :=
  ⟨hbx, by rw [ints_len]; omega, .inr ⟨E, n, _, rfl, Nat.le_refl _, hE, by omega, hn, by simp [ints_len]; omega, by simp [ints_len]⟩⟩

def AddP (w w' : World) (Bx E n q : Nat) (l : List Nat) (e : Ending) : Prop := e = .returned (.tuple #[]) ∧ (∃ r, AtIdx l q r ∧ EA w' Bx E n (l.take r ++ q :: l.drop r)) ∧ Upd [Bx, E] w w'
set_option maxRecDepth 100000 in
set_option maxHeartbeats 2000000 in
theorem add_any (w : World) (Bx E n q : Nat) (l : List Nat) (h : EA w Bx E n l) (hn : n ≤ 1000) (hs : ∀ a b, a ≤ b → b < l.length → l.getD a 0 ≤ l.getD b 0) (hlt : l.length < n) :
    Calls Ybaf.prog 10 #[.pointer (some ⟨Bx, 0, none⟩), .int .i64 (q : Int)] w fun e w' => AddP w w' Bx E n q l e := by
  obtain ⟨i3, hi, hz0, hz1, hz2⟩ := info_parts Ybaf.info3
  obtain ⟨rest, hE, hrl⟩ := h.blk
  have b0 := h.bx.cell
  have hEB : ¬ Bx = E := blk_ne h.bx hE (by decide)
  have hsr := hide (searchInts_any w q E l.length n l rest rfl (by omega) hs hE)
  obtain ⟨len, hlen⟩ : ∃ len, len = l.length := ⟨_, rfl⟩
  rw [← hlen] at hsr b0 hlt
  replace h := hide h; replace hE := hide hE; replace hlen := hide hlen; replace hs := hide hs
  go_enter Ybaf.func10, Ybaf.ntmps10
  go_wp2_with fail
  refine hsr.out.mono ?_
  rintro e w1 ⟨r, rfl, hat, hb1⟩
  have hr : r ≤ len := by rw [hlen.out]; exact hat.1
  have h1 : Hid (EA w1 Bx E n l) := h.out.upd (Upd.of_below (ks := []) hb1) (by simp) (by simp)
  have c0 : w1.cell? ⟨Bx, 0, none⟩ = some (.slice (some ⟨E, 0, none⟩) len n) := by rw [hlen.out]; exact h1.out.bx.cell
  have f0 : w1.frozen? ⟨Bx, 0, none⟩ = false := h1.out.bx.froz
  have hBl : Bx < w1.heap.size := lt_of_block h1.out.bx
  have hr' : (r : Int) ≤ (len : Int) := by omega
  have hlt' : (len : Int) < (n : Int) := by omega
  have hn' : (n : Int) ≤ 1000 := by omega
  have how : Hid (w1.ownsRow E 3 1 (.slice (some ⟨E, 0, none⟩) len n) len (ints .i64 l)) := by rw [hlen.out]; exact h1.out.own
  replace hat := hide hat; replace hb1 := hide hb1
  clear b0 hsr
  go_wp2_with (at_builtin; refine wpList_append_fits _ rfl _ _ 47 rfl E 3 i3 1 Ybaf.underlying47 hi hz1 E len n (ints .i64 l) rfl (how.out.alloc _) ⟨w1.heap.size, 0, none⟩ 1 1 [.int .i64 0] rfl rfl ?q2 ?q6 ?q3 ?_)
  case q2 => intro j u hj; first | exact new_cells1 w1 [.int .i64 0] 3 hj | exact hj
  case q6 => simp [Value.oneCell']
  case q3 => omega
  intro w2 hown2 hg2
  have hu2 : Hid (Upd [E] w1 w2) := (Upd.of_grown_alloc hg2).mono (by simp)
  have hbx2 : Hid (w2.heap[Bx]? = some (.cells #[.slice (some ⟨E, 0, none⟩) len n] 47 (0, 0))) := hu2.out.blk (by rw [hlen.out]; exact h1.out.bx) (by simpa using hEB)
  have e1 : w2.cell? ⟨Bx, 0, none⟩ = some (.slice (some ⟨E, 0, none⟩) len n) := cell_blk hbx2.out rfl
  have e2 : w2.frozen? ⟨Bx, 0, none⟩ = false := froz_blk hbx2.out _
  obtain ⟨rest2, hE2, hr2⟩ : ∃ rest2 : List Value, Hid (w2.heap[E]? = some (.cells (ints .i64 l ++ (.int .i64 0) :: rest2).toArray 3 (0, 0))) ∧ len + 1 + rest2.length = n := by
    rcases hown2.2 with ⟨h', _⟩ | ⟨g, cap, cur, he, hg, hh, r1, r2, r3, r4⟩
    · cases h'
    · simp only [Value.slice.injEq, Option.some.injEq, Addr.mk.injEq] at he
      obtain ⟨⟨rfl, _⟩, _, rfl⟩ := he
      refine ⟨cur.toList.drop ((len + 1) * 1), ?_, by simp; omega⟩
      show _ = _
      rw [hh, show ints .i64 l ++ (.int .i64 0) :: cur.toList.drop ((len + 1) * 1) = (ints .i64 l ++ [.int .i64 0]) ++ cur.toList.drop ((len + 1) * 1) by simp, ← r4, List.take_append_drop]
  clear hown2 hg2 c0 f0
  go_wp2_with fail
  obtain ⟨W, hWe⟩ : ∃ W, W = w2.setCell ⟨Bx, 0, none⟩ (.slice (some ⟨E, 0, none⟩) (len + 1) n) := ⟨_, rfl⟩
  have hWb : Hid (box1 W Bx 47 (.slice (some ⟨E, 0, none⟩) (len + 1) n)) := by show _ = _; rw [hWe, set_blk hbx2.out]; rfl
  have hWE : Hid (W.heap[E]? = some (.cells (ints .i64 l ++ (.int .i64 0) :: rest2).toArray 3 (0, 0))) := by show _ = _; rw [hWe]; exact (set_blk_ne (fun e => hEB e.symm)).trans hE2.out
  have hWu : Hid (Upd [Bx, E] w W) := by rw [hWe]; exact (((Upd.of_below hb1.out).trans (hu2.out.mono (ks' := [Bx, E]) (by simp)))).setCell (p := ⟨Bx, 0, none⟩) (by simp) _
  rw [← hWe]
  clear hWe hE2 hbx2 hu2 e1 e2 how
  have c0 : W.cell? ⟨Bx, 0, none⟩ = some (.slice (some ⟨E, 0, none⟩) (len + 1) n) := hWb.out.cell
  obtain ⟨r1, hr1e⟩ : ∃ r1, r1 = r + 1 := ⟨_, rfl⟩
  have hwr : IntKind.i64.wrap ((r : Int) + 1) = (r1 : Int) := by rw [IntKind.wrap_i64]; omega
  have hr1l : (r1 : Int) ≤ (len : Int) + 1 := by omega
  have hrl1 : (r : Int) ≤ (len : Int) + 1 := by omega
  have hnr : ¬ n = r := by omega
  replace hr1e := hide hr1e
  by_cases hrl : r = len
  · subst hrl
    have hset : Hid ((ints .i64 l ++ (.int .i64 0) :: rest2).set r (.int .i64 (q : Int)) = ints .i64 (l.take r ++ q :: l.drop r) ++ rest2) := by show _ = _; rw [hlen.out]; exact ins_last
    have hfin : Hid (∀ k, AddP w ((W.drewN k).setCell ⟨E, r, none⟩ (.int .i64 (q : Int))) Bx E n q l (.returned (.tuple #[]))) := by
      intro k
      refine ⟨rfl, ⟨r, hat.out, EA.of_blk (rest := rest2) ?_ ?_ ?_ ?_⟩, (hWu.out.drewN k).setCell (p := ⟨E, r, none⟩) (by simp) _⟩
      · have hl5 : (l.take r ++ q :: l.drop r).length = r + 1 := by have := hlen.out; simp; omega
        rw [hl5]
        exact (set_blk_ne (w := W.drewN k) hEB).trans hWb.out
      · rw [set_blk (w := W.drewN k) hWE.out, ← hset.out]; simp
      · have := hlen.out; simp; omega
      · unfold maxLen; omega
    have g1 : W.cell? ⟨E, r, none⟩ = some (.int .i64 0) := cell_blk hWE.out (by rw [List.getElem?_toArray, List.getElem?_append_right (by rw [ints_len, ← hlen.out]; omega), ints_len, ← hlen.out]; simp)
    have g2 : W.frozen? ⟨E, r, none⟩ = false := froz_blk hWE.out _
    have hm0 : ∀ x, Nat.min x 0 = 0 := fun x => Nat.min_eq_right (Nat.zero_le _)
    have hrr : r + 1 - r1 = 0 := by have := hr1e.out; omega
    by_cases hnr1 : n = r1
    · subst hnr1
      go_region_law (refine step_copy_nothing rfl (.tmp 22) (.tmp 27) 47 47 rfl 3 Ybaf.underlying47 Ybaf.size3 _ _ _ _ _ _ rfl rfl (by first | exact hm0 _ | (show min _ _ = 0; omega)) ?_)
      all_goals
        go_wp2
        go_end0
        exact hfin.out 1
    · go_region_law (refine step_copy_nothing rfl (.tmp 22) (.tmp 27) 47 47 rfl 3 Ybaf.underlying47 Ybaf.size3 _ _ _ _ _ _ rfl rfl (by first | exact hm0 _ | (show min _ _ = 0; omega)) ?_)
      all_goals
        go_wp2
        go_end0
        exact hfin.out 1
  · have hnr1 : ¬ n = r1 := by have := hr1e.out; omega
    have hcs : Hid (∀ j v, (ints .i64 (l.drop r))[j]? = some v → W.drew.cell? ((⟨E, r, none⟩ : Addr).add j) = some v) := by
      intro j v hj
      rw [Addr.add_lit]
      have hjl := (List.getElem?_eq_some_iff.1 hj).1
      rw [ints_len, List.length_drop] at hjl
      refine cell_blk (w := W.drew) hWE.out ?_
      rw [List.getElem?_toArray, List.getElem?_append_left (by rw [ints_len]; omega)]
      simp [ints] at hj ⊢
      exact hj
    have hmn : Hid ((ints .i64 (l.drop r)).length = Nat.min (len + 1 - r) (len + 1 - r1)) := by
      show _ = _
      have := hr1e.out
      have := hlen.out
      rw [ints_len, List.length_drop]
      show _ = min _ _
      omega
    have hft : Hid (r1 + (ints .i64 (l.drop r)).length ≤ (ints .i64 l ++ (.int .i64 0) :: rest2).length) := by
      show _ ≤ _
      have := hr1e.out
      have := hlen.out
      rw [ints_len, List.length_drop, List.length_append, ints_len, List.length_cons]
      omega
    replace hrl := hide hrl
    go_region_law (refine step_copy_row rfl (.tmp 22) (.tmp 27) 47 47 rfl 3 Ybaf.underlying47 Ybaf.size3 E r1 (len + 1 - r1) (n - r1) ⟨E, r, none⟩ (len + 1 - r) (n - r) rfl rfl (ints .i64 l ++ (.int .i64 0) :: rest2) 3 (by exact hWE.out) (ints .i64 (l.drop r)) (by exact hmn.out) (by exact hcs.out) (by exact hft.out) (ints_one _ _) ?_)
    all_goals
      have hY : Hid ((W.drew.setRow E (splice (ints .i64 l ++ (.int .i64 0) :: rest2) r1 (ints .i64 (l.drop r))).toArray).heap[E]? = some (.cells (splice (ints .i64 l ++ (.int .i64 0) :: rest2) r1 (ints .i64 (l.drop r))).toArray 3 (0, 0))) := setRow_heap W.drew E _ _ 3 _ hWE.out
      have hYb : Hid (box1 (W.drew.setRow E (splice (ints .i64 l ++ (.int .i64 0) :: rest2) r1 (ints .i64 (l.drop r))).toArray) Bx 47 (.slice (some ⟨E, 0, none⟩) (len + 1) n)) := (setRow_other W.drew _ _ _ hEB).trans hWb.out
      have hYu : Hid (Upd [Bx, E] w (W.drew.setRow E (splice (ints .i64 l ++ (.int .i64 0) :: rest2) r1 (ints .i64 (l.drop r))).toArray)) := (hWu.out.drew).setRow (by simp) _
      have hset : Hid ((splice (ints .i64 l ++ (.int .i64 0) :: rest2) r1 (ints .i64 (l.drop r))).set r (.int .i64 (q : Int)) = ints .i64 (l.take r ++ q :: l.drop r) ++ rest2) := by show _ = _; rw [hr1e.out]; exact ins_splice (by rw [← hlen.out]; exact hr)
      have hYl : Hid (r < (splice (ints .i64 l ++ (.int .i64 0) :: rest2) r1 (ints .i64 (l.drop r))).length) := by
        show r < _
        rw [length_splice _ _ _ hft.out, List.length_append, ints_len, List.length_cons]
        have := hlen.out
        omega
      obtain ⟨Y, hYe⟩ : ∃ Y, Y = splice (ints .i64 l ++ (.int .i64 0) :: rest2) r1 (ints .i64 (l.drop r)) := ⟨_, rfl⟩
      rw [← hYe] at hY hYb hYu hset hYl ⊢
      obtain ⟨W3, hW3⟩ : ∃ W3, W3 = W.drew.setRow E Y.toArray := ⟨_, rfl⟩
      rw [← hW3] at hY hYb hYu ⊢
      clear hYe hW3
      obtain ⟨y, hy⟩ : ∃ y, Y[r]? = some y := ⟨_, List.getElem?_eq_getElem hYl.out⟩
      have g0 : W3.cell? ⟨Bx, 0, none⟩ = some (.slice (some ⟨E, 0, none⟩) (len + 1) n) := hYb.out.cell
      have g1 : W3.cell? ⟨E, r, none⟩ = some y := cell_blk hY.out (by simpa using hy)
      have g2 : W3.frozen? ⟨E, r, none⟩ = false := froz_blk hY.out _
      have hrl2 : (r : Int) < (len : Int) + 1 := by omega
      clear hy
      go_wp2
      go_end0
      refine ⟨rfl, ⟨r, hat.out, EA.of_blk (rest := rest2) ?_ ?_ ?_ ?_⟩, hYu.out.setCell (p := ⟨E, r, none⟩) (by simp) _⟩
      · have hl5 : (l.take r ++ q :: l.drop r).length = len + 1 := by have := hlen.out; simp; omega
        rw [hl5]
        exact (set_blk_ne hEB).trans hYb.out
      · rw [set_blk hY.out, ← hset.out]; simp
      · have := hlen.out; simp; omega
      · unfold maxLen; omega
end Go.Proofs.YbulkogyFmt
