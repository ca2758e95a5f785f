import Derived.Test.YbulkoboFmtBin
namespace Go.Proofs.YbulkoboFmt
open Go.RowKit
set_option linter.unusedSimpArgs false
set_option linter.unusedVariables false

/-- 'copy' as one step of a region that draws its order, the world written out. -/
theorem step_copy_row {P : Program} {ops : Array Oper} {o : Oper} {a : Act} {w : World} {K : Act → World → Prop} {Q : Exit → Act → World → Prop} {E : Prop} (hgd : o.guard = none) (d s : Operand) (dT sT : TypeId)
    (ho : o.op = .call { callee := .builtin .copy, args := #[d, s], argTypes := #[dT, sT] }) (elem : TypeId) (hu : P.underlying dT = some (.slice elem)) (hsz : (P.info? elem).map (·.size) = some 1)
    (g off dLen dCap : Nat) (ad : Addr) (sLen sCap : Nat) (hd : a.eval d = .slice (some ⟨g, off, none⟩) dLen dCap) (hs : a.eval s = .slice (some ad) sLen sCap)
    (cur : List Value) (t : TypeId) (hg : w.heap[g]? = some (.cells cur.toArray t (0, 0))) (cs : List Value) (hn : cs.length = Nat.min sLen dLen)
    (hsrc : ∀ j v, cs[j]? = some v → w.cell? (ad.add j) = some v) (hfit : off + cs.length ≤ cur.length) (h1 : ∀ v ∈ cs, v.oneCell' = true)
    (h : K (a.put o.dst (goInt cs.length)) (w.setRow g (splice cur off cs).toArray)) :
    if Region.wanted o (yielded ops a.tmps) = true then Oper.wp P o a w K Q else E := by
  have hw : Region.wanted o (yielded ops a.tmps) = true := by simp [Region.wanted, hgd]
  rw [if_pos hw]
  have hrun := run_copy_row (P := P) w dT sT o.type elem g off dLen dCap ad sLen sCap cur.toArray t cs hu hsz hg hn hsrc (by simpa using hfit) h1
  unfold Oper.wp
  simp [execOp, ho, resolve, invoke, builtin, hd, hs, hrun, Result.andThen]
  have e : (cur.take off ++ (cs ++ cur.drop (off + cs.length))).toArray = (splice cur off cs).toArray := rfl
  rw [← e] at h
  simpa [Oper.upon] using h

def rdCells (ao : Option Addr) (n cap : Nat) (i : Int) : List Value := [.slice ao n cap, .int .i64 i]

theorem rdSet (ao : Option Addr) (n cap : Nat) (i j : Int) : (rdCells ao n cap i).toArray.setIfInBounds 1 (.int .i64 j) = (rdCells ao n cap j).toArray := by simp [rdCells]

theorem rd_end {w : World} {R D n cap i k : Nat} {ao : Option Addr} {cur X : List Value} {T : TypeId} (hR : w.heap[R]? = some (.cells (rdCells ao n cap i).toArray 33 (0, 0))) (hD : w.heap[D]? = some (.cells cur.toArray T (0, 0))) (hDR : D ≠ R) (q : Nat) :
    (((w.drewN q).setRow D X.toArray).setCell ⟨R, 1, none⟩ (.int .i64 ((i : Int) + k))).heap[R]? = some (.cells (rdCells ao n cap ((i + k : Nat) : Int)).toArray 33 (0, 0)) ∧
    (((w.drewN q).setRow D X.toArray).setCell ⟨R, 1, none⟩ (.int .i64 ((i : Int) + k))).heap[D]? = some (.cells X.toArray T (0, 0)) ∧ Upd [R, D] w (((w.drewN q).setRow D X.toArray).setCell ⟨R, 1, none⟩ (.int .i64 ((i : Int) + k))) := by
  refine ⟨?_, ?_, ?_⟩
  · have h1 := set_blk (w := (w.drewN q).setRow D X.toArray) ((setRow_other (w.drewN q) _ _ _ (Ne.symm hDR)).trans hR) 1 (.int .i64 ((i : Int) + k))
    rw [rdSet] at h1
    rw [show (((i + k : Nat)) : Int) = (i : Int) + k by omega]
    exact h1
  · exact (set_blk_ne hDR).trans (setRow_heap (w.drewN q) D _ _ T _ hD)
  · exact (((Upd.refl [R, D] w).drewN _).setRow (by simp) _).setCell (p := ⟨R, 1, none⟩) (by simp) _

set_option maxHeartbeats 400000 in
theorem read_any (R D g n cap i k o c : Nat) (T : TypeId) (cur : List Value) (S : List Int) (B : Nat) (w : World)
    (hR : w.heap[R]? = some (.cells (rdCells (some ⟨g, 0, none⟩) n cap i).toArray 33 (0, 0)))
    (hown : w.ownsRow B 5 1 (.slice (some ⟨g, 0, none⟩) n cap) n (bs S)) (hD : w.heap[D]? = some (.cells cur.toArray T (0, 0)))
    (hDR : D ≠ R) (hDg : D ≠ g) (hk : 0 < k) (hik : i + k ≤ n) (hn : n ≤ 1000000) (hcap : n ≤ cap) (hcm : cap ≤ maxLen) (hfit : o + k ≤ cur.length) :
    Calls Ybaf.prog 47 #[.pointer (some ⟨R, 0, none⟩), .slice (some ⟨D, o, none⟩) k c] w fun e w' => e = .returned (.tuple #[.int .i64 k, .nilIface]) ∧
      w'.heap[R]? = some (.cells (rdCells (some ⟨g, 0, none⟩) n cap ((i + k : Nat) : Int)).toArray 33 (0, 0)) ∧ w'.heap[D]? = some (.cells (splice cur o (bs ((S.drop i).take k))).toArray T (0, 0)) ∧ Upd [R, D] w w' := by
  unfold maxLen at hcm
  have c0 : w.cell? ⟨R, 0, none⟩ = some (.slice (some ⟨g, 0, none⟩) n cap) := cell_blk hR rfl
  have c1 : w.cell? ⟨R, 1, none⟩ = some (.int .i64 i) := cell_blk hR rfl
  have f1 : w.frozen? ⟨R, 1, none⟩ = false := froz_blk hR _
  have hlt : ¬ (n : Int) ≤ (i : Int) := by omega
  have hcap' : ¬ cap = i := by omega
  have hin : (i : Int) ≤ (n : Int) := by omega
  have hi0 : (0 : Int) ≤ (i : Int) := by omega
  have hSl : S.length = n := by have := hown.1; simpa [bs_length] using this
  have hlk : (bs ((S.drop i).take k)).length = k := by rw [bs_length]; simp [hSl]; omega
  have hlen := hide (show (bs ((S.drop i).take k)).length = Nat.min (n - i) k by rw [hlk]; exact (Nat.min_eq_right (by omega)).symm)
  have hfit' := hide (show o + (bs ((S.drop i).take k)).length ≤ cur.length by rw [bs_length]; simp [hSl]; omega)
  have hsrc := hide (show ∀ j v, (bs ((S.drop i).take k))[j]? = some v → w.cell? ((⟨g, i, none⟩ : Addr).add j) = some v by
    intro j v hj
    have hjk : j < k := by have := (List.getElem?_eq_some_iff.1 hj).1; rw [bs_length] at this; simp at this; omega
    rw [Addr.add_lit, hown.cellAt (i + j) (by omega)]
    rw [← hj]
    simp [bs, List.getElem?_take, hjk])
  replace hSl := hide hSl
  have hcR : ∀ q, ((w.drewN q).setRow D (splice cur o (bs ((S.drop i).take k))).toArray).cell? ⟨R, 1, none⟩ = some (.int .i64 i) := fun q => by
    rw [World.cell?_of_block (w := w.drewN q) (setRow_other _ _ _ _ (Ne.symm hDR))]; exact c1
  have hfR : ∀ q, ((w.drewN q).setRow D (splice cur o (bs ((S.drop i).take k))).toArray).frozen? ⟨R, 1, none⟩ = false := fun q => by
    rw [World.frozen?_of_block (w := w.drewN q) (setRow_other _ _ _ _ (Ne.symm hDR))]; exact f1
  replace hR := hide hR; replace hD := hide hD; replace hown := hide hown
  go_enter Ybaf.func47, Ybaf.ntmps47
  go_wp2
  go_quiet (fail)
  go_wp2
  go_region_law (refine step_copy_row rfl (.tmp 18) (.tmp 27) 23 23 rfl 5 Ybaf.underlying23 Ybaf.size5 D o k c ⟨g, i, none⟩ (n - i) (cap - i) rfl rfl cur T (by exact hD.out) (bs ((S.drop i).take k)) (by exact hlen.out) (by exact hsrc.out) (by exact hfit'.out) (bs_one _) ?_)
  all_goals
    go_wp2
    go_ret2
    exact ⟨rfl, rd_end hR.out hD.out hDR _⟩
end Go.Proofs.YbulkoboFmt
