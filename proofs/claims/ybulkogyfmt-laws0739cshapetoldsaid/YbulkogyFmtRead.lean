import Derived.Test.YbulkogyFmtCast
namespace Go.Proofs.YbulkogyFmt
open Go.RowKit
set_option linter.unusedSimpArgs false
set_option linter.unusedVariables false

/-! ### what can be read of the run behind the broadcast -/
def At (w1 : World) (b o : Nat) (v : Value) : Prop := ∀ wr, Below w1.heap.size w1 wr → wr.cell? ⟨b, o, none⟩ = some v
theorem At.of {w1 : World} {b o : Nat} {v : Value} (h : w1.cell? ⟨b, o, none⟩ = some v) : At w1 b o v := fun wr hb => (hb.cell (World.block_lt_of_cell? w1 _ h)).trans h
theorem own_cells {w : World} {B : Nat} {e : TypeId} {s : Nat} {v : Value} {n : Nat} {xs : List Value} (h : w.ownsRow B e s v n xs) (hn : 0 < n) : ∃ g cap, v = .slice (some ⟨g, 0, none⟩) n cap ∧ ∀ j u, xs[j]? = some u → w.cell? ⟨g, j, none⟩ = some u := by
  rcases h.2 with ⟨_, h0⟩ | ⟨g, cap, cur, rfl, hg, hh, r1, r2, r3, r4⟩
  · omega
  · refine ⟨g, cap, rfl, fun j u hj => cell_blk hh ?_⟩
    rw [← r4] at hj
    have hjl := (List.getElem?_eq_some_iff.1 hj).1
    rw [List.getElem?_take_of_lt (by simp at hjl; omega)] at hj
    simpa using hj
theorem ints_get {k : IntKind} {l : List Nat} {j : Nat} (h : j < l.length) : (ints k l)[j]? = some (.int k ((l.getD j 0 : Nat) : Int)) := by
  simp [ints, List.getD_eq_getElem?_getD, h]
structure FR (w1 : World) (Rn X H n m rc gs sc ga ac gm mc Rb ev : Nat) (sa : Option Addr) (sk smc : Nat) (steps : List (Nat × List Nat)) (msgs args : List Nat) : Prop where
  rn0 : At w1 Rn 0 (.pointer (some ⟨X, 0, none⟩))
  rn1 : At w1 Rn 1 (.slice sa sk smc)
  rn2 : At w1 Rn 2 (.int .i64 0)
  rn3 : At w1 Rn 3 (.int .i64 (rc : Int))
  rn4 : At w1 Rn 4 (.int .i64 0)
  x0 : At w1 X 0 (.slice (some ⟨H, 0, none⟩) n n)
  x1 : At w1 X 1 (.slice (some ⟨gs, 0, none⟩) m sc)
  x2 : At w1 X 2 (.slice (some ⟨gm, 0, none⟩) n mc)
  rb2 : At w1 Rb 2 (.slice (some ⟨ga, 0, none⟩) m ac)
  st : ∀ i p ms, steps[i]? = some (p, ms) → At w1 gs (i * 3) (.int .i64 (i : Int)) ∧ At w1 gs (i * 3 + 1) (.int .i64 (p : Int)) ∧ ((ms = [] ∧ At w1 gs (i * 3 + 2) (.slice none 0 0)) ∨ ∃ x b, ms = [x] ∧ At w1 gs (i * 3 + 2) (.slice (some ⟨b, 0, none⟩) 1 1) ∧ At w1 b 0 (.int .i64 (x : Int)))
  mg : ∀ j, j < n → At w1 gm j (.int .i64 ((msgs.getD j 0 : Nat) : Int))
  ar : ∀ i, i < m → At w1 ga i (.int .i64 ((args.getD i 0 : Nat) : Int))
  sk : sk = m / ev
  sm : ∀ j, j < m / ev → ∃ g, sa = some ⟨g, 0, none⟩ ∧ At w1 g j (.int .i64 (((j + 1) * ev - 1 : Nat) : Int))
theorem CP.read {w w1 : World} {n ev Rb B : Nat} {ch : Nat → Nat} {e : Ending} (h : CP w w1 n ev Rb B ch e) (hn : 2 ≤ n) (hev : 0 < ev) : ∃ (Rn X H gs sc ga ac gm mc : Nat) (sa : Option Addr) (sk smc : Nat), e = .returned (.pointer (some ⟨Rn, 0, none⟩)) ∧ Below B w w1 ∧
    FR w1 Rn X H n (n * n) (rcN (runOf ch n (n * n))) gs sc ga ac gm mc Rb ev sa sk smc (runOf ch n (n * n)).steps (runOf ch n (n * n)).msgs (argsOf ch n (n * n)) := by
  obtain ⟨C, w2, smp, rfl, hRb, hCn, hCB, hbr, hsi⟩ := h
  obtain ⟨argsv, stv, msv, cs, iv, tg, hA, hR, hS, hI, hE, r⟩ := hbr
  obtain ⟨hb, hB, r1, r2, r⟩ := r
  obtain ⟨hinv, hlen⟩ := run_inv ch (n := n) (by omega) (n * n) (Nat.le_refl _)
  have hm0 : 0 < n * n := Nat.mul_pos (by omega) (by omega)
  have hdone := hinv.done (run_end (by omega))
  have hml : (runOf ch n (n * n)).msgs.length = n := by rw [hinv.lm]; exact hdone.2
  have hst := hR.st
  have hms := hR.ms
  rw [hlen] at hst
  rw [hml] at hms
  have nRn : ∀ {b c e}, w2.heap[b]? = some (.cells c e (0, 0)) → e ≠ 32 → b ∉ [C.Rn] := by
    intro b c e hb' he
    simp only [List.mem_singleton]
    exact blk_ne hb' hR.rn he
  have tu : Upd [C.Rn] w2 w1 := hsi.hu
  have cl : ∀ b c e o v, w2.heap[b]? = some (.cells c e (0, 0)) → e ≠ 32 → w2.cell? ⟨b, o, none⟩ = some v → At w1 b o v := by
    intro b c e o v hb' he hc
    refine At.of ?_
    have := tu.blk hb' (nRn hb' he)
    unfold World.cell? at hc ⊢
    rw [hb'] at hc
    rw [this]
    exact hc
  obtain ⟨gs, sc, rfl, hgs⟩ := own_cells hst hm0
  obtain ⟨gm, mc, rfl, hgm⟩ := own_cells hms (by omega)
  obtain ⟨ga, ac, rfl, hga⟩ := own_cells hA.ar hm0
  obtain ⟨cgs, bgs⟩ := own_blk hst (g := gs) rfl
  obtain ⟨cgm, bgm⟩ := own_blk hms (g := gm) rfl
  obtain ⟨cga, bga⟩ := own_blk hA.ar (g := ga) rfl
  obtain ⟨sa, smc, rfl⟩ := own_form hsi.own
  refine ⟨C.Rn, C.X, C.H, gs, sc, ga, ac, gm, mc, sa, n * n / ev, smc, rfl, ?_, ⟨At.of (cell_blk hsi.hR rfl), At.of (cell_blk hsi.hR rfl), At.of (cell_blk hsi.hR rfl), At.of (cell_blk hsi.hR rfl), At.of (cell_blk hsi.hR rfl), ?_, ?_, ?_, ?_, ?_, ?_, ?_, rfl, ?_⟩⟩
  · rw [← hCB]
    exact hb.trans (tu.below hB (by simpa using r2))
  · rw [← hCn]; exact cl _ _ _ _ _ hR.x (by decide) (cell_blk hR.x rfl)
  · exact cl _ _ _ _ _ hR.x (by decide) (cell_blk hR.x rfl)
  · exact cl _ _ _ _ _ hR.x (by decide) (cell_blk hR.x rfl)
  · rw [← hRb]; exact cl _ _ _ _ _ hA.rb (by decide) (cell_blk hA.rb rfl)
  · intro i p ms hi
    obtain ⟨s1, s2, s3⟩ := hR.sc i p ms hi
    refine ⟨cl _ _ _ _ _ bgs (by decide) (hgs _ _ s1), cl _ _ _ _ _ bgs (by decide) (hgs _ _ s2), ?_⟩
    rcases s3 with ⟨e1, e2⟩ | ⟨x, b, e1, e2, e3, _⟩
    · exact .inl ⟨e1, cl _ _ _ _ _ bgs (by decide) (hgs _ _ e2)⟩
    · exact .inr ⟨x, b, e1, cl _ _ _ _ _ bgs (by decide) (hgs _ _ e2), cl _ _ _ _ _ e3 (by decide) (cell_blk e3 rfl)⟩
  · intro j hj
    exact cl _ _ _ _ _ bgm (by decide) (hgm _ _ (ints_get (by rw [hml]; exact hj)))
  · intro i hi
    exact cl _ _ _ _ _ bga (by decide) (hga _ _ (ints_get (by rw [argsOf_len]; exact hi)))
  · intro j hj
    obtain ⟨g, cap, e1, e2⟩ := own_cells hsi.own (by omega)
    have e3 : sa = some ⟨g, 0, none⟩ := by cases e1; rfl
    refine ⟨g, e3, At.of (e2 _ _ ?_)⟩
    rw [ints_get (by rw [smpl_len]; exact hj)]
    simp [smpl, List.getD_eq_getElem?_getD, hj]
/-- the steps laid so far stay -/
theorem step_steps (c : Nat → Nat) (n : Nat) (s : BS) : ∃ m, (stepOf c n s).steps = s.steps ++ [(pickOf c n s, m)] := by
  unfold stepOf
  split
  · exact ⟨_, rfl⟩
  · exact ⟨_, rfl⟩
theorem run_steps (c : Nat → Nat) {n : Nat} (hn : 0 < n) {i j : Nat} (hij : i < j) (hj : j ≤ n * n) : (runOf c n j).steps[i]? = (runOf c n (i + 1)).steps[i]? := by
  induction j with
  | zero => omega
  | succ j ih =>
    by_cases e : i = j
    · subst e; rfl
    · rw [← ih (by omega) (by omega)]
      obtain ⟨m, hm⟩ := step_steps c n (runOf c n j)
      show (stepOf c n (runOf c n j)).steps[i]? = _
      rw [hm, List.getElem?_append_left (by rw [(run_inv c hn j (by omega)).2]; omega)]
theorem run_step (c : Nat → Nat) {n : Nat} (hn : 0 < n) {i j : Nat} (hij : i < j) (hj : j ≤ n * n) : ∃ ms, (runOf c n j).steps[i]? = some (pickOf c n (runOf c n i), ms) := by
  rw [run_steps c hn hij hj]
  obtain ⟨m, hm⟩ := step_steps c n (runOf c n i)
  refine ⟨m, ?_⟩
  show (stepOf c n (runOf c n i)).steps[i]? = _
  rw [hm, List.getElem?_append_right (by rw [(run_inv c hn i (by omega)).2]; omega), (run_inv c hn i (by omega)).2]
  simp
end Go.Proofs.YbulkogyFmt
