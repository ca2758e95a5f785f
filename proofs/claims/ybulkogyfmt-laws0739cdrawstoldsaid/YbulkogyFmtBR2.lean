import Derived.Test.YbulkogyFmtBR
namespace Go.Proofs.YbulkogyFmt
open Go.RowKit
set_option linter.unusedSimpArgs false
set_option linter.unusedVariables false

theorem sc_app {wr w1 : World} {tg tg' : Nat → Tg} {cs : List Value} {steps : List (Nat × List Nat)} {p : Nat} {m : List Nat} {B : Nat} {K : Tg → Bool} {mv : Value} (h : ∀ j p m, steps[j]? = some (p, m) → StepC wr tg cs j p m) (hl : cs.length = steps.length * 3) (hu : TU B K tg wr w1) (h1 : K .mg = false) (ht : ∀ k, k < wr.heap.size → tg' k = tg k)
    (hm : (m = [] ∧ mv = .slice none 0 0) ∨ ∃ (x b : Nat), m = [x] ∧ mv = .slice (some ⟨b, 0, none⟩) 1 1 ∧ w1.heap[b]? = some (.cells #[.int .i64 (x : Int)] 3 (0, 0)) ∧ tg' b = .mg) :
    ∀ j p' m', (steps ++ [(p, m)])[j]? = some (p', m') → StepC w1 tg' (cs ++ [.int .i64 (steps.length : Int), .int .i64 (p : Int), mv]) j p' m' := by
  intro j p' m' hj
  by_cases e : j < steps.length
  · rw [List.getElem?_append_left e] at hj
    exact (h j p' m' hj).move hu h1 ht
  · have hjl := (List.getElem?_eq_some_iff.1 hj).1
    simp at hjl
    obtain rfl : j = steps.length := by omega
    rw [List.getElem?_append_right (Nat.le_refl _), Nat.sub_self] at hj
    simp at hj
    obtain ⟨rfl, rfl⟩ := hj
    have a : ∀ d, (cs ++ [.int .i64 (steps.length : Int), .int .i64 (p : Int), mv])[steps.length * 3 + d]? = [Value.int .i64 (steps.length : Int), .int .i64 (p : Int), mv][d]? := by
      intro d
      rw [List.getElem?_append_right (by omega), hl, Nat.add_sub_cancel_left]
    refine ⟨by have := a 0; simpa using this, by have := a 1; simpa using this, ?_⟩
    rcases hm with ⟨rfl, rfl⟩ | ⟨x, b, rfl, rfl, hb, htb⟩
    · exact .inl ⟨rfl, by have := a 2; simpa using this⟩
    · exact .inr ⟨x, b, rfl, by have := a 2; simpa using this, hb, htb⟩
theorem BR.send {w wr w1 : World} {C : Cx} {s : BS} {k rc p : Nat} {args l : List Nat} {argsv stv msv stv' msv' : Value} {cs iv : List Value} {tg : Nat → Tg} (hA : PA wr C tg argsv k args) (hR : PR wr C tg stv msv cs rc s.steps s.msgs) (hS : PS wr C tg s.sent) (hI : PI wr C tg iv s.inbox) (hE : PE wr C tg l)
    (r : Below C.B w wr ∧ C.B ≤ wr.heap.size ∧ C.B ≤ C.Rb ∧ C.B ≤ C.Rn ∧ C.B ≤ C.X ∧ C.B ≤ C.Sb ∧ C.B ≤ C.Ib ∧ C.B ≤ C.Bx ∧ C.B ≤ C.E)
    (d1 : w1.heap[C.X]? = some (.cells (exC C.H C.n stv' msv') 36 (0, 0))) (d2 : w1.ownsRow C.B 38 3 stv' (s.steps.length + 1) (cs ++ [.int .i64 (s.steps.length : Int), .int .i64 (p : Int), .slice none 0 0])) (d3 : w1.ownsRow C.B 3 1 msv' (s.msgs.length + 1) (ints .i64 (s.msgs ++ [s.steps.length])))
    (d4 : Upd (C.X :: (stv.ownBlock.toList ++ msv.ownBlock.toList)) wr w1) (d5 : msv'.ownBlock = msv.ownBlock ∨ ∃ g, msv'.ownBlock = some g ∧ wr.heap.size ≤ g) :
    BR w w1 C { s with steps := s.steps ++ [(p, [])], msgs := s.msgs ++ [s.steps.length] } k rc args l := by
  obtain ⟨hb, hB, r1, r2, r3, r⟩ := r
  have tu : TU C.B (fun t => t.k == 4 || t.k == 6 || t.k == 7) tg wr w1 := TU.of d4 hB (by
    intro x hx
    simp only [List.mem_cons, List.mem_append] at hx
    rcases hx with rfl | hx | hx
    · exact touch_blk r3 hR.x (by decide) hR.tx rfl
    · exact touch_st hR.st hx rfl
    · exact touch_own hR.ms hx hR.tms rfl)
  have ht : ∀ k, k < wr.heap.size → newTg tg wr.heap.size .ms k = tg k := fun k hk => newTg_old hk
  refine ⟨argsv, stv', msv', _, iv, newTg tg wr.heap.size .ms, hA.move tu rfl rfl ht, ⟨tu.keep hR.rn (by decide) hR.trn rfl, d1, hR.hh.tu tu hR.th rfl, by simpa using d2, by simpa using d3, sc_app hR.sc hR.st.1 tu rfl ht (.inl ⟨rfl, rfl⟩), ?_, ?_, ?_, ?_⟩, hS.move tu rfl ht, hI.move tu rfl (fun _ => rfl) ht, hE.move tu rfl rfl ht, hb.trans tu.bl, Nat.le_trans hB tu.size, r1, r2, r3, r⟩
  · rw [ht _ (lt_of_block hR.rn)]; exact hR.trn
  · rw [ht _ (lt_of_block hR.x)]; exact hR.tx
  · rw [ht _ hR.hh.lt]; exact hR.th
  · intro g hg
    rcases d5 with e | ⟨g', e, hl⟩
    · rw [e] at hg; rw [ht g (hR.ms.lt g hg).2]; exact hR.tms g hg
    · rw [e] at hg; cases hg; exact newTg_new hl
theorem BR.recv {w wr w1 : World} {C : Cx} {s : BS} {k rc p fr : Nat} {args l : List Nat} {argsv stv msv stv' : Value} {cs iv : List Value} {tg : Nat → Tg} (hA : PA wr C tg argsv k args) (hR : PR wr C tg stv msv cs rc s.steps s.msgs) (hS : PS wr C tg s.sent) (hI : PI wr C tg iv s.inbox) (hE : PE wr C tg l)
    (r : Below C.B w wr ∧ C.B ≤ wr.heap.size ∧ C.B ≤ C.Rb ∧ C.B ≤ C.Rn ∧ C.B ≤ C.X ∧ C.B ≤ C.Sb ∧ C.B ≤ C.Ib ∧ C.B ≤ C.Bx ∧ C.B ≤ C.E)
    (d0 : w1.heap[C.Rn]? = some (.cells (runC C.X (.slice none 0 0) (rc + 1)) 32 (0, 0))) (d1 : w1.heap[C.X]? = some (.cells (exC C.H C.n stv' msv) 36 (0, 0))) (d2 : w1.heap[wr.heap.size]? = some (.cells #[.int .i64 (fr : Int)] 3 (0, 0))) (d3 : w1.ownsRow C.B 38 3 stv' (s.steps.length + 1) (cs ++ [.int .i64 (s.steps.length : Int), .int .i64 (p : Int), .slice (some ⟨wr.heap.size, 0, none⟩) 1 1]))
    (d4 : Upd (C.Rn :: C.X :: stv.ownBlock.toList) wr w1) :
    BR w w1 C { s with steps := s.steps ++ [(p, [fr])] } k (rc + 1) args l := by
  obtain ⟨hb, hB, r1, r2, r3, r⟩ := r
  have tu : TU C.B (fun t => t.k == 4 || t.k == 6 || t.k == 3) tg wr w1 := TU.of d4 hB (by
    intro x hx
    simp only [List.mem_cons] at hx
    rcases hx with rfl | rfl | hx
    · exact touch_blk r2 hR.rn (by decide) hR.trn rfl
    · exact touch_blk r3 hR.x (by decide) hR.tx rfl
    · exact touch_st hR.st hx rfl)
  have ht : ∀ k, k < wr.heap.size → newTg tg wr.heap.size .mg k = tg k := fun k hk => newTg_old hk
  refine ⟨argsv, stv', msv, _, iv, newTg tg wr.heap.size .mg, hA.move tu rfl rfl ht, ⟨d0, d1, hR.hh.tu tu hR.th rfl, by simpa using d3, tu.own3 hR.ms hR.tms rfl, sc_app hR.sc hR.st.1 tu rfl ht (.inr ⟨fr, wr.heap.size, rfl, rfl, d2, newTg_new (Nat.le_refl _)⟩), ?_, ?_, ?_, ?_⟩, hS.move tu rfl ht, hI.move tu rfl (fun _ => rfl) ht, hE.move tu rfl rfl ht, hb.trans tu.bl, Nat.le_trans hB tu.size, r1, r2, r3, r⟩
  · rw [ht _ (lt_of_block hR.rn)]; exact hR.trn
  · rw [ht _ (lt_of_block hR.x)]; exact hR.tx
  · rw [ht _ hR.hh.lt]; exact hR.th
  · intro g hg
    rw [ht g (hR.ms.lt g hg).2]; exact hR.tms g hg
theorem step_irow {ops : Array Oper} {o : Oper} {a : Act} {w : World} {K : Act → World → Prop} {Q : Exit → Act → World → Prop} {E : Prop} (hgd : o.guard = none) (s x : Operand)
    (ho : o.op = .call { callee := .builtin .append, args := #[s, x], argTypes := #[25, 25] })
    (v : Value) (xs : List Nat) (e : Nat) (hs : a.eval s = v) (h : IRow w v xs) (ad : Addr) (c : Nat) (hx : a.eval x = .slice (some ad) 1 c) (hc : ∀ j u, (ints .i64 [e])[j]? = some u → w.cell? (ad.add j) = some u) (hl : xs.length ≤ 1000)
    (hK : ∀ v' w', IRow w' v' (xs ++ [e]) → Upd v.ownBlock.toList w w' → (v'.ownBlock = v.ownBlock ∨ ∃ g, v'.ownBlock = some g ∧ w.heap.size ≤ g) → K (a.put o.dst v') w') :
    if Region.wanted o (yielded ops a.tmps) = true then Oper.wp Ybaf.prog o a w K Q else E := by
  have hw : Region.wanted o (yielded ops a.tmps) = true := by simp [Region.wanted, hgd]
  rw [if_pos hw]
  obtain ⟨v', w', hrun, r1, r2, r3⟩ := run_irow w v xs e o.type ad c h hc hl
  unfold Oper.wp
  simp [execOp, ho, resolve, invoke, builtin, hs, hx, hrun, Result.andThen]
  exact hK v' w' r1 r2 r3
theorem Ans.below {w wr : World} {a2 : Option Addr} {len k ch B : Nat} (h : Ans w a2 len k ch B) (hb : Below B w wr) : Ans wr a2 len k ch B := by
  rcases h with ⟨h1, b, off, h2, h3, h4⟩ | h
  · exact .inl ⟨h1, b, off, h2, h3, (hb.cell (p := ⟨b, off + k, none⟩) h3).trans h4⟩
  · exact .inr h
end Go.Proofs.YbulkogyFmt
