import Derived.Test.YbulkogyFmtRun2
import Derived.Laws.OwnMore
namespace Go.Proofs.YbulkogyFmt
open Go.RowKit
set_option linter.unusedSimpArgs false
set_option linter.unusedVariables false

theorem step_make_full {P : Program} {ops : Array Oper} {o : Oper} {a : Act} {w : World} {K : Act → World → Prop} {Q : Exit → Act → World → Prop} {E : Prop} (hgd : o.guard = none) (l c : Operand) (t : TypeId) (hop : o.op = Op.makeSlice t l c)
    (base : Nat) (e : TypeId) (i : TypeInfo) (z : Value) (size : Nat) (h1 : P.underlying t = some (.slice e)) (h2 : P.info? e = some i) (h3 : i.zero = some z) (h4 : i.size = size)
    (kl kc : IntKind) (n : Nat) (hl : a.eval l = .int kl (n : Int)) (hc : a.eval c = .int kc (n : Int)) (b2 : i.bytes * n ≤ 281474976710656) (b3 : n ≤ maxLen) (b4 : base ≤ w.heap.size)
    (hK : ∀ w', w'.ownsRow base e size (.slice (some ⟨w.heap.size, 0, none⟩) n n) n (madeCells z.cells (n * size)).toList → w.grownBy w' none → K (a.put o.dst (.slice (some ⟨w.heap.size, 0, none⟩) n n)) w') :
    if Region.wanted o (yielded ops a.tmps) = true then Oper.wp P o a w K Q else E := by
  have hw : Region.wanted o (yielded ops a.tmps) = true := by simp [Region.wanted, hgd]
  rw [if_pos hw]
  obtain ⟨w', hrun, r1, r2⟩ := run_make_full (P := P) w base t e i z size h1 h2 h3 h4 kl kc n b2 b3 b4
  unfold Oper.wp
  simp [execOp, hop, hl, hc, hrun, Result.andThen]
  exact hK w' r1 r2
theorem step_make_own {P : Program} {ops : Array Oper} {o : Oper} {a : Act} {w : World} {K : Act → World → Prop} {Q : Exit → Act → World → Prop} {E : Prop} (hgd : o.guard = none) (l c : Operand) (t : TypeId) (hop : o.op = Op.makeSlice t l c)
    (base : Nat) (e : TypeId) (i : TypeInfo) (z : Value) (size : Nat) (h1 : P.underlying t = some (.slice e)) (h2 : P.info? e = some i) (h3 : i.zero = some z) (h4 : i.size = size)
    (kl kc : IntKind) (n : Nat) (hl : a.eval l = .int kl 0) (hc : a.eval c = .int kc (n : Int)) (b2 : i.bytes * n ≤ 281474976710656) (b3 : n ≤ maxLen) (b4 : base ≤ w.heap.size)
    (hK : ∀ w', w'.ownsRow base e size (.slice (some ⟨w.heap.size, 0, none⟩) 0 n) 0 [] → w.grownBy w' none → K (a.put o.dst (.slice (some ⟨w.heap.size, 0, none⟩) 0 n)) w') :
    if Region.wanted o (yielded ops a.tmps) = true then Oper.wp P o a w K Q else E := by
  have hw : Region.wanted o (yielded ops a.tmps) = true := by simp [Region.wanted, hgd]
  rw [if_pos hw]
  obtain ⟨w', hrun, r1, r2⟩ := run_make_own (P := P) w base t e i z size h1 h2 h3 h4 kl kc n b2 b3 b4
  unfold Oper.wp
  simp [execOp, hop, hl, hc, hrun, Result.andThen]
  exact hK w' r1 r2
theorem made_blk {w : World} {B Nb n : Nat} {e : TypeId} {z : Value} (h : w.ownsRow B e 1 (.slice (some ⟨Nb, 0, none⟩) n n) n (madeCells #[z] n).toList) : w.heap[Nb]? = some (.cells (List.replicate n z).toArray e (0, 0)) := by
  rcases h.2 with ⟨h', _⟩ | ⟨g', cap', cur, h', hB, hh, h1, h2, h3, h4⟩
  · cases h'
  · cases h'
    rw [hh]
    rw [toList_madeCells_one, List.take_of_length_le (by simp; omega)] at h4
    have : cur = (List.replicate n z).toArray := by rw [← h4]
    rw [this]

/-- The hosts' block: n strings. -/
def Strs (w : World) (H n : Nat) : Prop := ∃ l : List Value, l.length = n ∧ (∀ v ∈ l, ∃ s, v = .string s) ∧ w.heap[H]? = some (.cells l.toArray 9 (0, 0))
theorem Strs.upd {w w' : World} {H n : Nat} {ks : List Nat} (h : Strs w H n) (hu : Upd ks w w') (hn : H ∉ ks) : Strs w' H n := by
  obtain ⟨l, h1, h2, h3⟩ := h
  exact ⟨l, h1, h2, hu.blk h3 hn⟩
theorem Strs.set {w : World} {H n p : Nat} {s : ByteArray} (h : Strs w H n) : Strs (w.setCell ⟨H, p, none⟩ (.string s)) H n := by
  obtain ⟨l, h1, h2, h3⟩ := h
  refine ⟨l.set p (.string s), by simp [h1], fun v hv => ?_, by rw [set_blk h3]; simp⟩
  rcases List.mem_or_eq_of_mem_set hv with h | h
  · exact h2 v h
  · exact ⟨s, h⟩
structure NR (w wr : World) (X H n : Nat) (stv : Value) : Prop where
  hX : wr.heap[X]? = some (.cells (exC H n stv (.slice none 0 0)) 36 (0, 0))
  hH : Strs wr H n
  own : wr.ownsRow w.heap.size 38 3 stv 0 []
  hu : Upd [] w wr
  nX : w.heap.size ≤ X
  nH : w.heap.size ≤ H

theorem NR.move {w wr w1 : World} {X H n : Nat} {stv : Value} (h : NR w wr X H n stv) (hu : Upd [] wr w1) : NR w w1 X H n stv :=
  ⟨hu.blk h.hX (by simp), h.hH.upd hu (by simp), hu.own h.own (by simp), h.hu.trans hu, h.nX, h.nH⟩
theorem NR.next {w wr : World} {X H n : Nat} {stv : Value} (h : NR w wr X H n stv) (p : Nat) (s : ByteArray) : NR w (wr.drew.setCell ⟨H, p, none⟩ (.string s)) X H n stv := by
  have h' := h.move (w1 := wr.drew) (Upd.refl _ wr).drew
  have hu : Upd [H] wr.drew (wr.drew.setCell ⟨H, p, none⟩ (.string s)) := (Upd.refl _ _).setCell (p := ⟨H, p, none⟩) (by simp) _
  obtain ⟨l, e1, e2, e3⟩ := h'.hH
  exact ⟨hu.blk h'.hX (by simpa using blk_ne h'.hX e3 (by decide)), Strs.set ⟨l, e1, e2, e3⟩, hu.own h'.own (fun g hg hm => by simp at hm; subst hm; obtain ⟨c, hc⟩ := own_blk h'.own hg; exact blk_ne hc e3 (by decide) rfl), h'.hu.fresh hu h'.nH, h'.nX, h'.nH⟩
theorem NR.startA {w : World} {n m : Nat} {za zb : Array Value} (ha : za.toList = List.replicate n (.string ⟨#[]⟩)) (hb : zb.size = m * 3) (hm : m ≤ maxLen) :
    NR w (((w.drew.alloc (.cells za 9)).alloc (.cells zb 38)).alloc (.cells #[.slice (some ⟨w.heap.size, 0, none⟩) n n, .slice (some ⟨w.heap.size + 1, 0, none⟩) 0 m, .slice none 0 0] 36)) (w.heap.size + 1 + 1) w.heap.size n (.slice (some ⟨w.heap.size + 1, 0, none⟩) 0 m) := by
  have s1 : (w.drew.alloc (.cells za 9)).heap.size = w.heap.size + 1 := by simp
  have s2 : ((w.drew.alloc (.cells za 9)).alloc (.cells zb 38)).heap.size = w.heap.size + 1 + 1 := by simp
  refine ⟨?_, ⟨za.toList, by simp [ha], by rw [ha]; intro v hv; exact ⟨_, List.eq_of_mem_replicate hv⟩, ?_⟩, ⟨rfl, .inr ⟨w.heap.size + 1, m, zb, rfl, by omega, ?_, Nat.zero_le _, hm, hb, by simp⟩⟩, ((((Upd.refl _ w).drew).alloc _).alloc _).alloc _, by omega, by omega⟩
  · have := heap_alloc_new ((w.drew.alloc (.cells za 9)).alloc (.cells zb 38)) (.cells #[.slice (some ⟨w.heap.size, 0, none⟩) n n, .slice (some ⟨w.heap.size + 1, 0, none⟩) 0 m, .slice none 0 0] 36)
    rw [s2] at this; exact this
  · rw [Below.heap_alloc _ _ _ (by rw [s2]; omega), Below.heap_alloc _ _ _ (by rw [s1]; omega)]
    exact heap_alloc_new w.drew (.cells za 9)
  · rw [Below.heap_alloc _ _ _ (by rw [s2]; omega)]
    have := heap_alloc_new (w.drew.alloc (.cells za 9)) (.cells zb 38)
    rw [s1] at this; exact this
theorem NR.startB {w : World} {n m : Nat} {za zb : Array Value} (ha : za.toList = List.replicate n (.string ⟨#[]⟩)) (hb : zb.size = m * 3) (hm : m ≤ maxLen) :
    NR w (((w.drew.alloc (.cells zb 38)).alloc (.cells za 9)).alloc (.cells #[.slice (some ⟨w.heap.size + 1, 0, none⟩) n n, .slice (some ⟨w.heap.size, 0, none⟩) 0 m, .slice none 0 0] 36)) (w.heap.size + 1 + 1) (w.heap.size + 1) n (.slice (some ⟨w.heap.size, 0, none⟩) 0 m) := by
  have s1 : (w.drew.alloc (.cells zb 38)).heap.size = w.heap.size + 1 := by simp
  have s2 : ((w.drew.alloc (.cells zb 38)).alloc (.cells za 9)).heap.size = w.heap.size + 1 + 1 := by simp
  refine ⟨?_, ⟨za.toList, by simp [ha], by rw [ha]; intro v hv; exact ⟨_, List.eq_of_mem_replicate hv⟩, ?_⟩, ⟨rfl, .inr ⟨w.heap.size, m, zb, rfl, by omega, ?_, Nat.zero_le _, hm, hb, by simp⟩⟩, ((((Upd.refl _ w).drew).alloc _).alloc _).alloc _, by omega, by omega⟩
  · have := heap_alloc_new ((w.drew.alloc (.cells zb 38)).alloc (.cells za 9)) (.cells #[.slice (some ⟨w.heap.size + 1, 0, none⟩) n n, .slice (some ⟨w.heap.size, 0, none⟩) 0 m, .slice none 0 0] 36)
    rw [s2] at this; exact this
  · rw [Below.heap_alloc _ _ _ (by rw [s2]; omega)]
    have := heap_alloc_new (w.drew.alloc (.cells zb 38)) (.cells za 9)
    rw [s1] at this; exact this
  · rw [Below.heap_alloc _ _ _ (by rw [s2]; omega), Below.heap_alloc _ _ _ (by rw [s1]; omega)]
    exact heap_alloc_new w.drew (.cells zb 38)

/-- What newRun leaves. -/
def NP (w w' : World) (n : Nat) (e : Ending) : Prop := ∃ Rn X H stv, e = .returned (.pointer (some ⟨Rn, 0, none⟩)) ∧ w'.heap[Rn]? = some (.cells (runC X (.slice none 0 0) 0) 32 (0, 0)) ∧ NR w w' X H n stv ∧ w.heap.size ≤ Rn
set_option maxRecDepth 100000 in
set_option maxHeartbeats 2000000 in
theorem new_any (w : World) (n m : Nat) (hn : n < 100) (hm : m ≤ 10000) :
    Calls Ybaf.prog 7 #[.int .i64 (n : Int), .int .i64 (m : Int)] w fun e w' => NP w w' n e := by
  obtain ⟨i9, hi9, a0, a1, a2⟩ := info_parts Ybaf.info9
  obtain ⟨i38, hi38, c0, c1, c2⟩ := info_parts Ybaf.info38
  have hn' : (n : Int) < 100 := by omega
  have hm' : (m : Int) ≤ 10000 := by omega
  obtain ⟨za, hza⟩ : ∃ za, za = madeCells #[Value.string ⟨#[]⟩] n := ⟨_, rfl⟩
  obtain ⟨zb, hzb⟩ : ∃ zb, zb = madeCells #[Value.int .i64 0, .int .i64 0, .slice none 0 0] (m * 3) := ⟨_, rfl⟩
  have mk1 : ∀ w' : World, (Instr.makeSlice 33 (.int .i64 (n : Int)) (.int .i64 (n : Int))).run Ybaf.prog w' = .ok (.slice (some ⟨w'.heap.size, 0, none⟩) n n) (w'.alloc (.cells za 9)) := by
    intro w'
    have hr := run_make (P := Ybaf.prog) w' 33 9 i9 (.string ⟨#[]⟩) Ybaf.underlying33 hi9 a0 .i64 .i64 n n (by omega) (Int.le_refl _) (by rw [a2]; omega) (by omega)
    rw [a1] at hr
    rw [hza]
    simpa [Value.cells] using hr
  have mk2 : ∀ w' : World, (Instr.makeSlice 34 (.int .i64 0) (.int .i64 (m : Int))).run Ybaf.prog w' = .ok (.slice (some ⟨w'.heap.size, 0, none⟩) 0 m) (w'.alloc (.cells zb 38)) := by
    intro w'
    have hr := run_make (P := Ybaf.prog) w' 34 38 i38 (.agg #[.int .i64 0, .int .i64 0, .slice none 0 0]) Ybaf.underlying34 hi38 c0 .i64 .i64 0 m (Int.le_refl _) (by omega) (by rw [c2]; omega) (by omega)
    rw [c1] at hr
    rw [hzb]
    simpa [Value.cells] using hr
  have hzal : Hid (za.toList = List.replicate n (.string ⟨#[]⟩)) := by show _ = _; rw [hza, toList_madeCells_one]
  have hzbl : Hid (zb.size = m * 3) := by show _ = _; rw [hzb, size_madeCells]
  have hmx : m ≤ maxLen := by unfold maxLen; omega
  clear hza hzb
  go_enter Ybaf.func7, Ybaf.ntmps7
  go_wp2_with fail
  go_region_law (fail)
  · clear mk1 mk2
    have h1 : Hid (NR w (((w.drew.alloc (.cells za 9)).alloc (.cells zb 38)).alloc (.cells #[.slice (some ⟨w.heap.size, 0, none⟩) n n, .slice (some ⟨w.heap.size + 1, 0, none⟩) 0 m, .slice none 0 0] 36)) (w.heap.size + 1 + 1) w.heap.size n (.slice (some ⟨w.heap.size + 1, 0, none⟩) 0 m)) := NR.startA hzal.out hzbl.out hmx
    go_wp2_with fail
    go_loopw [18] (fun t wr => ∃ p : Nat, p ≤ n ∧ t = .int .i64 (p : Int) ∧ Hid (NR w wr (w.heap.size + 1 + 1) w.heap.size n (.slice (some ⟨w.heap.size + 1, 0, none⟩) 0 m))) (fun t _ => n - (intOf t).toNat)
    case atStart => exact ⟨0, by omega, rfl, h1⟩
    case round =>
      clear h1
      obtain ⟨p, hp, rfl, h1⟩ := hrel
      have x0 : wr.cell? ⟨w.heap.size + 1 + 1, 0, none⟩ = some (.slice (some ⟨w.heap.size, 0, none⟩) n n) := cell_blk h1.out.hX rfl
      by_cases hpl : p < n
      · have hpl' : (p : Int) < (n : Int) := by omega
        obtain ⟨v, hv, fv⟩ : ∃ v, wr.cell? ⟨w.heap.size, p, none⟩ = some v ∧ wr.frozen? ⟨w.heap.size, p, none⟩ = false := by
          obtain ⟨l, e1, e2, e3⟩ := h1.out.hH
          exact ⟨l[p]'(by omega), cell_blk e3 (by simp [show p < l.length by omega]), froz_blk e3 _⟩
        have hit := hide (itoa_any wr.drew p (by omega))
        go_wp2_with fail
        go_region_with (go_at_call 14; refine hit.out.mono ?_; rintro e w2 ⟨s, rfl, rfl⟩)
        all_goals
          have hnx := hide (h1.out.next p s)
          go_wp2
          exact ⟨⟨p + 1, by omega, by simp, hnx⟩, by simp [intOf]; omega⟩
      · obtain rfl : p = n := by omega
        go_wp2
        go_ret
        refine ⟨wr.heap.size, w.heap.size + 1 + 1, w.heap.size, (.slice (some ⟨w.heap.size + 1, 0, none⟩) 0 m), rfl, ?_, h1.out.move ((Upd.refl _ wr).alloc _), h1.out.hu.size⟩
        exact heap_alloc_new wr _
  · clear mk1 mk2
    have h1 : Hid (NR w (((w.drew.alloc (.cells zb 38)).alloc (.cells za 9)).alloc (.cells #[.slice (some ⟨w.heap.size + 1, 0, none⟩) n n, .slice (some ⟨w.heap.size, 0, none⟩) 0 m, .slice none 0 0] 36)) (w.heap.size + 1 + 1) (w.heap.size + 1) n (.slice (some ⟨w.heap.size, 0, none⟩) 0 m)) := NR.startB hzal.out hzbl.out hmx
    go_wp2_with fail
    go_loopw [18] (fun t wr => ∃ p : Nat, p ≤ n ∧ t = .int .i64 (p : Int) ∧ Hid (NR w wr (w.heap.size + 1 + 1) (w.heap.size + 1) n (.slice (some ⟨w.heap.size, 0, none⟩) 0 m))) (fun t _ => n - (intOf t).toNat)
    case atStart => exact ⟨0, by omega, rfl, h1⟩
    case round =>
      clear h1
      obtain ⟨p, hp, rfl, h1⟩ := hrel
      have x0 : wr.cell? ⟨w.heap.size + 1 + 1, 0, none⟩ = some (.slice (some ⟨(w.heap.size + 1), 0, none⟩) n n) := cell_blk h1.out.hX rfl
      by_cases hpl : p < n
      · have hpl' : (p : Int) < (n : Int) := by omega
        obtain ⟨v, hv, fv⟩ : ∃ v, wr.cell? ⟨(w.heap.size + 1), p, none⟩ = some v ∧ wr.frozen? ⟨(w.heap.size + 1), p, none⟩ = false := by
          obtain ⟨l, e1, e2, e3⟩ := h1.out.hH
          exact ⟨l[p]'(by omega), cell_blk e3 (by simp [show p < l.length by omega]), froz_blk e3 _⟩
        have hit := hide (itoa_any wr.drew p (by omega))
        go_wp2_with fail
        go_region_with (go_at_call 14; refine hit.out.mono ?_; rintro e w2 ⟨s, rfl, rfl⟩)
        all_goals
          have hnx := hide (h1.out.next p s)
          go_wp2
          exact ⟨⟨p + 1, by omega, by simp, hnx⟩, by simp [intOf]; omega⟩
      · obtain rfl : p = n := by omega
        go_wp2
        go_ret
        refine ⟨wr.heap.size, w.heap.size + 1 + 1, (w.heap.size + 1), (.slice (some ⟨w.heap.size, 0, none⟩) 0 m), rfl, ?_, h1.out.move ((Upd.refl _ wr).alloc _), h1.out.hu.size⟩
        exact heap_alloc_new wr _
end Go.Proofs.YbulkogyFmt
