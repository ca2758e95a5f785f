import Derived.Test.YbulkogyFmtSearch
import Derived.Maps.AppendAt
namespace Go.Proofs.YbulkogyFmt
open Go.RowKit
set_option linter.unusedSimpArgs false
set_option linter.unusedVariables false

/-! ### append, told where the row lies -/
theorem wp_append_own_at {P : Program} (w : World) {o : Oper} {a : Act} {K : Act → World → Prop} {Q : Exit → Act → World → Prop} (s x : Operand) (t : TypeId)
    (ho : o.op = .call { callee := .builtin .append, args := #[s, x], argTypes := #[t, t] })
    (base : Nat) (e : TypeId) (i : TypeInfo) (z : Value) (size bytes : Nat) (ht : P.underlying t = some (.slice e)) (hi : P.info? e = some i) (hz : i.zero = some z)
    (hsize : i.size = size) (hby : i.bytes = bytes) (hzs : z.cells.size = size) (hsz : 0 < size)
    (v : Value) (n : Nat) (xs : List Value) (hs : a.eval s = v) (hown : w.ownsRow base e size v n xs)
    (ad : Addr) (m c : Nat) (news : List Value) (hx : a.eval x = .slice (some ad) m c) (hl : news.length = m * size) (hnews : ∀ j u, news[j]? = some u → w.cell? (ad.add j) = some u) (h1 : ∀ u ∈ news, u.oneCell' = true)
    (h63 : n + m ≤ maxLen) (hbytes : (n + m) * bytes ≤ 140737488355328) (hbase : base ≤ w.heap.size)
    (h : ∀ v' w', w'.ownsRow base e size v' (n + m) (xs ++ news) → w.grownBy w' v.ownBlock → (v'.ownBlock = v.ownBlock ∨ v'.ownBlock = some w.heap.size) → K (a.put o.dst v') w') : o.wp P a w K Q := by
  obtain ⟨v', w', hrun, r1, r2, _, r3⟩ := run_append_own_at (P := P) w base t o.type e i z size bytes ht hi hz hsize hby hzs hsz v n xs hown ad m c news hl hnews h1 h63 hbytes hbase
  unfold Oper.wp
  simp [execOp, ho, resolve, invoke, builtin, hs, hx, hrun, Result.andThen]
  exact h v' w' r1 r2 r3
theorem wpList_append_own_at {P : Program} (w : World) {ops : Array Oper} {rest : List Oper} {o : Oper} {a : Act} {Q : Exit → Act → World → Prop} (hgd : o.guard = none) (s x : Operand) (t : TypeId)
    (ho : o.op = .call { callee := .builtin .append, args := #[s, x], argTypes := #[t, t] })
    (base : Nat) (e : TypeId) (i : TypeInfo) (z : Value) (size bytes : Nat) (ht : P.underlying t = some (.slice e)) (hi : P.info? e = some i) (hz : i.zero = some z)
    (hsize : i.size = size) (hby : i.bytes = bytes) (hzs : z.cells.size = size) (hsz : 0 < size)
    (v : Value) (n : Nat) (xs : List Value) (hs : a.eval s = v) (hown : w.ownsRow base e size v n xs)
    (ad : Addr) (m c : Nat) (news : List Value) (hx : a.eval x = .slice (some ad) m c) (hl : news.length = m * size) (hnews : ∀ j u, news[j]? = some u → w.cell? (ad.add j) = some u) (h1 : ∀ u ∈ news, u.oneCell' = true)
    (h63 : n + m ≤ maxLen) (hbytes : (n + m) * bytes ≤ 140737488355328) (hbase : base ≤ w.heap.size)
    (h : ∀ v' w', w'.ownsRow base e size v' (n + m) (xs ++ news) → w.grownBy w' v.ownBlock → (v'.ownBlock = v.ownBlock ∨ v'.ownBlock = some w.heap.size) → wpList P ops Q rest (a.put o.dst v') w') : wpList P ops Q (o :: rest) a w := by
  refine wpList_plain hgd fun K hK' => ?_
  exact wp_append_own_at w s x t ho base e i z size bytes ht hi hz hsize hby hzs hsz v n xs hs hown ad m c news hx hl hnews h1 h63 hbytes hbase fun v' w' r1 r2 r3 => hK' _ _ (h v' w' r1 r2 r3)
theorem step_append_own_at {P : Program} {ops : Array Oper} {o : Oper} {a : Act} {w : World} {K : Act → World → Prop} {Q : Exit → Act → World → Prop} {E : Prop} (hgd : o.guard = none) (s x : Operand) (t : TypeId)
    (ho : o.op = .call { callee := .builtin .append, args := #[s, x], argTypes := #[t, t] })
    (base : Nat) (e : TypeId) (i : TypeInfo) (z : Value) (size bytes : Nat) (ht : P.underlying t = some (.slice e)) (hi : P.info? e = some i) (hz : i.zero = some z)
    (hsize : i.size = size) (hby : i.bytes = bytes) (hzs : z.cells.size = size) (hsz : 0 < size)
    (v : Value) (n : Nat) (xs : List Value) (hs : a.eval s = v) (hown : w.ownsRow base e size v n xs)
    (ad : Addr) (m c : Nat) (news : List Value) (hx : a.eval x = .slice (some ad) m c) (hl : news.length = m * size) (hnews : ∀ j u, news[j]? = some u → w.cell? (ad.add j) = some u) (h1 : ∀ u ∈ news, u.oneCell' = true)
    (h63 : n + m ≤ maxLen) (hbytes : (n + m) * bytes ≤ 140737488355328) (hbase : base ≤ w.heap.size)
    (h : ∀ v' w', w'.ownsRow base e size v' (n + m) (xs ++ news) → w.grownBy w' v.ownBlock → (v'.ownBlock = v.ownBlock ∨ v'.ownBlock = some w.heap.size) → K (a.put o.dst v') w') :
    if Region.wanted o (yielded ops a.tmps) = true then Oper.wp P o a w K Q else E := by
  have hw : Region.wanted o (yielded ops a.tmps) = true := by simp [Region.wanted, hgd]
  rw [if_pos hw]
  exact wp_append_own_at w s x t ho base e i z size bytes ht hi hz hsize hby hzs hsz v n xs hs hown ad m c news hx hl hnews h1 h63 hbytes hbase h
theorem new_cells1 (w : World) (l : List Value) (e : TypeId) {j : Nat} {u : Value} (h : l[j]? = some u) : (w.alloc (.cells l.toArray e (0, 0))).cell? ((⟨w.heap.size, 0, none⟩ : Addr).add j) = some u := by
  rw [Addr.add_lit, Nat.zero_add]
  exact cell_blk (heap_alloc_new w _) (by simpa using h)
theorem ints_append (k : IntKind) (a b : List Nat) : ints k (a ++ b) = ints k a ++ ints k b := by simp [ints]
theorem Upd.of_grown_alloc {w w' : World} {o : Obj} {row : Option Nat} (h : (w.alloc o).grownBy w' row) : Upd row.toList w w' :=
  ⟨h.os, h.tape, h.output, by have := h.size; simp at this; omega, fun k hk hn => (h.block k (by simp; omega) (fun e => hn (by simp [← e]))).trans (Below.heap_alloc _ _ _ hk)⟩

/-! ### strconv.Itoa of a small number -/
set_option maxRecDepth 100000 in
set_option maxHeartbeats 1000000 in
theorem small_any (w : World) (p : Nat) (hp : p < 100) :
    Calls Ybaf.prog 21 #[.int .i64 (p : Int)] w fun e w' => ∃ s, e = .returned (.string s) ∧ w' = w := by
  have hp' : (p : Int) < 100 := by omega
  by_cases h : (p : Int) < 10
  · go_enter Ybaf.func21, Ybaf.ntmps21
    go_wp2_with fail
    go_ret
    first | exact ⟨_, rfl, rfl⟩ | exact ⟨⟨_, rfl⟩, rfl⟩ | exact ⟨_, rfl⟩
  · go_enter Ybaf.func21, Ybaf.ntmps21
    go_wp2_with fail
    go_ret
    exact ⟨⟨_, rfl⟩, rfl⟩
set_option maxRecDepth 100000 in
set_option maxHeartbeats 1000000 in
theorem itoa_any (w : World) (p : Nat) (hp : p < 100) :
    Calls Ybaf.prog 14 #[.int .i64 (p : Int)] w fun e w' => ∃ s, e = .returned (.string s) ∧ w' = w := by
  have hp' : (p : Int) < 100 := by omega
  have h20 : Hid (Calls Ybaf.prog 20 #[.int .i64 (p : Int), .int .i64 10] w fun e w' => ∃ s, e = .returned (.string s) ∧ w' = w) := by
    have hs := hide (small_any w p hp)
    show Calls _ _ _ _ _
    go_enter Ybaf.func20, Ybaf.ntmps20
    go_wp2_with fail
    refine hs.out.mono ?_
    rintro e w' ⟨s, rfl, rfl⟩
    go_wp2
    go_ret
    first | exact ⟨_, rfl, rfl⟩ | exact ⟨⟨_, rfl⟩, rfl⟩ | exact ⟨_, rfl⟩
  have h17 : Hid (Calls Ybaf.prog 17 #[.int .i64 (p : Int)] w fun e w' => ∃ s, e = .returned (.string s) ∧ w' = w) := by
    show Calls _ _ _ _ _
    go_enter Ybaf.func17, Ybaf.ntmps17
    go_wp2_with fail
    refine h20.out.mono ?_
    rintro e w' ⟨s, rfl, rfl⟩
    go_wp2
    go_ret
    first | exact ⟨_, rfl, rfl⟩ | exact ⟨⟨_, rfl⟩, rfl⟩ | exact ⟨_, rfl⟩
  go_enter Ybaf.func14, Ybaf.ntmps14
  go_wp2_with fail
  refine h17.out.mono ?_
  rintro e w' ⟨s, rfl, rfl⟩
  go_wp2
  go_ret
  first | exact ⟨_, rfl, rfl⟩ | exact ⟨⟨_, rfl⟩, rfl⟩ | exact ⟨_, rfl⟩

/-! ### the stand-in for randomness -/
def rdCells (a2 : Option Addr) (len cap k : Nat) (argsv : Value) : Array Value := #[.slice a2 len cap, .int .i64 (k : Int), argsv]
/-- The k-th answer. -/
def Ans (w : World) (a2 : Option Addr) (len k ch B : Nat) : Prop := (k < len ∧ ∃ b off, a2 = some ⟨b, off, none⟩ ∧ b < B ∧ w.cell? ⟨b, off + k, none⟩ = some (.int .u8 (ch : Int))) ∨ (len ≤ k ∧ ch = 0)
def IP (w w' : World) (Rb : Nat) (a2 : Option Addr) (len cap k N ch B : Nat) (args : List Nat) (argsv : Value) (e : Ending) : Prop := ∃ argsv', e = .returned (.int .i64 ((ch % N : Nat) : Int)) ∧ w'.heap[Rb]? = some (.cells (rdCells a2 len cap (k + 1) argsv') 27 (0, 0)) ∧ w'.ownsRow B 3 1 argsv' (k + 1) (ints .i64 (args ++ [N])) ∧
  Upd (Rb :: argsv.ownBlock.toList) w w' ∧ (argsv'.ownBlock = argsv.ownBlock ∨ ∃ g, argsv'.ownBlock = some g ∧ w.heap.size ≤ g)
set_option maxHeartbeats 2000000 in
theorem intn_any (w : World) (Rb k N ch len cap B : Nat) (a2 : Option Addr) (args : List Nat) (argsv : Value)
    (hR : w.heap[Rb]? = some (.cells (rdCells a2 len cap k argsv) 27 (0, 0))) (hown : w.ownsRow B 3 1 argsv k (ints .i64 args)) (hch : Ans w a2 len k ch B) (hRB : B ≤ Rb) (hc5 : ch ≤ 255) (hk : k ≤ 1000) (hN0 : 0 < N) (hN1 : N ≤ 1000) (hB : B ≤ w.heap.size) (hlen : len ≤ 5000) :
    Calls Ybaf.prog 48 #[.pointer (some ⟨Rb, 0, none⟩), .int .i64 (N : Int)] w fun e w' => IP w w' Rb a2 len cap k N ch B args argsv e := by
  obtain ⟨i3, hi, hz0, hz1, hz2⟩ := info_parts Ybaf.info3
  obtain ⟨ao, cp, rfl⟩ := own_form hown
  have c2 : w.cell? ⟨Rb, 2, none⟩ = some (.slice ao k cp) := cell_blk hR rfl
  have hRl := lt_of_block hR
  have hne : Hid ((Value.slice ao k cp).ownBlock ≠ some Rb) := by
    intro h
    rcases hown.2 with ⟨h', _⟩ | ⟨g', cap', cur, h', _, hh, _⟩
    · rw [h'] at h; cases h
    · rw [h'] at h; cases h
      rw [hh] at hR; simp at hR
  have hk' : (k : Int) ≤ 1000 := by omega
  have hN' : (N : Int) ≤ 1000 := by omega
  have hN0' : ¬ (N : Int) ≤ 0 := by omega
  have hN0n : ¬ (N : Int) = 0 := by omega
  have hN0m : ¬ N = 0 := by omega
  have hch' : (ch : Int) ≤ 255 := by omega
  have hlen' : (len : Int) ≤ 5000 := by omega
  replace hR := hide hR; replace hown := hide hown; replace hch := hide hch
  go_enter Ybaf.func48, Ybaf.ntmps48
  go_wp2_with (at_builtin; refine wpList_append_own_at _ rfl _ _ 25 rfl B 3 i3 (.int .i64 0) 1 8 Ybaf.underlying25 hi hz0 hz1 hz2 rfl (by decide) _ k (ints .i64 args) rfl (hown.out.alloc _) ⟨w.heap.size, 0, none⟩ 1 1 (ints .i64 [N]) rfl rfl ?h2 ?h6 ?h3 ?h4 ?h5 ?_)
  case h2 => intro j u hj; first | exact new_cells1 w (ints .i64 [N]) 3 hj | exact hj
  case h6 => exact ints_one _ _
  case h3 => unfold maxLen; omega
  case h4 => omega
  case h5 => first | omega | (simp; omega)
  intro v1 w1 hown1 hg1 hfr
  obtain ⟨ao1, cp1, rfl⟩ := own_form hown1
  have hu1 := hide (Upd.of_grown_alloc hg1)
  have hR1 := hide (hu1.out.blk hR.out (by simpa using hne.out))
  have r2 : w1.cell? ⟨Rb, 2, none⟩ = some (.slice ao k cp) := cell_blk hR1.out rfl
  have f2 : w1.frozen? ⟨Rb, 2, none⟩ = false := froz_blk hR1.out _
  have r1 : w1.cell? ⟨Rb, 1, none⟩ = some (.int .i64 (k : Int)) := cell_blk hR1.out rfl
  have r0 : w1.cell? ⟨Rb, 0, none⟩ = some (.slice a2 len cap) := cell_blk hR1.out rfl
  have f1 : w1.frozen? ⟨Rb, 1, none⟩ = false := froz_blk hR1.out _
  replace hown1 := hide hown1; replace hfr := hide hfr
  clear c2 hg1
  go_wp2_with fail
  go_quiet (fail)
  have hW : Hid ((w1.setCell ⟨Rb, 2, none⟩ (.slice ao1 (k + 1) cp1)).heap[Rb]? = some (.cells (rdCells a2 len cap k (.slice ao1 (k + 1) cp1)) 27 (0, 0))) := by show _ = _; rw [set_blk hR1.out]; rfl
  have hWo : Hid ((w1.setCell ⟨Rb, 2, none⟩ (.slice ao1 (k + 1) cp1)).ownsRow B 3 1 (.slice ao1 (k + 1) cp1) (k + 1) (ints .i64 (args ++ [N]))) := by
    rw [ints_append]
    refine own_move hown1.out fun g c hg hc => set_blk_ne ?_
    rintro rfl
    have := hR1.out; rw [hc] at this; simp at this
  have hWu : Hid (Upd (Rb :: (Value.slice ao k cp).ownBlock.toList) w (w1.setCell ⟨Rb, 2, none⟩ (.slice ao1 (k + 1) cp1))) := (hu1.out.mono (by simp; intro g h; exact .inr h)).setCell (p := ⟨Rb, 2, none⟩) (by simp) _
  have hWb : Hid (Below B w (w1.setCell ⟨Rb, 2, none⟩ (.slice ao1 (k + 1) cp1))) := by
    refine hWu.out.below hB fun g hg => ?_
    simp only [List.mem_cons] at hg
    rcases hg with rfl | hg
    · exact hRB
    · exact (hown.out.lt g (by simpa using hg)).1
  obtain ⟨W, hWe⟩ : ∃ W, W = w1.setCell ⟨Rb, 2, none⟩ (.slice ao1 (k + 1) cp1) := ⟨_, rfl⟩
  rw [← hWe] at hW hWo hWu hWb ⊢
  clear hWe r0 r1 r2 f1 f2 hR1 hu1 hown1
  have r0 : W.cell? ⟨Rb, 0, none⟩ = some (.slice a2 len cap) := cell_blk hW.out rfl
  have r1 : W.cell? ⟨Rb, 1, none⟩ = some (.int .i64 (k : Int)) := cell_blk hW.out rfl
  have f1 : W.frozen? ⟨Rb, 1, none⟩ = false := froz_blk hW.out _
  have hfin : Hid (∀ q, IP w ((W.drewN q).setCell ⟨Rb, 1, none⟩ (.int .i64 ((k : Int) + 1))) Rb a2 len cap k N ch B args (.slice ao k cp) (.returned (.int .i64 ((ch % N : Nat) : Int)))) := by
    intro q
    refine ⟨.slice ao1 (k + 1) cp1, rfl, ?_, ?_, (hWu.out.drewN q).setCell (p := ⟨Rb, 1, none⟩) (by simp) _, ?_⟩
    · rw [set_blk (w := W.drewN q) hW.out]
      simp [rdCells]
    · refine own_move (w := W.drewN q) hWo.out fun g c hg hc => set_blk_ne ?_
      rintro rfl
      have : W.heap[g]? = _ := hc
      rw [hW.out] at this; simp at this
    · rcases hfr.out with h | h
      · exact .inl h
      · exact .inr ⟨_, h, by simp⟩
  rcases hch.out with ⟨hkl, b, off, rfl, hbB, hcell⟩ | ⟨hkl, rfl⟩
  · have hkl' : (k : Int) < (len : Int) := by omega
    have d := (hWb.out.cell (p := ⟨b, off + k, none⟩) hbB).trans hcell
    have hmod : (ch : Int) % (N : Int) = ((ch % N : Nat) : Int) := by omega
    have hfin2 := hide (fun q => hfin.out (nq + q))
    go_wp2_with fail
    go_quiet (fail)
    go_wp2
    go_ret
    have := hfin2.out nq
    rw [← hmod] at this
    simpa using this
  · have hkl' : ¬ (k : Int) < (len : Int) := by omega
    go_wp2_with fail
    go_ret
    have := hfin.out nq
    simpa using this
end Go.Proofs.YbulkogyFmt
