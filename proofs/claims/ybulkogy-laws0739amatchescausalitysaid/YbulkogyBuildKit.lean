import Derived.Test.YbulkogyGuard
namespace Go.Proofs.Ybulkogy
open Go.RowKit
set_option linter.unusedSimpArgs false
set_option linter.unusedVariables false

/-- append as one step of a region that draws its order. -/
theorem step_append_own {P : Program} {ops : Array Oper} {o : Oper} {a : Act} {w : World} {K : Act → World → Prop} {Q : Exit → Act → World → Prop} {E : Prop} (hgd : o.guard = none) (s x : Operand) (t : TypeId)
    (ho : o.op = .call { callee := .builtin .append, args := #[s, x], argTypes := #[t, t] })
    (base : Nat) (e : TypeId) (i : TypeInfo) (z : Value) (size bytes : Nat) (ht : P.underlying t = some (.slice e)) (hi : P.info? e = some i) (hz : i.zero = some z)
    (hsize : i.size = size) (hby : i.bytes = bytes) (hzs : z.cells.size = size) (hsz : 0 < size)
    (v : Value) (n : Nat) (xs : List Value) (hs : a.eval s = v) (hown : w.ownsRow base e size v n xs)
    (ad : Addr) (m c : Nat) (news : List Value) (hx : a.eval x = .slice (some ad) m c) (hl : news.length = m * size) (hnews : ∀ j u, news[j]? = some u → w.cell? (ad.add j) = some u) (h1 : ∀ u ∈ news, u.oneCell' = true)
    (h63 : n + m ≤ maxLen) (hbytes : (n + m) * bytes ≤ 140737488355328) (hbase : base ≤ w.heap.size)
    (h : ∀ v' w', w'.ownsRow base e size v' (n + m) (xs ++ news) → w.grownBy w' v.ownBlock → (v' = .slice none 0 0 ↔ v = .slice none 0 0 ∧ m = 0) → K (a.put o.dst v') w') :
    if Region.wanted o (yielded ops a.tmps) = true then Oper.wp P o a w K Q else E := by
  have hw : Region.wanted o (yielded ops a.tmps) = true := by simp [Region.wanted, hgd]
  rw [if_pos hw]
  exact wp_append_own w s x t ho base e i z size bytes ht hi hz hsize hby hzs hsz v n xs hs hown ad m c news hx hl hnews h1 h63 hbytes hbase h
theorem new_cells1 (w : World) (l : List Value) (e : TypeId) {j : Nat} {u : Value} (h : l[j]? = some u) : (w.alloc (.cells l.toArray e (0, 0))).cell? ((⟨w.heap.size, 0, none⟩ : Addr).add j) = some u := by
  rw [Addr.add_lit, Nat.zero_add]
  exact cell_blk (heap_alloc_new w _) (by simpa using h)

/-- A row of merges. -/
def MsOk (w : World) (v : Value) (ms : List Nat) : Prop := ∃ (am : Option Addr) (cm : Nat), v = .slice am ms.length cm ∧ ∀ (j m : Nat), ms[j]? = some m → ∃ (b : Nat) (cb : Array Value), am = some ⟨b, 0, none⟩ ∧ w.heap[b]? = some (.cells cb 3 (0, 0)) ∧ cb[j]? = some (.int .i64 (m : Int))
theorem MsOk.of_own {w : World} {B : Nat} {v : Value} {ms : List Nat} (h : w.ownsRow B 3 1 v ms.length (ints .i64 ms)) : MsOk w v ms := by
  rcases h.2 with ⟨rfl, h0⟩ | ⟨g, cap, cur, rfl, hg, hh, h1, h2, h3, h4⟩
  · refine ⟨none, 0, by rw [h0], fun j m hj => ?_⟩
    have := (List.getElem?_eq_some_iff.1 hj).1
    omega
  · refine ⟨_, _, rfl, fun j m hj => ⟨g, cur, rfl, hh, ?_⟩⟩
    have hjl := (List.getElem?_eq_some_iff.1 hj).1
    have e : (cur.toList.take (ms.length * 1))[j]? = some (.int .i64 (m : Int)) := by rw [h4]; simp [ints, hj]
    rw [List.getElem?_take_of_lt (by omega)] at e
    simpa using e
theorem MsOk.keep {w w' : World} {v : Value} {ms : List Nat} (h : MsOk w v ms) (hk : ∀ (b : Nat) (c : Array Value), w.heap[b]? = some (.cells c 3 (0, 0)) → w'.heap[b]? = some (.cells c 3 (0, 0))) : MsOk w' v ms := by
  obtain ⟨am, cm, h1, h2⟩ := h
  refine ⟨am, cm, h1, fun j m hj => ?_⟩
  obtain ⟨b, cb, e1, e2, e3⟩ := h2 j m hj
  exact ⟨b, cb, e1, hk _ _ e2, e3⟩

structure BI (w wr : World) (X H p i : Nat) (L : List (Nat × List Nat)) (sv : Value) (cs : List Value) : Prop where
  hX : wr.heap[X]? = some (.cells #[.slice (some ⟨H, 0, none⟩) p p, sv, .slice none 0 0] 42 (0, 0))
  own : wr.ownsRow w.heap.size 44 3 sv i cs
  st : ∀ (k q : Nat) (ms : List Nat), k < i → L[k]? = some (q, ms) → cs[k * 3]? = some (.int .i64 (k : Int)) ∧ cs[k * 3 + 1]? = some (.int .i64 (q : Int)) ∧ ∃ v, cs[k * 3 + 2]? = some v ∧ MsOk wr v ms
  bel : Below w.heap.size w wr
  nX : w.heap.size ≤ X
theorem own_blk {w : World} {B : Nat} {e : TypeId} {s : Nat} {v : Value} {n : Nat} {xs : List Value} (h : w.ownsRow B e s v n xs) {g : Nat} (hg : v.ownBlock = some g) : ∃ c, w.heap[g]? = some (.cells c e (0, 0)) := by
  rcases h.2 with ⟨rfl, _⟩ | ⟨g', cap', cur, rfl, _, hh, _⟩
  · cases hg
  · cases hg; exact ⟨cur, hh⟩
theorem BI.move {w wr w1 : World} {X H p i : Nat} {L : List (Nat × List Nat)} {sv : Value} {cs : List Value} (h : BI w wr X H p i L sv cs) (hb : Below wr.heap.size wr w1) : BI w w1 X H p i L sv cs := by
  have hu : Upd [] wr w1 := Upd.of_below hb
  refine ⟨hu.blk h.hX (by simp), hu.own h.own (by simp), fun k q ms hk hL => ?_, h.bel.trans (hb.mono h.bel.size), h.nX⟩
  obtain ⟨h1, h2, v, h3, h4⟩ := h.st k q ms hk hL
  exact ⟨h1, h2, v, h3, h4.keep fun b c hc => hu.blk hc (by simp)⟩
theorem BI.x6 {w w3 w6 : World} {X H p i : Nat} {L : List (Nat × List Nat)} {sv : Value} {cs : List Value} {o : Obj} (h : BI w w3 X H p i L sv cs) (hg : (w3.alloc o).grownBy w6 sv.ownBlock) : w6.heap[X]? = some (.cells #[.slice (some ⟨H, 0, none⟩) p p, sv, .slice none 0 0] 42 (0, 0)) := by
  have hbl := lt_of_block h.hX
  rw [hg.block X (by simp; omega) ?_, Below.heap_alloc _ _ _ hbl, h.hX]
  intro hv
  obtain ⟨c', hc'⟩ := own_blk h.own hv.symm
  rw [h.hX] at hc'
  simp at hc'
theorem BI.next {w w3 w6 : World} {X H p i q : Nat} {L : List (Nat × List Nat)} {sv sv' v : Value} {cs : List Value} {ms : List Nat} {o : Obj} (h : BI w w3 X H p i L sv cs) (hL : L[i]? = some (q, ms)) (hms : MsOk w3 v ms)
    (hown : w6.ownsRow w.heap.size 44 3 sv' (i + 1) (cs ++ [.int .i64 (i : Int), .int .i64 (q : Int), v])) (hg : (w3.alloc o).grownBy w6 sv.ownBlock) : BI w (w6.setCell ⟨X, 1, none⟩ sv') X H p (i + 1) L sv' (cs ++ [.int .i64 (i : Int), .int .i64 (q : Int), v]) := by
  have hk : ∀ (b : Nat) (c : Array Value) (e : TypeId), e ≠ 44 → w3.heap[b]? = some (.cells c e (0, 0)) → w6.heap[b]? = some (.cells c e (0, 0)) := by
    intro b c e he hb
    have hbl := lt_of_block hb
    rw [hg.block b (by simp; omega) ?_, Below.heap_alloc _ _ _ hbl, hb]
    intro hv
    obtain ⟨c', hc'⟩ := own_blk h.own hv.symm
    rw [hb] at hc'
    simp at hc'
    exact he hc'.2
  have hX6 := hk X _ 42 (by decide) h.hX
  have hlen := h.own.1
  have hb6 : Below w.heap.size w w6 := by
    refine h.bel.trans ?_
    exact ((Below.refl w.heap.size w3).alloc h.bel.size o).grown hg (by have := h.bel.size; simp; omega) fun k hk => (h.own.lt k hk).1
  have hk2 : ∀ (b : Nat) (c : Array Value), w3.heap[b]? = some (.cells c 3 (0, 0)) → (w6.setCell ⟨X, 1, none⟩ sv').heap[b]? = some (.cells c 3 (0, 0)) := fun b c hb => (set_blk_ne (blk_ne (hk b c 3 (by decide) hb) hX6 (by decide))).trans (hk b c 3 (by decide) hb)
  refine ⟨?_, ?_, fun k q' ms' hk' hL' => ?_, hb6.setCell (p := ⟨X, 1, none⟩) h.nX _, h.nX⟩
  · rw [set_blk hX6]; rfl
  · refine own_move hown fun g' c hg' hc => set_blk_ne ?_
    rintro rfl
    rw [hc] at hX6; simp at hX6
  · by_cases e : k = i
    · subst e
      rw [hL] at hL'
      cases hL'
      rw [List.getElem?_append_right (by omega), List.getElem?_append_right (by omega), List.getElem?_append_right (by omega), hlen]
      refine ⟨by simp, by simp [show k * 3 + 1 - k * 3 = 1 by omega], v, by simp [show k * 3 + 2 - k * 3 = 2 by omega], hms.keep hk2⟩
    · obtain ⟨h1, h2, v', h3, h4⟩ := h.st k q' ms' (by omega) hL'
      rw [List.getElem?_append_left (by omega), List.getElem?_append_left (by omega), List.getElem?_append_left (by omega)]
      exact ⟨h1, h2, v', h3, h4.keep hk2⟩
theorem BI.ex {w wr : World} {X H p n : Nat} {L : List (Nat × List Nat)} {sv : Value} {cs : List Value} (h : BI w wr X H p n L sv cs) (hl : L.length = n) (hn : n ≤ 256) (hp : p ≤ 4) (hp0 : 0 < p) (hwf : ∀ (i q : Nat) (ms : List Nat), L[i]? = some (q, ms) → q < p ∧ ms.length ≤ 256 ∧ ∀ m ∈ ms, m < i) : ∃ ao cap, Ex wr X H p n L ao cap := by
  obtain ⟨ao, cap, hsv⟩ := own_form h.own
  refine ⟨ao, cap, by rw [← hsv]; exact h.hX, hl, hn, hp, hp0, fun i q ms hi => ?_⟩
  obtain ⟨k1, k2, k3⟩ := hwf i q ms hi
  have hil := (List.getElem?_eq_some_iff.1 hi).1
  obtain ⟨h1, h2, v, h3, am, cm, h4, h5⟩ := h.st i q ms (by omega) hi
  rcases h.own.2 with ⟨_, h0⟩ | ⟨g, cap', cur, he, hg, hh, r1, r2, r3, r4⟩
  · omega
  · have hc : ∀ (j : Nat) (u : Value), j < n * 3 → cs[j]? = some u → cur[j]? = some u := by
      intro j u hj hu
      rw [← r4, List.getElem?_take_of_lt hj] at hu
      simpa using hu
    have hao : ao = some ⟨g, 0, none⟩ := by rw [hsv] at he; simp at he; exact he.1
    exact ⟨k1, k2, k3, g, cur, am, cm, hao, hh, hc _ _ (by omega) h1, hc _ _ (by omega) h2, hc _ _ (by omega) (by rw [h3, h4]), h5⟩
end Go.Proofs.Ybulkogy
