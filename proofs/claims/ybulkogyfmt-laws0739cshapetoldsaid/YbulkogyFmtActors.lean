import Derived.Test.YbulkogyFmtLeaf
namespace Go.Proofs.YbulkogyFmt
open Go.RowKit
set_option linter.unusedSimpArgs false
set_option linter.unusedVariables false

theorem step_append_fits {P : Program} {ops : Array Oper} {o : Oper} {a : Act} {w : World} {K : Act → World → Prop} {Q : Exit → Act → World → Prop} {E : Prop} (hgd : o.guard = none) (s x : Operand) (t : TypeId)
    (hop : o.op = Op.call { callee := Callee.builtin Builtin.append, args := #[s, x], argTypes := #[t, t] })
    (base : Nat) (e : TypeId) (i : TypeInfo) (size : Nat) (h1 : P.underlying t = some (.slice e)) (h2 : P.info? e = some i) (h4 : i.size = size)
    (g k cap : Nat) (xs : List Value) (hs : a.eval s = .slice (some ⟨g, 0, none⟩) k cap) (hown : w.ownsRow base e size (.slice (some ⟨g, 0, none⟩) k cap) k xs) (ad : Addr) (m c : Nat) (news : List Value) (hx : a.eval x = .slice (some ad) m c) (hn : news.length = m * size)
    (hc : ∀ j u, news[j]? = some u → w.cell? (ad.add j) = some u) (h1c : ∀ u ∈ news, u.oneCell' = true) (b1 : k + m ≤ cap)
    (hK : ∀ w', w'.ownsRow base e size (.slice (some ⟨g, 0, none⟩) (k + m) cap) (k + m) (xs ++ news) → w.grownBy w' (some g) → K (a.put o.dst (.slice (some ⟨g, 0, none⟩) (k + m) cap)) w') :
    if Region.wanted o (yielded ops a.tmps) = true then Oper.wp P o a w K Q else E := by
  have hw : Region.wanted o (yielded ops a.tmps) = true := by simp [Region.wanted, hgd]
  rw [if_pos hw]
  obtain ⟨w', hrun, r1, r2⟩ := run_append_fits (P := P) w base t o.type e i size h1 h2 h4 g k cap xs hown ad m c news hn hc h1c b1
  unfold Oper.wp
  simp [execOp, hop, resolve, invoke, builtin, hs, hx, hrun, Result.andThen]
  exact hK w' r1 r2

/-- The actors: a row of numbers in a block of its own, behind a box. -/
structure EA (w : World) (Bx E n : Nat) (l : List Nat) : Prop where
  bx : box1 w Bx 47 (.slice (some ⟨E, 0, none⟩) l.length n)
  own : w.ownsRow E 3 1 (.slice (some ⟨E, 0, none⟩) l.length n) l.length (ints .i64 l)
theorem EA.blk {w : World} {Bx E n : Nat} {l : List Nat} (h : EA w Bx E n l) : ∃ rest : List Value, w.heap[E]? = some (.cells (ints .i64 l ++ rest).toArray 3 (0, 0)) ∧ l.length + rest.length = n := by
  rcases h.own.2 with ⟨h', _⟩ | ⟨g, cap, cur, he, hg, hh, r1, r2, r3, r4⟩
  · cases h'
  · simp only [Value.slice.injEq, Option.some.injEq, Addr.mk.injEq] at he
    obtain ⟨⟨rfl, _⟩, _, rfl⟩ := he
    refine ⟨cur.toList.drop (l.length * 1), ?_, ?_⟩
    · rw [hh, ← r4, List.take_append_drop]
    · simp; omega
theorem EA.le {w : World} {Bx E n : Nat} {l : List Nat} (h : EA w Bx E n l) : l.length ≤ n ∧ n ≤ maxLen := by
  rcases h.own.2 with ⟨h', _⟩ | ⟨g, cap, cur, he, hg, hh, r1, r2, r3, r4⟩
  · cases h'
  · simp only [Value.slice.injEq, Option.some.injEq, Addr.mk.injEq] at he
    obtain ⟨⟨rfl, _⟩, _, rfl⟩ := he
    exact ⟨r1, r2⟩
theorem own_take {w : World} {B E n k : Nat} {l : List Nat} (h : w.ownsRow B 3 1 (.slice (some ⟨E, 0, none⟩) l.length n) l.length (ints .i64 l)) (hk : k ≤ l.length) : w.ownsRow B 3 1 (.slice (some ⟨E, 0, none⟩) k n) k (ints .i64 (l.take k)) := by
  rcases h.2 with ⟨h', _⟩ | ⟨g, cap, cur, he, hg, hh, r1, r2, r3, r4⟩
  · cases h'
  · simp only [Value.slice.injEq, Option.some.injEq, Addr.mk.injEq] at he
    obtain ⟨⟨rfl, _⟩, _, rfl⟩ := he
    refine ⟨by rw [ints_len, List.length_take]; omega, .inr ⟨E, n, cur, rfl, hg, hh, by omega, r2, r3, ?_⟩⟩
    have : cur.toList.take (k * 1) = (cur.toList.take (l.length * 1)).take k := by rw [List.take_take]; congr 1; omega
    rw [this, r4]
    simp [ints, List.map_take]
theorem EA.upd {w w' : World} {Bx E n : Nat} {l : List Nat} (h : EA w Bx E n l) {ks : List Nat} (hu : Upd ks w w') (h1 : Bx ∉ ks) (h2 : E ∉ ks) : EA w' Bx E n l := ⟨hu.blk h.bx h1, hu.own h.own (by intro g hg; cases hg; exact h2)⟩

theorem rem_end {w w1 w6 : World} {Bx E n r r1 len m : Nat} {l : List Nat} {v0 : Value} {X : List Value} (h1 : EA w1 Bx E n l) (hb1 : Below w.heap.size w w1) (hr1 : r1 = r + 1) (hlen : len = l.length) (hr : r < len) (hEB : ¬ Bx = E) (hm : m = len - r1) (hX : X = ints .i64 (l.drop r1))
    (hown : w6.ownsRow E 3 1 (.slice (some ⟨E, 0, none⟩) (r + m) n) (r + m) (ints .i64 (l.take r) ++ X)) (hg : w1.drew.grownBy w6 (some E)) (hbx6 : w6.heap[Bx]? = some (.cells #[v0] 47 (0, 0))) :
    EA (w6.setCell ⟨Bx, 0, none⟩ (.slice (some ⟨E, 0, none⟩) (r + m) n)) Bx E n (l.take r ++ l.drop (r + 1)) ∧ Upd [Bx, E] w (w6.setCell ⟨Bx, 0, none⟩ (.slice (some ⟨E, 0, none⟩) (r + m) n)) := by
  have hl : (l.take r ++ l.drop (r + 1)).length = r + m := by rw [List.length_append, List.length_take, List.length_drop, Nat.min_eq_left (by omega)]; omega
  refine ⟨⟨?_, ?_⟩, ?_⟩
  · rw [hl]; unfold box1; rw [set_blk hbx6]; rfl
  · rw [hl, ints_append, ← hr1, ← hX]
    exact own_move hown fun g c hg' hc => set_blk_ne (by cases hg'; exact fun e => hEB e.symm)
  · have hu : Upd [Bx, E] w w6 := ((Upd.of_below hb1).drew).trans ((Upd.of_grown (w := w1.drew) hg).mono (ks' := [Bx, E]) (by simp))
    exact hu.setCell (p := ⟨Bx, 0, none⟩) (by simp) _
def RP (w w' : World) (Bx E n q : Nat) (l : List Nat) (e : Ending) : Prop := e = .returned (.tuple #[]) ∧ (∃ r, AtIdx l q r ∧ EA w' Bx E n (l.take r ++ l.drop (r + 1))) ∧ Upd [Bx, E] w w'
set_option maxRecDepth 100000 in
set_option maxHeartbeats 2000000 in
theorem remove_any (w : World) (Bx E n q : Nat) (l : List Nat) (h : EA w Bx E n l) (hn : n ≤ 1000) (hs : ∀ a b, a ≤ b → b < l.length → l.getD a 0 ≤ l.getD b 0) (hm : q ∈ l) :
    Calls Ybaf.prog 12 #[.pointer (some ⟨Bx, 0, none⟩), .int .i64 (q : Int)] w fun e w' => RP w w' Bx E n q l e := by
  obtain ⟨i3, hi, hz0, hz1, hz2⟩ := info_parts Ybaf.info3
  obtain ⟨rest, hE, hrl⟩ := h.blk
  have hln := h.le.1
  have b0 := h.bx.cell
  have hEB : ¬ Bx = E := blk_ne h.bx hE (by decide)
  have hsr := hide (searchInts_any w q E l.length n l rest rfl (by omega) hs hE)
  obtain ⟨len, hlen⟩ : ∃ len, len = l.length := ⟨_, rfl⟩
  rw [← hlen] at hsr b0 hln
  replace h := hide h; replace hE := hide hE; replace hlen := hide hlen; replace hs := hide hs
  go_enter Ybaf.func12, Ybaf.ntmps12
  go_wp2_with fail
  refine hsr.out.mono ?_
  rintro e w1 ⟨r, rfl, hat, hb1⟩
  have hr : r < len := by
    rw [hlen.out]
    obtain ⟨k, hk⟩ := List.getElem?_of_mem hm
    have hkl := (List.getElem?_eq_some_iff.1 hk).1
    rcases Nat.lt_or_ge r l.length with h' | h'
    · exact h'
    · have := hat.2.1 k (by omega)
      simp [List.getD_eq_getElem?_getD, hk] at this
  have h1 : Hid (EA w1 Bx E n l) := h.out.upd (Upd.of_below (ks := []) hb1) (by simp) (by simp)
  have c0 : w1.cell? ⟨Bx, 0, none⟩ = some (.slice (some ⟨E, 0, none⟩) len n) := by rw [hlen.out]; exact h1.out.bx.cell
  have f0 : w1.frozen? ⟨Bx, 0, none⟩ = false := h1.out.bx.froz
  have hE1 := hide ((hb1.block E (lt_of_block hE.out)).trans hE.out)
  have hr' : (r : Int) < (len : Int) := by omega
  have hln' : (len : Int) ≤ (n : Int) := by omega
  have hn' : (n : Int) ≤ 1000 := by omega
  have hrn : (r : Int) ≤ (n : Int) := by omega
  have hr1 : (r : Int) + 1 ≤ (len : Int) := by omega
  have hr0 : (0 : Int) ≤ (r : Int) := by omega
  replace hat := hide hat; replace hb1 := hide hb1
  clear b0 hsr
  have hot := hide (own_take (k := r) h1.out.own (by rw [← hlen.out]; omega))
  have hnews : Hid (∀ j u, (ints .i64 (l.drop (r + 1)))[j]? = some u → w1.drew.cell? ((⟨E, r + 1, none⟩ : Addr).add j) = some u) := by
    intro j u hj
    rw [Addr.add_lit]
    have hjl := (List.getElem?_eq_some_iff.1 hj).1
    rw [ints_len, List.length_drop] at hjl
    refine cell_blk (w := w1.drew) hE1.out ?_
    rw [List.getElem?_toArray, List.getElem?_append_left (by rw [ints_len]; omega)]
    simp [ints] at hj ⊢
    exact hj
  obtain ⟨r1, hr1e⟩ : ∃ r1, r1 = r + 1 := ⟨_, rfl⟩
  have hwr : IntKind.i64.wrap ((r : Int) + 1) = (r1 : Int) := by rw [IntKind.wrap_i64]; omega
  have hr1l : (r1 : Int) ≤ (len : Int) := by omega
  rw [← hr1e] at hnews
  replace hr1e := hide hr1e
  clear hr1
  by_cases hnr : n = r1
  · subst hnr
    have hlr : len = n := by omega
    have hlr' : len - n = 0 := by omega
    have hdr : l.drop n = [] := List.drop_of_length_le (by rw [← hlen.out]; omega)
    replace hdr := hide hdr; replace hlr := hide hlr; replace hlr' := hide hlr'
    go_wp2_with fail
    go_region_law (first
      | (refine step_append_fits rfl (.tmp 15) (.tmp 21) 47 rfl E 3 i3 1 Ybaf.underlying47 hi hz1 E r n (ints .i64 (l.take r)) rfl (hot.out.drew) ⟨E, 0, none⟩ 0 0 [] rfl rfl (by intro j u hj; simp at hj) (by simp) (by have := hr1e.out; omega) ?_; intro w6 hown6 hg6; have hbx6 : Hid (w6.heap[Bx]? = some (.cells #[.slice (some ⟨E, 0, none⟩) len n] 47 (0, 0))) := (hg6.block Bx (lt_of_block h1.out.bx) (by simpa using hEB)).trans (by rw [hlen.out]; exact h1.out.bx); replace hown6 := hide hown6; replace hg6 := hide hg6; have u4 : w6.cell? ⟨Bx, 0, none⟩ = some (.slice (some ⟨E, 0, none⟩) len n) := cell_blk hbx6.out rfl; have uf : w6.frozen? ⟨Bx, 0, none⟩ = false := froz_blk hbx6.out _))
    all_goals
      go_wp2
      go_end0
      have hre := rem_end h1.out hb1.out hr1e.out hlen.out hr hEB hlr'.out.symm (by rw [hdr.out]; rfl) hown6.out hg6.out hbx6.out
      exact ⟨rfl, ⟨r, hat.out, hre.1⟩, hre.2⟩
  · go_wp2_with fail
    go_region_law (first
      | (refine step_append_fits rfl (.tmp 15) (.tmp 21) 47 rfl E 3 i3 1 Ybaf.underlying47 hi hz1 E r n (ints .i64 (l.take r)) rfl (hot.out.drew) ⟨E, r1, none⟩ (len - r1) (n - r1) (ints .i64 (l.drop r1)) rfl (by rw [ints_len, List.length_drop, ← hlen.out]; omega) hnews.out (ints_one _ _) (by have := hr1e.out; omega) ?_; intro w6 hown6 hg6; have hbx6 : Hid (w6.heap[Bx]? = some (.cells #[.slice (some ⟨E, 0, none⟩) len n] 47 (0, 0))) := (hg6.block Bx (lt_of_block h1.out.bx) (by simpa using hEB)).trans (by rw [hlen.out]; exact h1.out.bx); replace hown6 := hide hown6; replace hg6 := hide hg6; have u4 : w6.cell? ⟨Bx, 0, none⟩ = some (.slice (some ⟨E, 0, none⟩) len n) := cell_blk hbx6.out rfl; have uf : w6.frozen? ⟨Bx, 0, none⟩ = false := froz_blk hbx6.out _))
    all_goals
      go_wp2
      go_end0
      have hre := rem_end h1.out hb1.out hr1e.out hlen.out hr hEB rfl rfl hown6.out hg6.out hbx6.out
      exact ⟨rfl, ⟨r, hat.out, hre.1⟩, hre.2⟩
end Go.Proofs.YbulkogyFmt
