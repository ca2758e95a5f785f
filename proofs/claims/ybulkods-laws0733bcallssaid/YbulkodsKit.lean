import Derived.Test.YbulkodsRows
import Derived.WalkKit
import Derived.WalkSpells
import Derived.WalkLawsBesides
import Derived.Laws.CopyOwn
import Derived.Laws.AppendOwnNone
import Derived.Deep.QuietTactic
import Derived.BigQuiet
import Derived.Deep.RegionWith
import Derived.Deep.RegionHeld3
import Derived.ArgAppend
namespace Go.Proofs.Ybulkods
open Go.RowKit
set_option linter.unusedSimpArgs false
set_option linter.unusedVariables false

theorem hide {p : Prop} (h : p) : Hid p := h

/-! ### blocks -/
theorem cell_blk {w : World} {b o : Nat} {c : Array Value} {e : TypeId} {v : Value} (h : w.heap[b]? = some (.cells c e (0, 0))) (hv : c[o]? = some v) : w.cell? ⟨b, o, none⟩ = some v := by
  simp [World.cell?, h, hv]
theorem froz_blk {w : World} {b : Nat} {c : Array Value} {e : TypeId} (h : w.heap[b]? = some (.cells c e (0, 0))) (o : Nat) : w.frozen? ⟨b, o, none⟩ = false := by
  simp [World.frozen?, h]
theorem set_blk {w : World} {b : Nat} {c : Array Value} {e : TypeId} (h : w.heap[b]? = some (.cells c e (0, 0))) (o : Nat) (v : Value) : (w.setCell ⟨b, o, none⟩ v).heap[b]? = some (.cells (c.setIfInBounds o v) e (0, 0)) := by
  simp [World.setCell, Array.getElem?_modify, h]
theorem set_blk_ne {w : World} {b k o : Nat} {v : Value} (hk : k ≠ b) : (w.setCell ⟨b, o, none⟩ v).heap[k]? = w.heap[k]? := Below.heap_setCell _ _ _ _ hk
theorem add_block (x : Addr) (j : Nat) : (x.add j).block = x.block := by unfold Addr.add; split <;> rfl
theorem own_move {w w' : World} {B : Nat} {e : TypeId} {s : Nat} {v : Value} {n : Nat} {xs : List Value} (h : w.ownsRow B e s v n xs) (hk : ∀ g c, v.ownBlock = some g → w.heap[g]? = some (.cells c e (0, 0)) → w'.heap[g]? = w.heap[g]?) : w'.ownsRow B e s v n xs := by
  obtain ⟨h1, h2⟩ := h
  refine ⟨h1, ?_⟩
  rcases h2 with h2 | ⟨g, cap, cur, rfl, hg, hh, r⟩
  · exact .inl h2
  · exact .inr ⟨g, cap, cur, rfl, hg, (hk g cur rfl hh).trans hh, r⟩
theorem own_form {w : World} {B : Nat} {e : TypeId} {s : Nat} {v : Value} {n : Nat} {xs : List Value} (h : w.ownsRow B e s v n xs) : ∃ ao c, v = .slice ao n c := by
  rcases h.2 with ⟨rfl, rfl⟩ | ⟨g, c, _, rfl, _⟩
  · exact ⟨_, _, rfl⟩
  · exact ⟨_, _, rfl⟩

/-! ### frames: nothing but the blocks of ks has turned -/
structure Upd (ks : List Nat) (w w' : World) : Prop where
  os : w'.os = w.os
  tape : w'.tape = w.tape
  output : w'.output = w.output
  size : w.heap.size ≤ w'.heap.size
  block : ∀ k, k < w.heap.size → k ∉ ks → w'.heap[k]? = w.heap[k]?
theorem Upd.refl (ks : List Nat) (w : World) : Upd ks w w := ⟨rfl, rfl, rfl, Nat.le_refl _, fun _ _ _ => rfl⟩
theorem Upd.trans {ks : List Nat} {a b c : World} (h : Upd ks a b) (k : Upd ks b c) : Upd ks a c :=
  ⟨k.os.trans h.os, k.tape.trans h.tape, k.output.trans h.output, Nat.le_trans h.size k.size, fun i hi hn => (k.block i (Nat.lt_of_lt_of_le hi h.size) hn).trans (h.block i hi hn)⟩
theorem Upd.mono {ks ks' : List Nat} {w w' : World} (h : Upd ks w w') (hk : ∀ k ∈ ks, k ∈ ks') : Upd ks' w w' := ⟨h.os, h.tape, h.output, h.size, fun k hl hn => h.block k hl (fun hm => hn (hk k hm))⟩
theorem Upd.drew {ks : List Nat} {a w : World} (h : Upd ks a w) : Upd ks a w.drew := ⟨h.os, h.tape, h.output, h.size, h.block⟩
theorem Upd.drewN {ks : List Nat} {a w : World} (h : Upd ks a w) (n : Nat) : Upd ks a (w.drewN n) := ⟨h.os, h.tape, h.output, h.size, h.block⟩
theorem Upd.of_below {ks : List Nat} {w w' : World} (h : Below w.heap.size w w') : Upd ks w w' := ⟨h.os, h.tape, h.output, h.size, fun k hk _ => h.block k hk⟩
theorem Upd.below {ks : List Nat} {w w' : World} {B : Nat} (h : Upd ks w w') (hB : B ≤ w.heap.size) (hk : ∀ k ∈ ks, B ≤ k) : Below B w w' := ⟨h.os, h.tape, h.output, h.size, fun k hl => h.block k (by omega) (fun hm => by have := hk k hm; omega)⟩
theorem Upd.alloc {ks : List Nat} {a w : World} (h : Upd ks a w) (o : Obj) : Upd ks a (w.alloc o) := h.trans (Upd.of_below ((Below.refl _ w).alloc (Nat.le_refl _) o))
theorem Upd.setCell {ks : List Nat} {a w : World} (h : Upd ks a w) {p : Addr} (hp : p.block ∈ ks) (u : Value) : Upd ks a (w.setCell p u) :=
  h.trans ⟨rfl, rfl, rfl, by simp [World.setCell], fun k hk hn => Below.heap_setCell _ _ _ _ (by rintro rfl; exact hn hp)⟩
theorem Upd.setRow {ks : List Nat} {a w : World} (h : Upd ks a w) {g : Nat} (hp : g ∈ ks) (cs : Array Value) : Upd ks a (w.setRow g cs) :=
  h.trans ⟨rfl, rfl, rfl, by simp [World.setRow], fun k hk hn => setRow_other w g k cs (by rintro rfl; exact hn hp)⟩
theorem Upd.of_grown {w w' : World} {row : Option Nat} (h : w.grownBy w' row) : Upd row.toList w w' := ⟨h.os, h.tape, h.output, h.size, fun k hk hn => h.block k hk (fun e => hn (by simp [← e]))⟩
theorem Upd.blk {ks : List Nat} {w w' : World} {b : Nat} {o : Obj} (h : Upd ks w w') (hb : w.heap[b]? = some o) (hn : b ∉ ks) : w'.heap[b]? = some o := (h.block b (lt_of_block hb) hn).trans hb
theorem Upd.own {ks : List Nat} {w w' : World} {B : Nat} {e : TypeId} {s : Nat} {v : Value} {n : Nat} {xs : List Value} (h : Upd ks w w') (ho : w.ownsRow B e s v n xs) (hn : ∀ g, v.ownBlock = some g → g ∉ ks) : w'.ownsRow B e s v n xs :=
  own_move ho fun g c hg hc => h.block g (lt_of_block hc) (hn g hg)



/-- Whole numbers as cells. -/
def ns (l : List Int) : List Value := l.map (Value.int .i64)
theorem ns_append (a b : List Int) : ns (a ++ b) = ns a ++ ns b := by simp [ns]
theorem ns_length (a : List Int) : (ns a).length = a.length := by simp [ns]
theorem ns_one (l : List Int) : ∀ u ∈ ns l, u.oneCell' = true := ints_oneCell _ _
theorem ns_get {l : List Int} {j : Nat} {v : Int} (h : l[j]? = some v) : (ns l)[j]? = some (.int .i64 v) := by simp [ns, h]
theorem own_base {w : World} {B B' : Nat} {e : TypeId} {s : Nat} {v : Value} {n : Nat} {xs : List Value} (h : w.ownsRow B' e s v n xs) (hB : B ≤ B') : w.ownsRow B e s v n xs := by
  obtain ⟨h1, h2⟩ := h
  refine ⟨h1, ?_⟩
  rcases h2 with h2 | ⟨g, cap, cur, hv, hg, r⟩
  · exact .inl h2
  · exact .inr ⟨g, cap, cur, hv, by omega, r⟩
theorem grown_none {w w' : World} (h : w.grownBy w' none) (row : Option Nat) : w.grownBy w' row := ⟨h.os, h.tape, h.output, h.size, fun k hk _ => h.block k hk (by simp)⟩
/-- append to a row of the call's own: what comes back lies in the same row, or in a new one. -/
theorem wpList_append_far {P : Program} (w : World) {ops : Array Oper} {rest : List Oper} {o : Oper} {a : Act} {Q : Exit → Act → World → Prop} (hgd : o.guard = none) (s x : Operand) (t : TypeId)
    (ho : o.op = .call { callee := .builtin .append, args := #[s, x], argTypes := #[t, t] })
    (base : Nat) (e : TypeId) (i : TypeInfo) (z : Value) (size bytes : Nat) (ht : P.underlying t = some (.slice e)) (hi : P.info? e = some i) (hz : i.zero = some z)
    (hsize : i.size = size) (hby : i.bytes = bytes) (hzs : z.cells.size = size) (hsz : 0 < size)
    (v : Value) (n : Nat) (xs : List Value) (hs : a.eval s = v) (hown : w.ownsRow base e size v n xs)
    (ad : Addr) (m c : Nat) (news : List Value) (hx : a.eval x = .slice (some ad) m c) (hl : news.length = m * size) (hnews : ∀ j u, news[j]? = some u → w.cell? (ad.add j) = some u) (h1 : ∀ u ∈ news, u.oneCell' = true)
    (h63 : n + m ≤ maxLen) (hbytes : (n + m) * bytes ≤ 140737488355328) (hbase : base ≤ w.heap.size)
    (h : ∀ v' w', w'.ownsRow base e size v' (n + m) (xs ++ news) → w.grownBy w' v.ownBlock → (v'.ownBlock = v.ownBlock ∨ ∀ g, v'.ownBlock = some g → w.heap.size ≤ g) → wpList P ops Q rest (a.put o.dst v') w') : wpList P ops Q (o :: rest) a w := by
  have hown' := hown
  obtain ⟨hlen, h2⟩ := hown
  rcases h2 with ⟨rfl, rfl⟩ | ⟨g, cap, cur, rfl, hg, hh, hnc, hcm, hcs, htk⟩
  · have hxs : xs = [] := List.eq_nil_of_length_eq_zero (by simpa using hlen)
    subst hxs
    refine wpList_append_own w hgd s x t ho w.heap.size e i z size bytes ht hi hz hsize hby hzs hsz _ 0 [] hs (World.ownsRow_nil _ _ _ _) ad m c news hx hl hnews h1 h63 hbytes (Nat.le_refl _) fun v' w' k1 k2 _ => ?_
    exact h v' w' (own_base k1 hbase) k2 (.inr fun g hg => (k1.lt g hg).1)
  · by_cases hr : n + m ≤ cap
    · refine wpList_append_fits w hgd s x t ho base e i size ht hi hsize g n cap xs hs hown' ad m c news hx hl hnews h1 hr fun w' k1 k2 => ?_
      exact h _ w' k1 k2 (.inl rfl)
    · refine wpList_append_grows w hgd s x t ho e i z size bytes ht hi hz hsize hby hzs hsz (some ⟨g, 0, none⟩) n cap xs hs (by simp) hlen ?_ ad m c news hx hl hnews h1 (by omega) h63 hbytes fun v' w' k1 k2 => ?_
      · intro b hb j u hj
        cases hb
        exact hown'.cells rfl j u hj
      · exact h v' w' (own_base k1 hbase) (grown_none k2 _) (.inr fun g hg => (k1.lt g hg).1)
theorem new_cells1 (w : World) (l : List Value) (e : TypeId) {j : Nat} {u : Value} (h : l[j]? = some u) : (w.alloc (.cells l.toArray e (0, 0))).cell? ((⟨w.heap.size, 0, none⟩ : Addr).add j) = some u := by
  rw [Addr.add_lit, Nat.zero_add]
  exact cell_blk (heap_alloc_new w _) (by simpa using h)
theorem Yba.info3 : (Yba.prog.info? 3).map (fun i => (i.zero, i.size, i.bytes)) = some (some (.int .i64 0), 1, 8) := by kernel_rfl
theorem own_cell {w : World} {B : Nat} {ao : Option Addr} {n c : Nat} {l : List Int} (h : w.ownsRow B 3 1 (.slice ao n c) n (ns l)) {j : Nat} {v : Int} (hj : l[j]? = some v) : ∃ g, ao = some ⟨g, 0, none⟩ ∧ w.cell? ⟨g, j, none⟩ = some (.int .i64 v) := by
  have hl : l.length = n := by have := h.1; simpa [ns_length] using this
  have hjl := (List.getElem?_eq_some_iff.1 hj).1
  rcases h.2 with ⟨h1, h2⟩ | ⟨g, cap, cur, h1, _⟩
  · omega
  · simp only [Value.slice.injEq] at h1
    obtain ⟨rfl, _, rfl⟩ := h1
    refine ⟨g, rfl, ?_⟩
    rw [h.cellAt j (by omega)]
    exact ns_get hj
end Go.Proofs.Ybulkods
