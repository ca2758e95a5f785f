import Derived.Test.YbulkogyFmtRows
import Derived.WalkKit
import Derived.WalkSpells
import Derived.WalkLawsBesides
import Derived.Laws.CopyOwn
import Derived.Laws.AppendOwnNone
import Derived.Deep.QuietTactic
import Derived.BigQuiet
import Derived.Deep.RegionWith
import Derived.Deep.RegionHeld3
namespace Go.Proofs.YbulkogyFmt
open Go.RowKit
set_option linter.unusedSimpArgs false
set_option linter.unusedVariables false

theorem hide {p : Prop} (h : p) : Hid p := h

/-! ### blocks -/
theorem cell_blk {w : World} {b o : Nat} {c : Array Value} {e : TypeId} {v : Value} (h : w.heap[b]? = some (.cells c e (0, 0))) (hv : c[o]? = some v) : w.cell? ⟨b, o, none⟩ = some v := by
  simp [World.cell?, h, hv]
theorem froz_blk {w : World} {b : Nat} {c : Array Value} {e : TypeId} (h : w.heap[b]? = some (.cells c e (0, 0))) (o : Nat) : w.frozen? ⟨b, o, none⟩ = false := by
  simp [World.frozen?, h]
theorem set_blk {w : World} {b : Nat} {c : Array Value} {e : TypeId} (h : w.heap[b]? = some (.cells c e (0, 0))) (o : Nat) (v : Value) : (w.setCell ⟨b, o, none⟩ v).heap[b]? = some (.cells (c.setIfInBounds o v) e (0, 0)) := by
  simp [World.setCell, Array.getElem?_modify, h]
theorem set_blk_ne {w : World} {b k o : Nat} {v : Value} (hk : k ≠ b) : (w.setCell ⟨b, o, none⟩ v).heap[k]? = w.heap[k]? := Below.heap_setCell _ _ _ _ hk
theorem add_block (x : Addr) (j : Nat) : (x.add j).block = x.block := by unfold Addr.add; split <;> rfl
theorem own_move {w w' : World} {B : Nat} {e : TypeId} {s : Nat} {v : Value} {n : Nat} {xs : List Value} (h : w.ownsRow B e s v n xs) (hk : ∀ g c, v.ownBlock = some g → w.heap[g]? = some (.cells c e (0, 0)) → w'.heap[g]? = w.heap[g]?) : w'.ownsRow B e s v n xs := by
  obtain ⟨h1, h2⟩ := h
  refine ⟨h1, ?_⟩
  rcases h2 with h2 | ⟨g, cap, cur, rfl, hg, hh, r⟩
  · exact .inl h2
  · exact .inr ⟨g, cap, cur, rfl, hg, (hk g cur rfl hh).trans hh, r⟩
theorem own_form {w : World} {B : Nat} {e : TypeId} {s : Nat} {v : Value} {n : Nat} {xs : List Value} (h : w.ownsRow B e s v n xs) : ∃ ao c, v = .slice ao n c := by
  rcases h.2 with ⟨rfl, rfl⟩ | ⟨g, c, _, rfl, _⟩
  · exact ⟨_, _, rfl⟩
  · exact ⟨_, _, rfl⟩

/-! ### frames: nothing but the blocks of ks has turned -/
structure Upd (ks : List Nat) (w w' : World) : Prop where
  os : w'.os = w.os
  tape : w'.tape = w.tape
  output : w'.output = w.output
  size : w.heap.size ≤ w'.heap.size
  block : ∀ k, k < w.heap.size → k ∉ ks → w'.heap[k]? = w.heap[k]?
theorem Upd.refl (ks : List Nat) (w : World) : Upd ks w w := ⟨rfl, rfl, rfl, Nat.le_refl _, fun _ _ _ => rfl⟩
theorem Upd.trans {ks : List Nat} {a b c : World} (h : Upd ks a b) (k : Upd ks b c) : Upd ks a c :=
  ⟨k.os.trans h.os, k.tape.trans h.tape, k.output.trans h.output, Nat.le_trans h.size k.size, fun i hi hn => (k.block i (Nat.lt_of_lt_of_le hi h.size) hn).trans (h.block i hi hn)⟩
theorem Upd.mono {ks ks' : List Nat} {w w' : World} (h : Upd ks w w') (hk : ∀ k ∈ ks, k ∈ ks') : Upd ks' w w' := ⟨h.os, h.tape, h.output, h.size, fun k hl hn => h.block k hl (fun hm => hn (hk k hm))⟩
theorem Upd.drew {ks : List Nat} {a w : World} (h : Upd ks a w) : Upd ks a w.drew := ⟨h.os, h.tape, h.output, h.size, h.block⟩
theorem Upd.drewN {ks : List Nat} {a w : World} (h : Upd ks a w) (n : Nat) : Upd ks a (w.drewN n) := ⟨h.os, h.tape, h.output, h.size, h.block⟩
theorem Upd.of_below {ks : List Nat} {w w' : World} (h : Below w.heap.size w w') : Upd ks w w' := ⟨h.os, h.tape, h.output, h.size, fun k hk _ => h.block k hk⟩
theorem Upd.below {ks : List Nat} {w w' : World} {B : Nat} (h : Upd ks w w') (hB : B ≤ w.heap.size) (hk : ∀ k ∈ ks, B ≤ k) : Below B w w' := ⟨h.os, h.tape, h.output, h.size, fun k hl => h.block k (by omega) (fun hm => by have := hk k hm; omega)⟩
theorem Upd.alloc {ks : List Nat} {a w : World} (h : Upd ks a w) (o : Obj) : Upd ks a (w.alloc o) := h.trans (Upd.of_below ((Below.refl _ w).alloc (Nat.le_refl _) o))
theorem Upd.setCell {ks : List Nat} {a w : World} (h : Upd ks a w) {p : Addr} (hp : p.block ∈ ks) (u : Value) : Upd ks a (w.setCell p u) :=
  h.trans ⟨rfl, rfl, rfl, by simp [World.setCell], fun k hk hn => Below.heap_setCell _ _ _ _ (by rintro rfl; exact hn hp)⟩
theorem Upd.setRow {ks : List Nat} {a w : World} (h : Upd ks a w) {g : Nat} (hp : g ∈ ks) (cs : Array Value) : Upd ks a (w.setRow g cs) :=
  h.trans ⟨rfl, rfl, rfl, by simp [World.setRow], fun k hk hn => setRow_other w g k cs (by rintro rfl; exact hn hp)⟩
theorem Upd.of_grown {w w' : World} {row : Option Nat} (h : w.grownBy w' row) : Upd row.toList w w' := ⟨h.os, h.tape, h.output, h.size, fun k hk hn => h.block k hk (fun e => hn (by simp [← e]))⟩
theorem Upd.blk {ks : List Nat} {w w' : World} {b : Nat} {o : Obj} (h : Upd ks w w') (hb : w.heap[b]? = some o) (hn : b ∉ ks) : w'.heap[b]? = some o := (h.block b (lt_of_block hb) hn).trans hb
theorem Upd.own {ks : List Nat} {w w' : World} {B : Nat} {e : TypeId} {s : Nat} {v : Value} {n : Nat} {xs : List Value} (h : Upd ks w w') (ho : w.ownsRow B e s v n xs) (hn : ∀ g, v.ownBlock = some g → g ∉ ks) : w'.ownsRow B e s v n xs :=
  own_move ho fun g c hg hc => h.block g (lt_of_block hc) (hn g hg)

theorem Ybaf.info3 : (Ybaf.prog.info? 3).map (fun i => (i.zero, i.size, i.bytes)) = some (some (.int .i64 0), 1, 8) := by kernel_rfl
theorem Ybaf.info4 : (Ybaf.prog.info? 4).map (fun i => (i.zero, i.size, i.bytes)) = some (some (.bool false), 1, 1) := by kernel_rfl
theorem Ybaf.info9 : (Ybaf.prog.info? 9).map (fun i => (i.zero, i.size, i.bytes)) = some (some (.string ⟨#[]⟩), 1, 16) := by kernel_rfl
theorem Ybaf.info25 : (Ybaf.prog.info? 25).map (fun i => (i.zero, i.size, i.bytes)) = some (some (.slice none 0 0), 1, 24) := by kernel_rfl
theorem Ybaf.info38 : (Ybaf.prog.info? 38).map (fun i => (i.zero, i.size, i.bytes)) = some (some (.agg #[.int .i64 0, .int .i64 0, .slice none 0 0]), 3, 40) := by kernel_rfl
theorem Ybaf.size3 : (Ybaf.prog.info? 3).map (·.size) = some 1 := by kernel_rfl
/-- A list of numbers as cells. -/
def ints (k : IntKind) (l : List Nat) : List Value := l.map fun (x : Nat) => Value.int k (x : Int)
theorem ints_len (k : IntKind) (l : List Nat) : (ints k l).length = l.length := by simp [ints]
theorem ints_one (k : IntKind) (l : List Nat) : ∀ u ∈ ints k l, u.oneCell' = true := by simp [ints, Value.oneCell']
theorem bnext {a b c : World} (h : Below a.heap.size a b) (k : Below b.heap.size b c) : Below a.heap.size a c := h.trans (k.mono h.size)
theorem blk_ne {w : World} {k l : Nat} {c d : Array Value} {e f : TypeId} (h : w.heap[k]? = some (.cells c e (0, 0))) (h' : w.heap[l]? = some (.cells d f (0, 0))) (hne : e ≠ f) : k ≠ l := by
  rintro rfl; rw [h] at h'; simp at h'; exact hne h'.2
theorem Upd.fresh {ks : List Nat} {w wr w2 : World} {b : Nat} (h : Upd ks w wr) (hu : Upd [b] wr w2) (hb : w.heap.size ≤ b) : Upd ks w w2 :=
  ⟨hu.os.trans h.os, hu.tape.trans h.tape, hu.output.trans h.output, Nat.le_trans h.size hu.size, fun k hk hn => (hu.block k (Nat.lt_of_lt_of_le hk h.size) (by simp; omega)).trans (h.block k hk hn)⟩
def box1 (w : World) (b : Nat) (t : TypeId) (v : Value) : Prop := w.heap[b]? = some (.cells #[v] t (0, 0))
theorem box1.cell {w : World} {b : Nat} {t : TypeId} {v : Value} (h : box1 w b t v) : w.cell? ⟨b, 0, none⟩ = some v := cell_blk h rfl
theorem box1.froz {w : World} {b : Nat} {t : TypeId} {v : Value} (h : box1 w b t v) : w.frozen? ⟨b, 0, none⟩ = false := froz_blk h _
theorem row_get {k : IntKind} {l : List Nat} {rest : List Value} {j : Nat} (h : j < l.length) : (ints k l ++ rest).toArray[j]? = some (.int k ((l.getD j 0 : Nat) : Int)) := by
  rw [List.getElem?_toArray, List.getElem?_append_left (by rw [ints_len]; exact h)]
  simp [ints, List.getD_eq_getElem?_getD, h]
end Go.Proofs.YbulkogyFmt
