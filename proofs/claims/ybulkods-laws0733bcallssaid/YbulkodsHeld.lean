import Derived.Test.YbulkodsPlain
namespace Go.Proofs.Ybulkods
open Go.RowKit
set_option linter.unusedSimpArgs false
set_option linter.unusedVariables false

def stCells (hv : Value) (to b r m : Int) (fv av : Value) : List Value := [hv, .int .i64 to, .int .i64 b, .int .i64 r, .int .i64 m, fv, av, .bool false]

structure Sk (w : World) (T B : Nat) (hv fv av : Value) (to b r m : Int) (h F A : List Int) : Prop where
  hT : w.heap[T]? = some (.cells (stCells hv to b r m fv av).toArray 38 (0, 0))
  oh : w.ownsRow B 3 1 hv h.length (ns h)
  oF : w.ownsRow B 3 1 fv F.length (ns F)
  oA : w.ownsRow B 3 1 av A.length (ns A)
  hF : ∀ g, fv.ownBlock = some g → hv.ownBlock ≠ some g
  hA : ∀ g, av.ownBlock = some g → hv.ownBlock ≠ some g
  FA : ∀ g, fv.ownBlock = some g → av.ownBlock ≠ some g
  hTB : B ≤ T
  hB : B ≤ w.heap.size

/-- Blocks of other types than the stock's and the rows' are as they were. -/
def Keep (w w' : World) : Prop := ∀ (k : Nat) (c : Array Value) (e : TypeId), w.heap[k]? = some (Obj.cells c e (0, 0)) → e ≠ 38 → e ≠ 3 → w'.heap[k]? = some (Obj.cells c e (0, 0))
theorem Keep.refl (w : World) : Keep w w := fun _ _ _ h _ _ => h
theorem Keep.trans {a b c : World} (h : Keep a b) (k : Keep b c) : Keep a c := fun i x e h0 h1 h2 => k i x e (h i x e h0 h1 h2) h1 h2

theorem own_blk {w : World} {B : Nat} {e : TypeId} {s : Nat} {v : Value} {n : Nat} {xs : List Value} (h : w.ownsRow B e s v n xs) {g : Nat} (hg : v.ownBlock = some g) : ∃ c, w.heap[g]? = some (.cells c e (0, 0)) := by
  rcases h.2 with ⟨rfl, _⟩ | ⟨g', cap', cur, rfl, _, hh, _⟩
  · cases hg
  · cases hg; exact ⟨cur, hh⟩
theorem blk_ne {w : World} {k g : Nat} {c c' : Array Value} {e e' : TypeId} (h : w.heap[k]? = some (.cells c e (0, 0))) (h' : w.heap[g]? = some (.cells c' e' (0, 0))) (he : e ≠ e') : k ≠ g := by
  rintro rfl; rw [h] at h'; simp at h'; exact he h'.2

/-- Behind an append to the row v: what is kept. -/
theorem grown_keep {w w1 : World} {o : Obj} {B n : Nat} {v : Value} {xs : List Value} (hv : w.ownsRow B 3 1 v n xs) (hg : (w.alloc o).grownBy w1 v.ownBlock) {k : Nat} {c : Array Value} {e : TypeId} (hk : w.heap[k]? = some (.cells c e (0, 0))) (hn : v.ownBlock ≠ some k) : w1.heap[k]? = some (.cells c e (0, 0)) := by
  have hl := lt_of_block hk
  rw [hg.block k (by simp; omega) (fun e => hn e.symm), Below.heap_alloc _ _ _ hl, hk]
theorem grown_keepE {w w1 : World} {o : Obj} {B n : Nat} {v : Value} {xs : List Value} (hv : w.ownsRow B 3 1 v n xs) (hg : (w.alloc o).grownBy w1 v.ownBlock) {k : Nat} {c : Array Value} {e : TypeId} (hk : w.heap[k]? = some (.cells c e (0, 0))) (he : e ≠ 3) : w1.heap[k]? = some (.cells c e (0, 0)) :=
  grown_keep hv hg hk (fun h => by obtain ⟨c', h'⟩ := own_blk hv h; exact blk_ne hk h' he rfl)
theorem grown_own {w w1 : World} {o : Obj} {B n n' : Nat} {v v' : Value} {xs xs' : List Value} (hv : w.ownsRow B 3 1 v n xs) (hg : (w.alloc o).grownBy w1 v.ownBlock) (h' : w.ownsRow B 3 1 v' n' xs') (hne : ∀ g, v.ownBlock = some g → v'.ownBlock ≠ some g) : w1.ownsRow B 3 1 v' n' xs' :=
  own_move h' fun g c hg' hc => (grown_keep hv hg hc (fun h => hne g h hg')).trans hc.symm

theorem set_own {w : World} {T o : Nat} {x v : Value} {B n : Nat} {xs : List Value} {c : Array Value} (hT : w.heap[T]? = some (.cells c 38 (0, 0))) (h : w.ownsRow B 3 1 v n xs) : (w.setCell ⟨T, o, none⟩ x).ownsRow B 3 1 v n xs :=
  own_move h fun g c' _ hc => set_blk_ne (blk_ne hc hT (by decide))

/-- froms = append(froms, x). -/
theorem Sk.froms {w w1 : World} {o : Obj} {T B : Nat} {hv fv av fv' : Value} {to b r m x : Int} {h F A : List Int} (hs : Sk w T B hv fv av to b r m h F A) (ho : w1.ownsRow B 3 1 fv' (F.length + 1) (ns F ++ [.int .i64 x])) (hg : (w.alloc o).grownBy w1 fv.ownBlock) (hw : fv'.ownBlock = fv.ownBlock ∨ ∀ g, fv'.ownBlock = some g → (w.alloc o).heap.size ≤ g) :
    Sk (w1.setCell ⟨T, 5, none⟩ fv') T B hv fv' av to b r m h (F ++ [x]) A ∧ w1.heap[T]? = some (.cells (stCells hv to b r m fv av).toArray 38 (0, 0)) ∧ Keep w (w1.setCell ⟨T, 5, none⟩ fv') ∧ Below B w (w1.setCell ⟨T, 5, none⟩ fv') := by
  have hT1 := grown_keepE hs.oF hg hs.hT (by decide)
  have hT2 := set_blk hT1 5 fv'
  have lt : ∀ {v n xs}, w.ownsRow B 3 1 v n xs → ∀ g, v.ownBlock = some g → g < (w.alloc o).heap.size := fun h g hg => by have := (h.lt g hg).2; simp; omega
  refine ⟨⟨by rw [hT2]; simp [stCells], set_own hT1 (grown_own hs.oF hg hs.oh hs.hF), set_own hT1 (by rw [ns_append, List.length_append]; exact ho), set_own hT1 (grown_own hs.oF hg hs.oA hs.FA), ?_, hs.hA, ?_, hs.hTB, ?_⟩, hT1, ?_, ?_⟩
  · intro g hg'
    rcases hw with h | h
    · exact hs.hF g (h ▸ hg')
    · intro hh; have := lt hs.oh g hh; have := h g hg'; omega
  · intro g hg'
    rcases hw with h | h
    · exact hs.FA g (h ▸ hg')
    · intro hh; have := lt hs.oA g hh; have := h g hg'; omega
  · have := hg.size; have := hs.hB; simp [World.setCell] at *; omega
  · intro k c e hk h1 h2
    rw [set_blk_ne]
    · exact grown_keepE hs.oF hg hk h2
    · exact blk_ne hk hs.hT h1
  · refine Below.setCell (p := ⟨T, 5, none⟩) (((Below.refl B w).alloc hs.hB o).grown hg (by have := hs.hB; simp; omega) fun k hk => (hs.oF.lt k hk).1) hs.hTB _
/-- answers = append(answers, x). -/
theorem Sk.answers {w w1 : World} {o : Obj} {T B : Nat} {hv fv av av' : Value} {to b r m x : Int} {h F A : List Int} (hs : Sk w T B hv fv av to b r m h F A) (ho : w1.ownsRow B 3 1 av' (A.length + 1) (ns A ++ [.int .i64 x])) (hg : (w.alloc o).grownBy w1 av.ownBlock) (hw : av'.ownBlock = av.ownBlock ∨ ∀ g, av'.ownBlock = some g → (w.alloc o).heap.size ≤ g) :
    Sk (w1.setCell ⟨T, 6, none⟩ av') T B hv fv av' to b r m h F (A ++ [x]) ∧ w1.heap[T]? = some (.cells (stCells hv to b r m fv av).toArray 38 (0, 0)) ∧ Keep w (w1.setCell ⟨T, 6, none⟩ av') ∧ Below B w (w1.setCell ⟨T, 6, none⟩ av') := by
  have hT1 := grown_keepE hs.oA hg hs.hT (by decide)
  have hT2 := set_blk hT1 6 av'
  have lt : ∀ {v n xs}, w.ownsRow B 3 1 v n xs → ∀ g, v.ownBlock = some g → g < (w.alloc o).heap.size := fun h g hg => by have := (h.lt g hg).2; simp; omega
  have AF : ∀ g, av.ownBlock = some g → fv.ownBlock ≠ some g := fun g h1 h2 => hs.FA g h2 h1
  refine ⟨⟨by rw [hT2]; simp [stCells], set_own hT1 (grown_own hs.oA hg hs.oh hs.hA), set_own hT1 (grown_own hs.oA hg hs.oF AF), set_own hT1 (by rw [ns_append, List.length_append]; exact ho), hs.hF, ?_, ?_, hs.hTB, ?_⟩, hT1, ?_, ?_⟩
  · intro g hg'
    rcases hw with h | h
    · exact hs.hA g (h ▸ hg')
    · intro hh; have := lt hs.oh g hh; have := h g hg'; omega
  · intro g hg' hh
    rcases hw with h | h
    · exact hs.FA g hg' (h ▸ hh)
    · have := lt hs.oF g hg'; have := h g hh; omega
  · have := hg.size; have := hs.hB; simp [World.setCell] at *; omega
  · intro k c e hk h1 h2
    rw [set_blk_ne]
    · exact grown_keepE hs.oA hg hk h2
    · exact blk_ne hk hs.hT h1
  · refine Below.setCell (p := ⟨T, 6, none⟩) (((Below.refl B w).alloc hs.hB o).grown hg (by have := hs.hB; simp; omega) fun k hk => (hs.oA.lt k hk).1) hs.hTB _
theorem Sk.drewN {w : World} {T B : Nat} {hv fv av : Value} {to b r m : Int} {h F A : List Int} (hs : Sk w T B hv fv av to b r m h F A) (n : Nat) : Sk (w.drewN n) T B hv fv av to b r m h F A :=
  ⟨hs.hT, hs.oh, hs.oF, hs.oA, hs.hF, hs.hA, hs.FA, hs.hTB, hs.hB⟩
theorem Sk.drew {w : World} {T B : Nat} {hv fv av : Value} {to b r m : Int} {h F A : List Int} (hs : Sk w T B hv fv av to b r m h F A) : Sk w.drew T B hv fv av to b r m h F A :=
  ⟨hs.hT, hs.oh, hs.oF, hs.oA, hs.hF, hs.hA, hs.FA, hs.hTB, hs.hB⟩
end Go.Proofs.Ybulkods
