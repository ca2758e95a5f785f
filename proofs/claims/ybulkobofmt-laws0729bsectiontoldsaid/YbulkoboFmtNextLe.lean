import Derived.Test.YbulkoboFmtNext
namespace Go.Proofs.YbulkoboFmt
open Go.RowKit
set_option linter.unusedSimpArgs false
set_option linter.unusedVariables false

def pk0 : Array Value := #[.int .i64 0, .int .u16 0, .slice none 0 0, .int .u32 0]
/-- The state at a round's head. -/
def NI (w wr : World) (Pb R g n cap B : Nat) (S lts : List Int) (T : TypeId) (j pos N2 : Nat) : Prop :=
  ∃ bufv ifv, St wr Pb R g n cap pos T 0 ifv bufv S B ∧ wr.ownsRow B 52 2 ifv j (ifs ((lts.take j).map fun x => (x, 0))) ∧ wr.heap[N2]? = some (.cells pk0 42 (0, 0)) ∧ (∀ G, bufv.ownBlock = some G → B ≤ G) ∧ B ≤ wr.heap.size ∧ Below B w wr ∧ (j = 0 → ifv = .slice none 0 0)

theorem le2_back {x : Int} (h0 : 0 ≤ x) (h1 : x < 65536) : le2 (x % 256) (x / 256) = x := by unfold le2; omega

theorem idb_cells {w : World} {G : Nat} {l : List Int} {rest : List Value} (h : w.heap[G]? = some (.cells (bs l ++ rest).toArray 5 (0, 0))) {j : Nat} {v : Int} (hj : l[j]? = some v) : w.cell? ⟨G, j, none⟩ = some (.int .u8 v) := cell_blk h (ycell rest hj)

theorem new_cells1 (w : World) (l : List Value) (e : TypeId) {j : Nat} {u : Value} (h : l[j]? = some u) : (w.alloc (.cells l.toArray e (0, 0))).cell? ((⟨w.heap.size, 0, none⟩ : Addr).add j) = some u := by
  rw [Addr.add_lit, Nat.zero_add]
  exact cell_blk (heap_alloc_new w _) (by simpa using h)
/-- A block of another type is kept by an append to the interfaces. -/
theorem keep52 {w3 w6 : World} {o : Obj} {B j k : Nat} {v : Value} {xs : List Value} {c : Array Value} {e : TypeId} (hif : w3.ownsRow B 52 2 v j xs) (hg : (w3.alloc o).grownBy w6 v.ownBlock) (h : w3.heap[k]? = some (.cells c e (0, 0))) (he : e ≠ 52) : w6.heap[k]? = some (.cells c e (0, 0)) := by
  have hk := lt_of_block h
  rw [hg.block k (by simp; omega) ?_, Below.heap_alloc _ _ _ hk, h]
  intro hv
  rcases hif.2 with ⟨rfl, _⟩ | ⟨g', cap', cur, rfl, _, hh, _⟩
  · cases hv
  · cases hv
    rw [hh] at h
    simp at h
    exact he h.2.symm
theorem own_blk {w : World} {B : Nat} {e : TypeId} {s : Nat} {v : Value} {n : Nat} {xs : List Value} (h : w.ownsRow B e s v n xs) {g : Nat} (hg : v.ownBlock = some g) : ∃ c, w.heap[g]? = some (.cells c e (0, 0)) := by
  rcases h.2 with ⟨rfl, _⟩ | ⟨g', cap', cur, rfl, _, hh, _⟩
  · cases hg
  · cases hg; exact ⟨cur, hh⟩
theorem St.keep52 {w3 w6 : World} {o : Obj} {Pb R g n cap i : Nat} {T : TypeId} {cnt : Int} {bufv v : Value} {S : List Int} {B j : Nat} {xs : List Value} (h : St w3 Pb R g n cap i T cnt v bufv S B) (hif : w3.ownsRow B 52 2 v j xs) (hg : (w3.alloc o).grownBy w6 v.ownBlock) : St w6 Pb R g n cap i T cnt v bufv S B := by
  refine ⟨YbulkoboFmt.keep52 hif hg h.hP (by decide), YbulkoboFmt.keep52 hif hg h.hR (by decide), own_move h.hown fun g' c _ hc => (YbulkoboFmt.keep52 hif hg hc (by decide)).trans hc.symm, ?_, h.hbg, h.hn, h.hcap, h.hcm⟩
  rcases h.hbuf with h | ⟨G, n, cp, cur, rfl, hG, hs⟩
  · exact .inl h
  · exact .inr ⟨G, n, cp, cur, rfl, YbulkoboFmt.keep52 hif hg hG (by decide), hs⟩
/-- The interfaces' field is stored. -/
theorem St.setif {w : World} {Pb R g n cap i : Nat} {T : TypeId} {cnt : Int} {bufv v : Value} {S : List Int} {B : Nat} (h : St w Pb R g n cap i T cnt v bufv S B) (v' : Value) : St (w.setCell ⟨Pb, 4, none⟩ v') Pb R g n cap i T cnt v' bufv S B := by
  obtain ⟨hPR, hPg, hRg⟩ := h.ne
  have hP := set_blk h.hP 4 v'
  have hu : Upd [Pb] w (w.setCell ⟨Pb, 4, none⟩ v') := (Upd.refl _ w).setCell (p := ⟨Pb, 4, none⟩) (by simp) _
  refine ⟨?_, hu.blk h.hR (by simpa using Ne.symm hPR), hu.own h.hown (by intro g' h; cases h; simpa using Ne.symm hPg), h.hbuf.upd hu (fun G hG => by simpa using (h.bufne hG).1), h.hbg, h.hn, h.hcap, h.hcm⟩
  rw [hP]; simp [prCells]
theorem ifs_snoc (l : List (Int × Int)) (p : Int × Int) : ifs (l ++ [p]) = ifs l ++ [.int .u16 p.1, .int .u32 p.2] := by simp [ifs]

/-- Behind a block that was read: the rest of the state. -/
theorem ni_read {w wr w1 : World} {Pb R g n cap B i N2 j : Nat} {S : List Int} {T : TypeId} {ifv bufv : Value} {xs : List Value} (hst : St wr Pb R g n cap i T 0 ifv bufv S B) (hif : wr.ownsRow B 52 2 ifv j xs) (hres : wr.heap[N2]? = some (.cells pk0 42 (0, 0))) (hbB : ∀ G, bufv.ownBlock = some G → B ≤ G) (hBr : B ≤ wr.heap.size) (hbel : Below B w wr)
    (hPB : B ≤ Pb) (hRB : B ≤ R) (hu : Upd (Pb :: R :: bufv.ownBlock.toList) wr w1) : w1.ownsRow B 52 2 ifv j xs ∧ w1.heap[N2]? = some (.cells pk0 42 (0, 0)) ∧ B ≤ w1.heap.size ∧ Below B w w1 := by
  have nmem : ∀ k c e, wr.heap[k]? = some (.cells c e (0, 0)) → e ≠ 40 → e ≠ 33 → e ≠ 5 → k ∉ Pb :: R :: bufv.ownBlock.toList := by
    intro k c e hk h1 h2 h3
    simp only [List.mem_cons, not_or]
    refine ⟨?_, ?_, ?_⟩
    · rintro rfl; have := hst.hP; rw [hk] at this; simp at this; exact h1 this.2
    · rintro rfl; have := hst.hR; rw [hk] at this; simp at this; exact h2 this.2
    · intro hm
      have hG : bufv.ownBlock = some k := by simpa using hm
      rcases hst.hbuf with h | ⟨G, n, cp, cur, rfl, hGc, _⟩
      · rw [h] at hG; cases hG
      · cases hG; rw [hk] at hGc; simp at hGc; exact h3 hGc.2
  refine ⟨hu.own hif fun g' hg' => ?_, hu.blk hres (nmem _ _ _ hres (by decide) (by decide) (by decide)), Nat.le_trans hBr hu.size, hbel.trans (hu.below hBr ?_)⟩
  · obtain ⟨c, hc⟩ := own_blk hif hg'
    exact nmem _ _ _ hc (by decide) (by decide) (by decide)
  · intro k hk
    simp only [List.mem_cons] at hk
    rcases hk with rfl | rfl | hk
    · exact hPB
    · exact hRB
    · exact hbB k (by simpa using hk)

theorem ni_step {w w1 w3 w6 : World} {Pb R g n cap B i N2 j : Nat} {S lts : List Int} {T : TypeId} {v v' bufv : Value} {lt : Int} {o : Obj} (hst : St w1 Pb R g n cap i T 0 v bufv S B) (hif : w1.ownsRow B 52 2 v j (ifs ((lts.take j).map fun x => (x, 0)))) (hres : w1.heap[N2]? = some (.cells pk0 42 (0, 0))) (hBr : B ≤ w1.heap.size) (hbel : Below B w w1) (hPB : B ≤ Pb)
    (hbB : ∀ G, bufv.ownBlock = some G → B ≤ G) (hb3 : Below w1.heap.size w1 w3) (hown : w6.ownsRow B 52 2 v' (j + 1) (ifs ((lts.take j).map fun x => (x, 0)) ++ [.int .u16 lt, .int .u32 0])) (hg : (w3.alloc o).grownBy w6 v.ownBlock) (hlt : lts[j]? = some lt) :
    NI w (w6.setCell ⟨Pb, 4, none⟩ v') Pb R g n cap B S lts T (j + 1) i N2 := by
  have hif3 := (Upd.of_below (ks := []) hb3).own hif (by simp)
  have hst3 := hst.below hb3
  have hst6 := hst3.keep52 hif3 hg
  have hres6 := keep52 hif3 hg ((hb3.block N2 (lt_of_block hres)).trans hres) (by decide)
  have hb6 : Below B w w6 := by
    refine (hbel.trans (hb3.mono hBr)).trans ?_
    refine ((Below.refl B w3).alloc (Nat.le_trans hBr hb3.size) o).grown hg (by have := hb3.size; simp; omega) fun k hk => (hif3.lt k hk).1
  refine ⟨bufv, v', hst6.setif v', ?_, (set_blk_ne ?_).trans hres6, hbB, ?_, hb6.setCell (p := ⟨Pb, 4, none⟩) hPB _, by omega⟩
  · have e : (lts.take (j + 1)).map (fun x => (x, (0 : Int))) = (lts.take j).map (fun x => (x, 0)) ++ [(lt, 0)] := by
      have hj := (List.getElem?_eq_some_iff.1 hlt).1
      rw [List.take_succ_eq_append_getElem hj, List.map_append]
      simp [(List.getElem?_eq_some_iff.1 hlt).2]
    rw [e, ifs_snoc]
    refine own_move hown fun g' c hg' hc => set_blk_ne ?_
    rintro rfl
    have := hst6.hP; rw [hc] at this; simp at this
  · rintro rfl; have := hst6.hP; rw [hres6] at this; simp at this
  · have := hg.size
    have h3 := hb3.size
    simp [World.setCell] at this ⊢
    omega

theorem idb_u16 (w : World) (G cp : Nat) (lt : Int) (rest : List Value) (h0 : 0 ≤ lt) (h1 : lt < 65536) (hG : w.heap[G]? = some (.cells (bs [lt % 256, lt / 256, 0, 0, 0, 0, 0, 0, 20, 0, 0, 0] ++ rest).toArray 5 (0, 0))) :
    Calls Ybaf.prog 46 #[.agg #[], .slice (some ⟨G, 0, none⟩) 8 cp] w fun e w' => e = .returned (.int .u16 lt) ∧ Below w.heap.size w w' := by
  have := le_u16 G 0 8 cp (lt % 256) (lt / 256) w (by omega) ⟨by omega, by omega⟩ ⟨by omega, by omega⟩ (idb_cells hG rfl) (idb_cells hG rfl)
  rwa [le2_back h0 h1] at this
theorem idb_u32 (w : World) (G c : Nat) (lt : Int) (rest : List Value) (hG : w.heap[G]? = some (.cells (bs [lt % 256, lt / 256, 0, 0, 0, 0, 0, 0, 20, 0, 0, 0] ++ rest).toArray 5 (0, 0))) :
    Calls Ybaf.prog 21 #[.agg #[], .slice (some ⟨G, 4, none⟩) 4 c] w fun e w' => e = .returned (.int .u32 0) ∧ Below w.heap.size w w' :=
  le_u32 G 4 4 c 0 0 0 0 w (by omega) ⟨by omega, by omega⟩ ⟨by omega, by omega⟩ ⟨by omega, by omega⟩ ⟨by omega, by omega⟩ (idb_cells hG rfl) (idb_cells hG rfl) (idb_cells hG rfl) (idb_cells hG rfl)

end Go.Proofs.YbulkoboFmt
