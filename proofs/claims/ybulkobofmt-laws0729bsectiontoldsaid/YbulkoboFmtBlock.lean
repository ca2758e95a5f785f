import Derived.Test.YbulkoboFmtFull
namespace Go.Proofs.YbulkoboFmt
open Go.RowKit
set_option linter.unusedSimpArgs false
set_option linter.unusedVariables false

def prCells (R : Nat) (T : TypeId) (cnt : Int) (ifv bufv : Value) : List Value := [.iface 31 (.pointer (some ⟨R, 0, none⟩)), .iface T (.agg #[]), .bool false, .int .i64 cnt, ifv, bufv]

/-- The reader's state: the reader's struct, the stream's struct, the stream, the buffer. -/
structure St (w : World) (Pb R g n cap i : Nat) (T : TypeId) (cnt : Int) (ifv bufv : Value) (S : List Int) (B : Nat) : Prop where
  hP : w.heap[Pb]? = some (.cells (prCells R T cnt ifv bufv).toArray 40 (0, 0))
  hR : w.heap[R]? = some (.cells (rdCells (some ⟨g, 0, none⟩) n cap i).toArray 33 (0, 0))
  hown : w.ownsRow B 5 1 (.slice (some ⟨g, 0, none⟩) n cap) n (bs S)
  hbuf : Buf w bufv
  hbg : bufv.ownBlock ≠ some g
  hn : n ≤ 1000000
  hcap : n ≤ cap
  hcm : cap ≤ maxLen

theorem St.hg {w : World} {Pb R g n cap i : Nat} {T : TypeId} {cnt : Int} {ifv bufv : Value} {S : List Int} {B : Nat} (h : St w Pb R g n cap i T cnt ifv bufv S B) : ∃ cur, w.heap[g]? = some (.cells cur 5 (0, 0)) := by
  rcases h.hown.2 with ⟨h, _⟩ | ⟨g', cap', cur, h, _, hh, _⟩
  · cases h
  · simp only [Value.slice.injEq, Option.some.injEq, Addr.mk.injEq] at h
    obtain ⟨⟨rfl, _⟩, _⟩ := h
    exact ⟨cur, hh⟩
theorem St.ne {w : World} {Pb R g n cap i : Nat} {T : TypeId} {cnt : Int} {ifv bufv : Value} {S : List Int} {B : Nat} (h : St w Pb R g n cap i T cnt ifv bufv S B) : Pb ≠ R ∧ Pb ≠ g ∧ R ≠ g := by
  obtain ⟨cur, hg⟩ := h.hg
  refine ⟨?_, ?_, ?_⟩
  · rintro rfl; have := h.hP; rw [h.hR] at this; simp at this
  · rintro rfl; have := h.hP; rw [hg] at this; simp at this
  · rintro rfl; have := h.hR; rw [hg] at this; simp at this

def zero8 : List Value := [.int .u8 0, .int .u8 0, .int .u8 0, .int .u8 0, .int .u8 0, .int .u8 0, .int .u8 0, .int .u8 0]
theorem splice8 (l : List Int) (h : l.length = 8) : splice zero8 0 (bs l) = bs l := by simp [splice, zero8, bs_length, h]

theorem nil_leu32 (w : World) : (nilAhead 236 26 (.agg #[]) "Uint32").run Ybaf.prog w = .ok (some false) w := by kernel_rfl
theorem method_leu32 (w : World) : (method 236 26 (.agg #[]) "Uint32").run Ybaf.prog w = .ok (21, .agg #[]) w := by kernel_rfl
theorem nil_leu16 (w : World) : (nilAhead 236 26 (.agg #[]) "Uint16").run Ybaf.prog w = .ok (some false) w := by kernel_rfl
theorem method_leu16 (w : World) : (method 236 26 (.agg #[]) "Uint16").run Ybaf.prog w = .ok (46, .agg #[]) w := by kernel_rfl
theorem nil_beu32 (w : World) : (nilAhead 236 48 (.agg #[]) "Uint32").run Ybaf.prog w = .ok (some false) w := by kernel_rfl
theorem method_beu32 (w : World) : (method 236 48 (.agg #[]) "Uint32").run Ybaf.prog w = .ok (20, .agg #[]) w := by kernel_rfl
theorem nil_beu16 (w : World) : (nilAhead 236 48 (.agg #[]) "Uint16").run Ybaf.prog w = .ok (some false) w := by kernel_rfl
theorem method_beu16 (w : World) : (method 236 48 (.agg #[]) "Uint16").run Ybaf.prog w = .ok (52, .agg #[]) w := by kernel_rfl

theorem bnext {a b c : World} (h : Below a.heap.size a b) (k : Below b.heap.size b c) : Below a.heap.size a c := h.trans (k.mono h.size)
theorem Buf.upd {w w' : World} {v : Value} {ks : List Nat} (h : Buf w v) (hu : Upd ks w w') (hn : ∀ G, v.ownBlock = some G → G ∉ ks) : Buf w' v := by
  rcases h with h | ⟨G, n, cp, cur, rfl, hG, hs⟩
  · exact .inl h
  · exact .inr ⟨G, n, cp, cur, rfl, (hu.block G (lt_of_block hG) (hn G rfl)).trans hG, hs⟩
theorem St.bufne {w : World} {Pb R g n cap i : Nat} {T : TypeId} {cnt : Int} {ifv bufv : Value} {S : List Int} {B : Nat} (h : St w Pb R g n cap i T cnt ifv bufv S B) {G : Nat} (hG : bufv.ownBlock = some G) : G ≠ Pb ∧ G ≠ R ∧ G ≠ g ∧ G < w.heap.size := by
  rcases h.hbuf with h' | ⟨G', n, cp, cur, h', hh, hs⟩
  · rw [h'] at hG; cases hG
  · rw [h'] at hG
    cases hG
    refine ⟨?_, ?_, ?_, lt_of_block hh⟩
    · rintro rfl; have := h.hP; rw [hh] at this; simp at this
    · rintro rfl; have := h.hR; rw [hh] at this; simp at this
    · rintro rfl; have := h.hbg; rw [h'] at this; exact this rfl

theorem St.upd {w w' : World} {Pb R g n cap i : Nat} {T : TypeId} {cnt : Int} {ifv bufv : Value} {S : List Int} {B : Nat} (h : St w Pb R g n cap i T cnt ifv bufv S B) (hu : Upd [] w w') : St w' Pb R g n cap i T cnt ifv bufv S B :=
  ⟨hu.blk h.hP (by simp), hu.blk h.hR (by simp), hu.own h.hown (by simp), h.hbuf.upd hu (by simp), h.hbg, h.hn, h.hcap, h.hcm⟩
theorem St.below {w w' : World} {Pb R g n cap i : Nat} {T : TypeId} {cnt : Int} {ifv bufv : Value} {S : List Int} {B : Nat} (h : St w Pb R g n cap i T cnt ifv bufv S B) (hb : Below w.heap.size w w') : St w' Pb R g n cap i T cnt ifv bufv S B := h.upd (Upd.of_below hb)

theorem St.hgl {w : World} {Pb R g n cap i : Nat} {T : TypeId} {cnt : Int} {ifv bufv : Value} {S : List Int} {B : Nat} (h : St w Pb R g n cap i T cnt ifv bufv S B) : g < w.heap.size := by obtain ⟨_, h⟩ := h.hg; exact lt_of_block h

theorem setbuf_facts {w : World} {Pb R g n cap i : Nat} {T : TypeId} {cnt : Int} {ifv bufv : Value} {S : List Int} {B : Nat} (h : St w Pb R g n cap i T cnt ifv bufv S B) {G cp : Nat} {cur : Array Value} (hG : w.heap[G]? = some (.cells cur 5 (0, 0))) (hs : cur.size = cp) (hcp : cp ≤ maxLen) (hGg : G ≠ g) (k : Nat) :
    St (w.setCell ⟨Pb, 5, none⟩ (.slice (some ⟨G, 0, none⟩) k cp)) Pb R g n cap i T cnt ifv (.slice (some ⟨G, 0, none⟩) k cp) S B ∧ (w.setCell ⟨Pb, 5, none⟩ (.slice (some ⟨G, 0, none⟩) k cp)).heap[G]? = some (.cells cur.toList.toArray 5 (0, 0)) ∧ (G ≠ Pb ∧ G ≠ R ∧ G < w.heap.size) ∧ Upd [Pb] w (w.setCell ⟨Pb, 5, none⟩ (.slice (some ⟨G, 0, none⟩) k cp)) := by
  obtain ⟨hPR, hPg, hRg⟩ := h.ne
  have hGP : G ≠ Pb := by rintro rfl; have := h.hP; rw [hG] at this; simp at this
  have hGR : G ≠ R := by rintro rfl; have := h.hR; rw [hG] at this; simp at this
  have hu : Upd [Pb] w (w.setCell ⟨Pb, 5, none⟩ (.slice (some ⟨G, 0, none⟩) k cp)) := (Upd.refl _ w).setCell (p := ⟨Pb, 5, none⟩) (by simp) _
  have hG' : (w.setCell ⟨Pb, 5, none⟩ (.slice (some ⟨G, 0, none⟩) k cp)).heap[G]? = some (.cells cur 5 (0, 0)) := hu.blk hG (by simpa using hGP)
  have hP := set_blk h.hP 5 (.slice (some ⟨G, 0, none⟩) k cp)
  refine ⟨⟨?_, hu.blk h.hR (by simpa using Ne.symm hPR), hu.own h.hown (by intro g' h; cases h; simpa using Ne.symm hPg), .inr ⟨G, k, cp, cur, rfl, hG', hs, hcp⟩, ?_, h.hn, h.hcap, h.hcm⟩, by simpa using hG', ⟨hGP, hGR, lt_of_block hG⟩, hu⟩
  · rw [hP]; simp [prCells]
  · simpa [Value.ownBlock] using hGg

theorem read2_facts {w w7 : World} {Pb R g n cap i : Nat} {T : TypeId} {cnt : Int} {ifv : Value} {S : List Int} {B G cp m l : Nat} {cur : Array Value} (h : St w Pb R g n cap i T cnt ifv (.slice (some ⟨G, 0, none⟩) (m + 4) cp) S B) (hG : w.heap[G]? = some (.cells cur.toList.toArray 5 (0, 0))) (hne : G ≠ Pb ∧ G ≠ R ∧ G < l) (hGg : G ≠ g) (hk : m + 4 ≤ cp) (hs : cur.size = cp) (hcp : cp ≤ maxLen) (hi : i + (m + 4) ≤ n) (hl : l ≤ l)
    (hr : w7.heap[R]? = some (.cells (rdCells (some ⟨g, 0, none⟩) n cap ((i + (m + 4) : Nat) : Int)).toArray 33 (0, 0)) ∧ w7.heap[G]? = some (.cells (splice cur.toList 0 (bs ((S.drop i).take (m + 4)))).toArray 5 (0, 0)) ∧ Upd [R, G] w.drew w7) :
    St w7 Pb R g n cap (i + (m + 4)) T cnt ifv (.slice (some ⟨G, 0, none⟩) (m + 4) cp) S B ∧ w7.heap[G]? = some (.cells (bs ((S.drop i).take (m + 4)) ++ cur.toList.drop (m + 4)).toArray 5 (0, 0)) ∧ Upd [R, G] w w7 := by
  obtain ⟨r1, r2, r3⟩ := hr
  obtain ⟨hPR, hPg, hRg⟩ := h.ne
  have hu : Upd [R, G] w w7 := ((Upd.refl _ w).drew).trans r3
  have hSl : S.length = n := by have := h.hown.1; simpa [bs_length] using this
  have hX : (bs ((S.drop i).take (m + 4))).length = m + 4 := by rw [bs_length]; simp [hSl]; omega
  have e : splice cur.toList 0 (bs ((S.drop i).take (m + 4))) = bs ((S.drop i).take (m + 4)) ++ cur.toList.drop (m + 4) := by simp [splice, hX]
  rw [e] at r2
  refine ⟨⟨hu.blk h.hP (by simp; exact ⟨hPR, fun e => hne.1 e.symm⟩), r1, hu.own h.hown (by intro g' h; cases h; simp; exact ⟨Ne.symm hRg, Ne.symm hGg⟩), .inr ⟨G, m + 4, cp, _, rfl, r2, by simp [hX]; omega, hcp⟩, h.hbg, h.hn, h.hcap, h.hcm⟩, r2, hu⟩

theorem trail_cells {w7 : World} {Pb R g n cap i j : Nat} {T : TypeId} {cnt : Int} {ifv bufv : Value} {S : List Int} {B G m : Nat} {rest : List Value} {t0 t1 t2 t3 : Int} (hG : w7.heap[G]? = some (.cells (bs ((S.drop i).take (m + 4)) ++ rest).toArray 5 (0, 0)))
    (h : St w7 Pb R g n cap j T cnt ifv bufv S B) (hi : i + (m + 4) ≤ n) (hT4 : (S.drop (i + m)).take 4 = [t0, t1, t2, t3]) :
    w7.cell? ⟨G, m, none⟩ = some (.int .u8 t0) ∧ w7.cell? ⟨G, m + 1, none⟩ = some (.int .u8 t1) ∧ w7.cell? ⟨G, m + 2, none⟩ = some (.int .u8 t2) ∧ w7.cell? ⟨G, m + 3, none⟩ = some (.int .u8 t3) := by
  have hSl : S.length = n := by have := h.hown.1; simpa [bs_length] using this
  have key : ∀ k v, k < 4 → ([t0, t1, t2, t3] : List Int)[k]? = some v → w7.cell? ⟨G, m + k, none⟩ = some (.int .u8 v) := by
    intro k v hk hv
    refine cell_blk hG ?_
    rw [← hT4] at hv
    simp [List.getElem?_take, hk] at hv
    rw [List.getElem?_toArray, List.getElem?_append_left (by rw [bs_length]; simp [hSl]; omega)]
    simp [bs, List.getElem?_take, show m + k < m + 4 by omega, ← Nat.add_assoc, hv]
  exact ⟨key 0 t0 (by omega) rfl, key 1 t1 (by omega) rfl, key 2 t2 (by omega) rfl, key 3 t3 (by omega) rfl⟩

theorem block_frame {w w1 w4 w5 w6 w7 w8 : World} {Pb R G : Nat} {bufv : Value} (h1 : Upd [R] w w1) (h4 : Below w1.heap.size w1 w4) (h5 : Upd [] w4 w5) (h6 : Upd [Pb] w5 w6) (h7 : Upd [R, G] w6 w7) (h8 : Below w7.heap.size w7 w8) (hG : bufv.ownBlock = some G ∨ w4.heap.size ≤ G) :
    Upd (Pb :: R :: bufv.ownBlock.toList) w w8 := by
  have a1 := h1.trans (Upd.of_below h4)
  have a2 := (a1.mono (ks' := [Pb, R]) (by simp)).trans (h5.mono (by simp))
  have a3 := a2.trans (h6.mono (by simp))
  refine ⟨h8.os.trans (h7.os.trans a3.os), h8.tape.trans (h7.tape.trans a3.tape), h8.output.trans (h7.output.trans a3.output), Nat.le_trans a3.size (Nat.le_trans h7.size h8.size), fun k hk hn => ?_⟩
  simp only [List.mem_cons, not_or] at hn
  have hkG : k ≠ G := by
    rintro rfl
    rcases hG with h | h
    · rw [h] at hn; simp at hn
    · have := a1.size; omega
  have hk6 : k < w6.heap.size := Nat.lt_of_lt_of_le hk a3.size
  rw [h8.block k (Nat.lt_of_lt_of_le hk6 h7.size), h7.block k hk6 (by simp; exact ⟨hn.2.1, hkG⟩), a3.block k hk (by simp; exact ⟨hn.1, hn.2.1⟩)]

/-- Behind the reading of the head. -/
theorem head_facts {w w1 : World} {Pb R g n cap i : Nat} {T : TypeId} {cnt : Int} {ifv bufv : Value} {S : List Int} {B : Nat} (hst : St w Pb R g n cap i T cnt ifv bufv S B)
    {h0 h1 h2 h3 h4 h5 h6 h7 : Int} (hS8 : (S.drop i).take 8 = [h0, h1, h2, h3, h4, h5, h6, h7]) (hi8 : i + 8 ≤ n)
    (hr : w1.heap[R]? = some (.cells (rdCells (some ⟨g, 0, none⟩) n cap ((i + 8 : Nat) : Int)).toArray 33 (0, 0)) ∧ w1.heap[w.heap.size]? = some (.cells (splice zero8 0 (bs ((S.drop i).take 8))).toArray 62 (0, 0)) ∧ Upd [R, w.heap.size] (w.alloc (.cells zero8.toArray 62 (0, 0))).drew w1) :
    w1.heap[Pb]? = some (.cells (prCells R T cnt ifv bufv).toArray 40 (0, 0)) ∧ St w1 Pb R g n cap (i + 8) T cnt ifv bufv S B ∧ w1.heap[w.heap.size]? = some (.cells (bs [h0, h1, h2, h3, h4, h5, h6, h7]).toArray 62 (0, 0)) ∧ Upd [R] w w1 ∧ w.heap.size < w1.heap.size := by
  obtain ⟨r1, r2, r3⟩ := hr
  rw [hS8, splice8 _ rfl] at r2
  have hu : Upd [R] w w1 := by
    refine ⟨r3.os, r3.tape, r3.output, by have := r3.size; simp at this; omega, fun k hk hn => ?_⟩
    exact (r3.block k (by simp; omega) (by simp at hn ⊢; omega)).trans (Below.heap_alloc _ _ _ hk)
  obtain ⟨hPR, hPg, hRg⟩ := hst.ne
  have hP : w1.heap[Pb]? = some (.cells (prCells R T cnt ifv bufv).toArray 40 (0, 0)) := hu.blk hst.hP (by simpa using hPR)
  refine ⟨hP, ⟨hP, r1, hu.own hst.hown (by intro g' h; cases h; simpa using Ne.symm hRg), hst.hbuf.upd hu (fun G hG => by simpa using (hst.bufne hG).2.1), hst.hbg, hst.hn, hst.hcap, hst.hcm⟩, r2, hu, ?_⟩
  exact lt_of_block r2

set_option maxRecDepth 100000 in
set_option maxHeartbeats 1000000 in
theorem block_le (w : World) (Pb R g n cap i : Nat) (cnt : Int) (ifv bufv : Value) (S : List Int) (B : Nat) (hst : St w Pb R g n cap i 26 cnt ifv bufv S B)
    (h0 h1 h2 h3 h4 h5 h6 h7 : Int) (hS8 : (S.drop i).take 8 = [h0, h1, h2, h3, h4, h5, h6, h7]) (hi8 : i + 8 ≤ n) (hy0 : byte h0) (hy1 : byte h1) (hy2 : byte h2) (hy3 : byte h3) (hy4 : byte h4) (hy5 : byte h5) (hy6 : byte h6) (hy7 : byte h7) (hmg : (le4 h3 h2 h1 h0 == 168627466) = false) (m : Nat) (htt : le4 h4 h5 h6 h7 = (m : Int) + 12) (hm4 : (m : Int) % 4 = 0) (him : i + 12 + m ≤ n)
    (t0 t1 t2 t3 : Int) (hT4 : (S.drop (i + 8 + m)).take 4 = [t0, t1, t2, t3]) (hz0 : byte t0) (hz1 : byte t1) (hz2 : byte t2) (hz3 : byte t3) (htr : le4 t0 t1 t2 t3 = (m : Int) + 12) :
    Calls Ybaf.prog 11 #[.pointer (some ⟨Pb, 0, none⟩)] w fun e w' => ∃ G cp rest, e = .returned (.tuple #[.int .u32 (le4 h0 h1 h2 h3), .slice (some ⟨G, 0, none⟩) m cp, .nilIface]) ∧
      St w' Pb R g n cap (i + (m + 12)) 26 cnt ifv (.slice (some ⟨G, 0, none⟩) (m + 4) cp) S B ∧ w'.heap[G]? = some (.cells (bs ((S.drop (i + 8)).take (m + 4)) ++ rest).toArray 5 (0, 0)) ∧ m + 4 ≤ cp ∧ cp ≤ maxLen ∧ (bufv.ownBlock = some G ∨ w.heap.size ≤ G) ∧ Upd (Pb :: R :: bufv.ownBlock.toList) w w' := by
  replace htr := hide htr
  obtain ⟨hPR, hPg, hRg⟩ := hst.ne
  have hgl : g < w.heap.size := by obtain ⟨_, h⟩ := hst.hg; exact lt_of_block h
  have hRl := lt_of_block hst.hR
  have hPl := lt_of_block hst.hP
  have p0 : w.cell? ⟨Pb, 0, none⟩ = some (.iface 31 (.pointer (some ⟨R, 0, none⟩))) := cell_blk hst.hP rfl
  have p1 : w.cell? ⟨Pb, 1, none⟩ = some (.iface 26 (.agg #[])) := cell_blk hst.hP rfl
  have p2 : w.cell? ⟨Pb, 2, none⟩ = some (.bool false) := cell_blk hst.hP rfl
  have hna := nil_leu32
  have hme := method_leu32
  replace hst := hide hst
  replace hm4 := hide hm4
  replace htt := hide htt
  have hfull := hide (full_any R w.heap.size g n cap i 8 0 8 62 zero8 S B (w.alloc (.cells zero8.toArray 62 (0, 0))).drew
    ((Below.heap_alloc _ _ _ hRl).trans hst.out.hR) (hst.out.hown.alloc _).drew (heap_alloc_new w _) (by omega) (by omega) (by omega) hi8 hst.out.hn hst.out.hcap hst.out.hcm (by simp [zero8]) (by omega) (by unfold maxLen; omega))
  go_enter Ybaf.func11, Ybaf.ntmps11
  go_wp2_with fail
  go_region_with (go_at_call 16; refine hfull.out.mono ?_; rintro e w1 ⟨rfl, hrest⟩; replace hrest := hide hrest)
  have hf := hide (head_facts (T := 26) hst.out hS8 hi8 hrest.out)
  have k0 : ∀ w', Below w1.heap.size w1 w' → w'.cell? ⟨Pb, 0, none⟩ = some (.iface 31 (.pointer (some ⟨R, 0, none⟩))) := fun w' hb => (hb.cell (p := ⟨Pb, 0, none⟩) (lt_of_block hf.out.1)).trans (cell_blk hf.out.1 rfl)
  have k1 : ∀ w', Below w1.heap.size w1 w' → w'.cell? ⟨Pb, 1, none⟩ = some (.iface 26 (.agg #[])) := fun w' hb => (hb.cell (p := ⟨Pb, 1, none⟩) (lt_of_block hf.out.1)).trans (cell_blk hf.out.1 rfl)
  have k5 : ∀ w', Below w1.heap.size w1 w' → w'.cell? ⟨Pb, 5, none⟩ = some bufv := fun w' hb => (hb.cell (p := ⟨Pb, 5, none⟩) (lt_of_block hf.out.1)).trans (cell_blk hf.out.1 rfl)
  have kh : Hid (∀ w', Below w1.heap.size w1 w' → w'.heap[w.heap.size]? = some (.cells (bs [h0, h1, h2, h3, h4, h5, h6, h7]).toArray 62 (0, 0))) := fun w' hb => (hb.block _ (lt_of_block hf.out.2.2.1)).trans hf.out.2.2.1
  have hb1 : Below w1.heap.size w1 w1 := Below.refl _ _
  have hb1' : Below w1.heap.size w1 w1.drew := (Below.refl _ _).drew
  clear p0 p1 p2
  have hu1 := hide hf.out.2.2.2.1
  go_wp2
  go_region_with (go_at_call 21; refine (le_u32 w.heap.size 0 8 8 h0 h1 h2 h3 w1.drew (by omega) hy0 hy1 hy2 hy3 (cell_blk (kh.out _ hb1') rfl) (cell_blk (kh.out _ hb1') rfl) (cell_blk (kh.out _ hb1') rfl) (cell_blk (kh.out _ hb1') rfl)).mono ?_; rintro e w2 ⟨rfl, hb2⟩; replace hb2 := hb1'.trans hb2; replace hb2 := Below.drew hb2)
  go_wp2
  go_region_with (go_at_call 20; refine (be_u32 w.heap.size 0 8 8 h0 h1 h2 h3 w2.drew (by omega) hy0 hy1 hy2 hy3 (cell_blk (kh.out _ hb2) rfl) (cell_blk (kh.out _ hb2) rfl) (cell_blk (kh.out _ hb2) rfl) (cell_blk (kh.out _ hb2) rfl)).mono ?_; rintro e w3 ⟨rfl, hb3⟩; replace hb3 := bnext hb2 hb3; have hb3d := Below.drew hb3; clear hb2 hb1 hb1')
  go_wp2
  go_region_with (go_at_call 21; refine (le_u32 w.heap.size 4 4 4 h4 h5 h6 h7 w3.drew (by omega) hy4 hy5 hy6 hy7 (cell_blk (kh.out _ hb3d) rfl) (cell_blk (kh.out _ hb3d) rfl) (cell_blk (kh.out _ hb3d) rfl) (cell_blk (kh.out _ hb3d) rfl)).mono ?_; rintro e w4 ⟨rfl, hb4⟩; replace hb4 := bnext hb3d hb4; clear hb3 hb3d)
  have hm1 : (m : Int) ≤ 1000000 := by have := hst.out.hn; omega
  have hm0 : (0 : Int) ≤ (m : Int) := by omega
  have t1 : ¬ (m : Int) + 12 < 12 := by omega
  have t2 : (((m : Int) + 12) % 4 != 0) = false := by rw [bne_eq_false_iff_eq]; have := hm4.out; omega
  have t3 : ¬ (16777280 : Int) < (m : Int) + 12 := by omega
  rw [htt.out]
  go_wp2_with fail
  rw [show (m : Int) + 12 - 8 = (m : Int) + 4 by omega]
  have hst4 := hide (St.below hf.out.2.1 hb4)
  have hgrow := hide (grow_any bufv (m + 4) w4 hst4.out.hbuf (by have := hst.out.hn; omega) (by omega))
  rw [show (((m + 4 : Nat)) : Int) = (m : Int) + 4 by omega] at hgrow
  refine hgrow.out.mono ?_
  rintro e w5 ⟨G, cp, cur, rfl, hG, hGs, hcpm, hkcp, hGo, hu5⟩
  have hst5 := hide (hst4.out.upd hu5)
  clear hgrow hf k0 k1 k5 kh t1 t2 t3
  have hGg : G ≠ g := by
    rcases hGo with h | h
    · exact (hst4.out.bufne h).2.2.1
    · have := hst4.out.hgl; omega
  have hb := hide (setbuf_facts hst5.out hG hGs hcpm hGg (m + 4))
  have hfull := hide (full_any R G g n cap (i + 8) (m + 4) 0 cp 5 cur.toList S B (w5.setCell ⟨Pb, 5, none⟩ (.slice (some ⟨G, 0, none⟩) (m + 4) cp)).drew
    hb.out.1.hR hb.out.1.hown.drew hb.out.2.1 hb.out.2.2.1.2.1 hGg (by omega) (by omega) hst5.out.hn hst5.out.hcap hst5.out.hcm (by simp; omega) hkcp hcpm)
  have q5 : w5.cell? ⟨Pb, 5, none⟩ = some bufv := cell_blk hst5.out.hP rfl
  have f5 : w5.frozen? ⟨Pb, 5, none⟩ = false := froz_blk hst5.out.hP _
  have q0 : w5.cell? ⟨Pb, 0, none⟩ = some (.iface 31 (.pointer (some ⟨R, 0, none⟩))) := cell_blk hst5.out.hP rfl
  have hG' := hide hG
  have hGo' := hide hGo
  clear hG hGo hna hme
  go_wp2_with fail
  go_region_held3 (fun w' => w'.cell? ⟨Pb, 0, none⟩ = some (.iface 31 (.pointer (some ⟨R, 0, none⟩))) ∧ w'.cell? ⟨Pb, 5, none⟩ = some (.slice (some ⟨G, 0, none⟩) (m + 4) cp)) (first | exact ⟨‹_›, ‹_›⟩ | simp [go_sem, q0, q5]) (first | (go_at_call 16; refine hfull.out.mono ?_; rintro e w7 ⟨rfl, hrest7⟩; have h7 := hide (read2_facts hb.out.1 hb.out.2.1 hb.out.2.2.1 hGg hkcp hGs hcpm (by omega) (by omega) hrest7); replace hrest7 := hide hrest7; have z0 : w7.cell? ⟨Pb, 0, none⟩ = some (.iface 31 (.pointer (some ⟨R, 0, none⟩))) := cell_blk h7.out.1.hP rfl; have z5 : w7.cell? ⟨Pb, 5, none⟩ = some (.slice (some ⟨G, 0, none⟩) (m + 4) cp) := cell_blk h7.out.1.hP rfl))
  go_wp2_with fail
  have z1 : w7.cell? ⟨Pb, 1, none⟩ = some (.iface 26 (.agg #[])) := cell_blk h7.out.1.hP rfl
  have hcp' : (cp : Int) ≤ 9223372036854775807 := by unfold maxLen at hcpm; omega
  have hcm1 : ¬ cp = m := by omega
  have hmc : (m : Int) + 4 ≤ (cp : Int) := by omega
  have hme := method_leu32
  have hna := nil_leu32
  go_quiet (fail)
  go_wp2_with fail
  have hcz := hide (trail_cells h7.out.2.1 h7.out.1 (by omega) hT4)
  refine (le_u32 G m 4 (cp - m) t0 t1 t2 t3 (w7.drewN nq) (by omega) hz0 hz1 hz2 hz3 hcz.out.1 hcz.out.2.1 hcz.out.2.2.1 hcz.out.2.2.2).mono ?_
  rintro e w8 ⟨rfl, hb8⟩
  rw [htr.out]
  go_wp2
  go_ret3
  have hb8' : Below w7.heap.size w7 w8 := bnext (below_drewN (Below.refl _ w7) nq) hb8
  refine ⟨G, cp, cur.toList.drop (m + 4), rfl, ?_, (hb8'.block G (lt_of_block h7.out.2.1)).trans h7.out.2.1, by omega, hcpm, ?_, ?_⟩
  · have := h7.out.1.below hb8'
    rwa [show i + 8 + (m + 4) = i + (m + 12) by omega] at this
  · rcases hGo'.out with h | h
    · exact .inl h
    · exact .inr (Nat.le_trans hu1.out.size (Nat.le_trans hb4.size h))
  · exact block_frame hu1.out hb4 hu5 hb.out.2.2.2 h7.out.2.2 hb8' hGo'.out
end Go.Proofs.YbulkoboFmt
