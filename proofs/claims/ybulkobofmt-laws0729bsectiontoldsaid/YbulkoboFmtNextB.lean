import Derived.Test.YbulkoboFmtBlockBe
import Derived.Test.YbulkoboFmtBlockSec
import Derived.Test.YbulkoboFmtSect
import Derived.Test.YbulkoboFmtPacketB
import Derived.Test.YbulkoboFmtEpb
namespace Go.Proofs.YbulkoboFmt
open Go.RowKit
set_option linter.unusedSimpArgs false
set_option linter.unusedVariables false

/-- How much of the stream is yet to be read. -/
def leftB (R n : Nat) (w : World) : Nat := match w.cell? ⟨R, 1, none⟩ with | some (.int _ x) => (n + 1 - x).toNat | _ => 0
theorem St.leftB {w : World} {Pb R g n cap i : Nat} {T : TypeId} {cnt : Int} {ifv bufv : Value} {S : List Int} {B : Nat} (h : St w Pb R g n cap i T cnt ifv bufv S B) : YbulkoboFmt.leftB R n w = n + 1 - i := by
  have c : w.cell? ⟨R, 1, none⟩ = some (.int .i64 (i : Int)) := cell_blk h.hR rfl
  simp only [YbulkoboFmt.leftB, c]
  omega
theorem nxB_end {w2 : World} {N2 B : Nat} (hB : B ≤ N2) (v0 v1 v2 v3 : Value) :
    (∀ k, k ≠ N2 → ((((w2.setCell ⟨N2, 0, none⟩ v0).setCell ⟨N2, 1, none⟩ v1).setCell ⟨N2, 2, none⟩ v2).setCell ⟨N2, 3, none⟩ v3).heap[k]? = w2.heap[k]?) ∧ Below B w2 ((((w2.setCell ⟨N2, 0, none⟩ v0).setCell ⟨N2, 1, none⟩ v1).setCell ⟨N2, 2, none⟩ v2).setCell ⟨N2, 3, none⟩ v3) :=
  ⟨fun k hk => by rw [set_blk_ne hk, set_blk_ne hk, set_blk_ne hk, set_blk_ne hk], ((((Below.refl B w2).setCell (p := ⟨N2, 0, none⟩) hB _).setCell (p := ⟨N2, 1, none⟩) hB _).setCell (p := ⟨N2, 2, none⟩) hB _).setCell (p := ⟨N2, 3, none⟩) hB _⟩
theorem blkB_ne {w : World} {k l : Nat} {c d : Array Value} {e f : TypeId} (h : w.heap[k]? = some (.cells c e (0, 0))) (h' : w.heap[l]? = some (.cells d f (0, 0))) (hne : e ≠ f) : k ≠ l := by
  rintro rfl; rw [h] at h'; simp at h'; exact hne h'.2

/-- The Interface Description Block, big-endian; its body with the trailer. -/
def idbB (lt sn : Int) : List Int := beB4 1 ++ (beB4 20 ++ (beB2 lt ++ (beB2 0 ++ (beB4 sn ++ beB4 20))))
def idY (lt sn : Int) : List Int := [lt / 256, lt % 256, 0, 0, sn / 16777216, sn / 65536 % 256, sn / 256 % 256, sn % 256, 0, 0, 0, 20]
theorem idbB_eq (lt sn : Int) : idbB lt sn = [0, 0, 0, 1, 0, 0, 0, 20, lt / 256, lt % 256, 0, 0, sn / 16777216, sn / 65536 % 256, sn / 256 % 256, sn % 256, 0, 0, 0, 20] := rfl
/-- The Simple Packet Block. -/
def spY (wl : Int) (data : List Int) (tot : Int) : List Int := beB4 wl ++ (data ++ beB4 tot)
def spb (wl : Int) (data : List Int) (tot : Int) : List Int := beB4 3 ++ (beB4 tot ++ spY wl data tot)
theorem spY_len (wl tot : Int) (data : List Int) : (spY wl data tot).length = 8 + data.length := by simp [spY, beB4]; omega
theorem spb_len (wl tot : Int) (data : List Int) : (spb wl data tot).length = 16 + data.length := by simp [spb, spY, beB4]; omega
theorem spY_data {wl tot : Int} {data : List Int} {j : Nat} {v : Int} (h : data[j]? = some v) : (spY wl data tot)[4 + j]? = some v := by
  have hj := (List.getElem?_eq_some_iff.1 h).1
  show (([_, _, _, _] : List Int) ++ (data ++ beB4 tot))[4 + j]? = some v
  rw [List.getElem?_append_right (by simp), List.getElem?_append_left (by simpa using hj)]
  simpa using h

theorem block_idbB (w : World) (Pb R g n cap i : Nat) (cnt : Int) (ifv bufv : Value) (S tl : List Int) (B : Nat) (hst : St w Pb R g n cap i 48 cnt ifv bufv S B) (lt sn : Int) (hS : S.drop i = idbB lt sn ++ tl) :
    Calls Ybaf.prog 11 #[.pointer (some ⟨Pb, 0, none⟩)] w fun e w' => ∃ G cp rest, e = .returned (.tuple #[.int .u32 1, .slice (some ⟨G, 0, none⟩) 8 cp, .nilIface]) ∧
      St w' Pb R g n cap (i + 20) 48 cnt ifv (.slice (some ⟨G, 0, none⟩) 12 cp) S B ∧ w'.heap[G]? = some (.cells (bs (idY lt sn) ++ rest).toArray 5 (0, 0)) ∧ 12 ≤ cp ∧ cp ≤ maxLen ∧ (bufv.ownBlock = some G ∨ w.heap.size ≤ G) ∧ Upd (Pb :: R :: bufv.ownBlock.toList) w w' := by
  have hl := drop_len hst.len hS (by rw [idbB_eq]; simp)
  have hlen : (idbB lt sn).length = 20 := rfl
  have h8 : (S.drop i).take 8 = [0, 0, 0, 1, 0, 0, 0, 20] := by rw [hS, idbB_eq]; rfl
  have h12 : (S.drop (i + 8)).take (8 + 4) = idY lt sn := by rw [drop_more hS (by omega), idbB_eq]; rfl
  have h4 : (S.drop (i + 8 + 8)).take 4 = [0, 0, 0, 20] := by rw [Nat.add_assoc, drop_more hS (by omega), idbB_eq]; rfl
  refine (block_be w Pb R g n cap i cnt ifv bufv S B hst 0 0 0 1 0 0 0 20 h8 (by omega) ⟨by omega, by omega⟩ ⟨by omega, by omega⟩ ⟨by omega, by omega⟩ ⟨by omega, by omega⟩ ⟨by omega, by omega⟩ ⟨by omega, by omega⟩ ⟨by omega, by omega⟩ ⟨by omega, by omega⟩ (by decide) 8 (by decide) (by decide) (by omega) 0 0 0 20 h4 ⟨by omega, by omega⟩ ⟨by omega, by omega⟩ ⟨by omega, by omega⟩ ⟨by omega, by omega⟩ (by decide)).mono ?_
  rintro e w' ⟨G, cp, rest, he, h1, h2, h3, h4, h5, h6⟩
  rw [h12] at h2
  exact ⟨G, cp, rest, he, h1, h2, h3, h4, h5, h6⟩

theorem block_spb (w : World) (Pb R g n cap i : Nat) (cnt : Int) (ifv bufv : Value) (S tl : List Int) (B : Nat) (hst : St w Pb R g n cap i 48 cnt ifv bufv S B) (wl tot : Int) (data : List Int) (pd : Nat) (hpd : data.length = pd) (hpm : pd % 4 = 0) (htot : tot = 16 + (pd : Int)) (hpl : pd ≤ 2000)
    (hS : S.drop i = spb wl data tot ++ tl) :
    Calls Ybaf.prog 11 #[.pointer (some ⟨Pb, 0, none⟩)] w fun e w' => ∃ G cp rest, e = .returned (.tuple #[.int .u32 3, .slice (some ⟨G, 0, none⟩) (4 + pd) cp, .nilIface]) ∧
      St w' Pb R g n cap (i + (4 + pd + 12)) 48 cnt ifv (.slice (some ⟨G, 0, none⟩) (4 + pd + 4) cp) S B ∧ w'.heap[G]? = some (.cells (bs (spY wl data tot) ++ rest).toArray 5 (0, 0)) ∧ 4 + pd + 4 ≤ cp ∧ cp ≤ maxLen ∧ (bufv.ownBlock = some G ∨ w.heap.size ≤ G) ∧ Upd (Pb :: R :: bufv.ownBlock.toList) w w' := by
  have hl := drop_len hst.len hS (by rw [spb_len]; omega)
  have hlen := spb_len wl tot data
  have ht0 : 0 ≤ tot := by omega
  have ht1 : tot < 4294967296 := by omega
  have hb := leB4_byte ht0 ht1
  have h8 : (S.drop i).take 8 = [0, 0, 0, 3, tot / 16777216, tot / 65536 % 256, tot / 256 % 256, tot % 256] := by rw [hS]; rfl
  have e8 : (spb wl data tot).drop 8 = spY wl data tot := rfl
  have h12 : (S.drop (i + 8)).take (4 + pd + 4) = spY wl data tot := by
    rw [drop_more hS (by omega), e8, List.take_append_of_le_length (by rw [spY_len]; omega), List.take_of_length_le (by rw [spY_len]; omega)]
  have h4 : (S.drop (i + 8 + (4 + pd))).take 4 = [tot / 16777216, tot / 65536 % 256, tot / 256 % 256, tot % 256] := by
    rw [Nat.add_assoc, drop_more hS (by omega)]
    have : (spb wl data tot).drop (8 + (4 + pd)) = beB4 tot := by
      rw [← List.drop_drop, e8]
      have : (spY wl data tot).drop (4 + pd) = ((spY wl data tot).drop 4).drop pd := by rw [List.drop_drop]
      rw [this]
      have : (spY wl data tot).drop 4 = data ++ beB4 tot := rfl
      rw [this, List.drop_append_of_le_length (by omega), List.drop_of_length_le (by omega)]; rfl
    rw [this]; rfl
  refine (block_be w Pb R g n cap i cnt ifv bufv S B hst 0 0 0 3 _ _ _ _ h8 (by omega) ⟨by omega, by omega⟩ ⟨by omega, by omega⟩ ⟨by omega, by omega⟩ ⟨by omega, by omega⟩ hb.2.2.2 hb.2.2.1 hb.2.1 hb.1 (by decide) (4 + pd) (by rw [leB4_back ht0 ht1]; omega) (by omega) (by omega) _ _ _ _ h4 hb.2.2.2 hb.2.2.1 hb.2.1 hb.1 (by rw [leB4_back ht0 ht1]; omega)).mono ?_
  rintro e w' ⟨G, cp, rest, he, h1, h2, h3, h4, h5, h6⟩
  rw [h12] at h2
  exact ⟨G, cp, rest, he, h1, h2, h3, h4, h5, h6⟩

/-- The state at a round's head. -/
def NB (w wr : World) (Pb R g n cap A B : Nat) (S : List Int) (T : TypeId) (pos N2 : Nat) (ifv bufv : Value) (ni : Nat) (xs : List Value) : Prop :=
  St wr Pb R g n cap pos T 0 ifv bufv S A ∧ wr.ownsRow B 52 2 ifv ni xs ∧ wr.heap[N2]? = some (.cells pk0 42 (0, 0)) ∧ (∀ G, bufv.ownBlock = some G → B ≤ G) ∧ B ≤ wr.heap.size ∧ Below B w wr

theorem own_less {w : World} {A B : Nat} {e : TypeId} {s : Nat} {v : Value} {n : Nat} {xs : List Value} (h : w.ownsRow B e s v n xs) (hAB : A ≤ B) : w.ownsRow A e s v n xs := by
  refine ⟨h.1, ?_⟩
  rcases h.2 with h | ⟨g, cap, cur, rfl, hg, r⟩
  · exact .inl h
  · exact .inr ⟨g, cap, cur, rfl, Nat.le_trans hAB hg, r⟩

theorem nb_read {w wr w1 : World} {Pb R g n cap A B i N2 j : Nat} {S : List Int} {T : TypeId} {ifv bufv : Value} {xs : List Value} (hst : St wr Pb R g n cap i T 0 ifv bufv S A) (hif : wr.ownsRow B 52 2 ifv j xs) (hres : wr.heap[N2]? = some (.cells pk0 42 (0, 0))) (hbB : ∀ G, bufv.ownBlock = some G → B ≤ G) (hBr : B ≤ wr.heap.size) (hbel : Below B w wr)
    (hPB : B ≤ Pb) (hRB : B ≤ R) (hu : Upd (Pb :: R :: bufv.ownBlock.toList) wr w1) : w1.ownsRow B 52 2 ifv j xs ∧ w1.heap[N2]? = some (.cells pk0 42 (0, 0)) ∧ B ≤ w1.heap.size ∧ Below B w w1 := by
  have nmem : ∀ k c e, wr.heap[k]? = some (.cells c e (0, 0)) → e ≠ 40 → e ≠ 33 → e ≠ 5 → k ∉ Pb :: R :: bufv.ownBlock.toList := by
    intro k c e hk h1 h2 h3
    simp only [List.mem_cons, not_or]
    refine ⟨?_, ?_, ?_⟩
    · rintro rfl; have := hst.hP; rw [hk] at this; simp at this; exact h1 this.2
    · rintro rfl; have := hst.hR; rw [hk] at this; simp at this; exact h2 this.2
    · intro hm
      have hG : bufv.ownBlock = some k := by simpa using hm
      rcases hst.hbuf with h | ⟨G, n, cp, cur, rfl, hGc, _⟩
      · rw [h] at hG; cases hG
      · cases hG; rw [hk] at hGc; simp at hGc; exact h3 hGc.2
  refine ⟨hu.own hif fun g' hg' => ?_, hu.blk hres (nmem _ _ _ hres (by decide) (by decide) (by decide)), Nat.le_trans hBr hu.size, hbel.trans (hu.below hBr ?_)⟩
  · obtain ⟨c, hc⟩ := own_blk hif hg'
    exact nmem _ _ _ hc (by decide) (by decide) (by decide)
  · intro k hk
    simp only [List.mem_cons] at hk
    rcases hk with rfl | rfl | hk
    · exact hPB
    · exact hRB
    · exact hbB k (by simpa using hk)

theorem nb_step {w w1 w3 w6 : World} {Pb R g n cap A B i N2 : Nat} {S : List Int} {T : TypeId} {v v' bufv : Value} {lt sn : Int} {o : Obj} (hAB : A ≤ B) (hst : St w1 Pb R g n cap i T 0 v bufv S A) (hif : w1.ownsRow B 52 2 v 0 []) (hres : w1.heap[N2]? = some (.cells pk0 42 (0, 0))) (hBr : B ≤ w1.heap.size) (hbel : Below B w w1) (hPB : B ≤ Pb)
    (hbB : ∀ G, bufv.ownBlock = some G → B ≤ G) (hb3 : Below w1.heap.size w1 w3) (hown : w6.ownsRow B 52 2 v' (0 + 1) ([] ++ [.int .u16 lt, .int .u32 sn])) (hg : (w3.alloc o).grownBy w6 v.ownBlock) :
    NB w (w6.setCell ⟨Pb, 4, none⟩ v') Pb R g n cap A B S T i N2 v' bufv 1 (ifs [(lt, sn)]) := by
  have hif3 := (Upd.of_below (ks := []) hb3).own hif (by simp)
  have hst3 := hst.below hb3
  have hst6 := hst3.keep52 (own_less hif3 hAB) hg
  have hres6 := keep52 hif3 hg ((hb3.block N2 (lt_of_block hres)).trans hres) (by decide)
  have hb6 : Below B w w6 := by
    refine (hbel.trans (hb3.mono hBr)).trans ?_
    refine ((Below.refl B w3).alloc (Nat.le_trans hBr hb3.size) o).grown hg (by have := hb3.size; simp; omega) fun k hk => (hif3.lt k hk).1
  refine ⟨hst6.setif v', ?_, (set_blk_ne ?_).trans hres6, hbB, ?_, hb6.setCell (p := ⟨Pb, 4, none⟩) hPB _⟩
  · refine own_move hown fun g' c hg' hc => set_blk_ne ?_
    rintro rfl
    have := hst6.hP; rw [hc] at this; simp at this
  · rintro rfl; have := hst6.hP; rw [hres6] at this; simp at this
  · have := hg.size
    have h3 := hb3.size
    simp [World.setCell] at this ⊢
    omega

theorem idb_u16B (w : World) (G cp : Nat) (lt sn : Int) (rest : List Value) (h0 : 0 ≤ lt) (h1 : lt < 65536) (hG : w.heap[G]? = some (.cells (bs (idY lt sn) ++ rest).toArray 5 (0, 0))) :
    Calls Ybaf.prog 52 #[.agg #[], .slice (some ⟨G, 0, none⟩) 8 cp] w fun e w' => e = .returned (.int .u16 lt) ∧ Below w.heap.size w w' := by
  have := be_u16 G 0 8 cp (lt / 256) (lt % 256) w (by omega) ⟨by omega, by omega⟩ ⟨by omega, by omega⟩ (idb_cells hG rfl) (idb_cells hG rfl)
  rwa [le2_back h0 h1] at this
theorem idb_u32B (w : World) (G c : Nat) (lt sn : Int) (rest : List Value) (h0 : 0 ≤ sn) (h1 : sn < 256) (hG : w.heap[G]? = some (.cells (bs (idY lt sn) ++ rest).toArray 5 (0, 0))) :
    Calls Ybaf.prog 20 #[.agg #[], .slice (some ⟨G, 4, none⟩) 4 c] w fun e w' => e = .returned (.int .u32 sn) ∧ Below w.heap.size w w' := by
  have hb := leB4_byte (x := sn) h0 (by omega)
  have := be_u32 G 4 4 c _ _ _ _ w (by omega) hb.2.2.2 hb.2.2.1 hb.2.1 hb.1 (idb_cells hG rfl) (idb_cells hG rfl) (idb_cells hG rfl) (idb_cells hG rfl)
  rwa [leB4_back h0 (by omega)] at this
end Go.Proofs.YbulkoboFmt
