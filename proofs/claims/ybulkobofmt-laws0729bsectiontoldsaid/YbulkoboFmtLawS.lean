import Derived.Test.YbulkoboFmtLawKit
import Derived.Test.YbulkoboFmtNextBW
import Derived.ProofKit
import Derived.OpenShut
namespace Go.Proofs.YbulkoboFmt
open Go.RowKit
set_option linter.unusedSimpArgs false
set_option linter.unusedVariables false

theorem app32B {w w1 : World} {sv : Value} {n : Nat} {xs : List Int} {v : Int} (h : OW w w1 sv n xs) (h0 : 0 ≤ v) (h1 : v < 4294967296) (hn : n ≤ 1000000) :
    Calls Ybaf.prog 8 #[.agg #[], sv, .int .u32 v] w1 fun e w' => ∃ sv', e = .returned sv' ∧ OW w w' sv' (n + 4) (xs ++ beB4 v) := by
  refine (be_app32 w.heap.size sv n xs v w1 h0 h1 h.1 hn h.2.size).mono ?_
  rintro e w' ⟨sv', rfl, ho, hg⟩
  exact ⟨sv', rfl, h.grow ho hg⟩
theorem app16B {w w1 : World} {sv : Value} {n : Nat} {xs : List Int} {v : Int} (h : OW w w1 sv n xs) (h0 : 0 ≤ v) (h1 : v < 65536) (hn : n ≤ 1000000) :
    Calls Ybaf.prog 9 #[.agg #[], sv, .int .u16 v] w1 fun e w' => ∃ sv', e = .returned sv' ∧ OW w w' sv' (n + 2) (xs ++ beB2 v) := by
  refine (be_app16 w.heap.size sv n xs v w1 h0 h1 h.1 hn h.2.size).mono ?_
  rintro e w' ⟨sv', rfl, ho, hg⟩
  exact ⟨sv', rfl, h.grow ho hg⟩
theorem app64B {w w1 : World} {sv : Value} {n : Nat} {xs : List Int} (h : OW w w1 sv n xs) (hn : n ≤ 1000000) :
    Calls Ybaf.prog 10 #[.agg #[], sv, .int .u64 0] w1 fun e w' => ∃ sv', e = .returned sv' ∧ OW w w' sv' (n + 8) (xs ++ beB8) := by
  refine (be_app64 w.heap.size sv n xs w1 h.1 hn h.2.size).mono ?_
  rintro e w' ⟨sv', rfl, ho, hg⟩
  exact ⟨sv', rfl, h.grow ho hg⟩
/-- The last append, the body's block kept. -/
theorem app32K {w w1 : World} {sv : Value} {n Nb : Nat} {xs : List Int} {v : Int} {o : Obj} (h : OW w w1 sv n xs) (h0 : 0 ≤ v) (h1 : v < 4294967296) (hn : n ≤ 1000000) (hb : w1.heap[Nb]? = some o) (hne : some Nb ≠ sv.ownBlock) :
    Calls Ybaf.prog 8 #[.agg #[], sv, .int .u32 v] w1 fun e w' => ∃ sv', e = .returned sv' ∧ OW w w' sv' (n + 4) (xs ++ beB4 v) ∧ w'.heap[Nb]? = some o := by
  refine (be_app32 w.heap.size sv n xs v w1 h0 h1 h.1 hn h.2.size).mono ?_
  rintro e w' ⟨sv', rfl, ho, hg⟩
  exact ⟨sv', rfl, h.grow ho hg, (hg.block Nb (lt_of_block hb) hne).trans hb⟩
theorem own_ne {w : World} {B N Nb : Nat} {v : Value} {xs : List Value} {c : Array Value} {e : TypeId} (h : w.ownsRow B 5 1 v N xs) (hb : w.heap[Nb]? = some (.cells c e (0, 0))) (hs : c.size < N) : some Nb ≠ v.ownBlock := by
  intro hv
  replace hv := hv.symm
  rcases h.2 with ⟨rfl, _⟩ | ⟨g', cap', cur, rfl, hB, hh, h1, h2, h3, h4⟩
  · cases hv
  · cases hv
    rw [hh] at hb
    simp at hb
    obtain ⟨rfl, _⟩ := hb
    omega

theorem zeros_blk {w : World} {Nb pd : Nat} (h : w.ownsRow Nb 5 1 (.slice (some ⟨Nb, 0, none⟩) pd pd) pd (madeCells #[Value.int .u8 0] pd).toList) : w.heap[Nb]? = some (.cells (bs (List.replicate pd 0)).toArray 5 (0, 0)) := by
  rcases h.2 with ⟨h', _⟩ | ⟨g', cap', cur, h', hB, hh, h1, h2, h3, h4⟩
  · cases h'
  · cases h'
    rw [hh]
    rw [toList_madeCells_one, List.take_of_length_le (by simp; omega)] at h4
    have : cur = (List.replicate pd (Value.int .u8 0)).toArray := by rw [← h4]
    rw [this]; simp [bs]
theorem splice_pad {D P : List Int} {pd len3 : Nat} (hP : P = D ++ List.replicate (pd - len3) 0) (hl : D.length = len3) (h : len3 ≤ pd) : splice (bs (List.replicate pd 0)) 0 (bs D) = bs P := by
  subst hP
  simp [splice, bs, hl]
theorem OW.belowK {w w1 w2 : World} {sv : Value} {n : Nat} {xs : List Int} (h : OW w w1 sv n xs) (hb : Below w1.heap.size w1 w2) : OW w w2 sv n xs :=
  ⟨(Upd.of_below (ks := []) hb).own h.1 (by simp), h.2.trans (hb.mono h.2.size)⟩
theorem body_cell {w : World} {Nb : Nat} {P : List Int} (h : w.heap[Nb]? = some (.cells (bs P).toArray 5 (0, 0))) {j : Nat} {v : Int} (hj : P[j]? = some v) : w.cell? ⟨Nb, j, none⟩ = some (.int .u8 v) :=
  cell_blk h (by simp [bs, hj])

/-- The reader is laid: its state is that of 'next'. -/
theorem sec_start {w w1 : World} {g n cp : Nat} {S : List Int} (h : OW w w1 (.slice (some ⟨g, 0, none⟩) n cp) n S) (hn : n ≤ 1000000) (hcp : n ≤ cp) (hcm : cp ≤ maxLen) (W : World)
    (hW : W = ((w1.alloc (.cells #[.slice (some ⟨g, 0, none⟩) n cp, .int .i64 0] 33)).alloc (.cells #[.int .u16 65535, .int .u32 1] 52)).alloc (.cells #[.iface 31 (.pointer (some ⟨w1.heap.size, 0, none⟩)), .iface 26 (.agg #[]), .bool false, .int .i64 0, .slice (some ⟨w1.heap.size + 1, 0, none⟩) 1 1, .slice none 0 0] 40)) :
    St W (w1.heap.size + 2) w1.heap.size g n cp 0 26 0 (.slice (some ⟨w1.heap.size + 1, 0, none⟩) 1 1) (.slice none 0 0) S w.heap.size ∧ W.ownsRow w1.heap.size 52 2 (.slice (some ⟨w1.heap.size + 1, 0, none⟩) 1 1) 1 [.int .u16 65535, .int .u32 1] ∧ Below w1.heap.size w1 W := by
  subst hW
  have hs := h.2.size
  have e2 : ((w1.alloc (.cells #[.slice (some ⟨g, 0, none⟩) n cp, .int .i64 0] 33)).alloc (.cells #[.int .u16 65535, .int .u32 1] 52)).heap.size = w1.heap.size + 2 := by simp
  have e1 : (w1.alloc (.cells #[.slice (some ⟨g, 0, none⟩) n cp, .int .i64 0] 33)).heap.size = w1.heap.size + 1 := by simp
  refine ⟨⟨?_, ?_, ((h.1.alloc _).alloc _).alloc _, .inl rfl, by simp [Value.ownBlock], hn, hcp, hcm⟩, ?_, (((Below.refl _ w1).alloc (Nat.le_refl _) _).alloc (by simp) _).alloc (by simp; omega) _⟩
  · have := heap_alloc_new ((w1.alloc (.cells #[.slice (some ⟨g, 0, none⟩) n cp, .int .i64 0] 33)).alloc (.cells #[.int .u16 65535, .int .u32 1] 52)) (.cells #[.iface 31 (.pointer (some ⟨w1.heap.size, 0, none⟩)), .iface 26 (.agg #[]), .bool false, .int .i64 0, .slice (some ⟨w1.heap.size + 1, 0, none⟩) 1 1, .slice none 0 0] 40)
    rwa [e2] at this
  · rw [Below.heap_alloc _ _ _ (by rw [e2]; omega), Below.heap_alloc _ _ _ (by rw [e1]; omega)]
    exact heap_alloc_new w1 _
  · refine ⟨rfl, .inr ⟨w1.heap.size + 1, 1, #[.int .u16 65535, .int .u32 1], rfl, by omega, ?_, by omega, by unfold maxLen; omega, rfl, rfl⟩⟩
    rw [Below.heap_alloc _ _ _ (by rw [e2]; omega)]
    have := heap_alloc_new (w1.alloc (.cells #[.slice (some ⟨g, 0, none⟩) n cp, .int .i64 0] 33)) (.cells #[.int .u16 65535, .int .u32 1] 52)
    rwa [e1] at this

theorem sec_next {w w1 : World} {g pd wq c cp : Nat} {lt sn : Int} {P : List Int} (h : OW w w1 (.slice (some ⟨g, 0, none⟩) (60 + pd + 4) cp) (60 + pd + 4) (shb ++ (idbB lt sn ++ spb wq P (12 + (pd : Int) + 4)))) (hcp : 60 + pd + 4 ≤ cp) (hcm : cp ≤ maxLen)
    (hl0 : 0 ≤ lt) (hl1 : lt < 65536) (hs0 : 0 ≤ sn) (hs1 : sn < 256) (hPl : P.length = pd) (hpd2 : pd ≤ 1030) (hpd4 : pd % 4 = 0) (hwq : wq < pd + 5)
    (hc : (sn = 0 ∧ c = wq) ∨ (0 < sn ∧ (sn < wq ∧ (c : Int) = sn)) ∨ (0 < sn ∧ (¬ sn < wq ∧ c = wq))) (W : World)
    (hW : W = ((w1.alloc (.cells #[.slice (some ⟨g, 0, none⟩) (60 + pd + 4) cp, .int .i64 0] 33)).alloc (.cells #[.int .u16 65535, .int .u32 1] 52)).alloc (.cells #[.iface 31 (.pointer (some ⟨w1.heap.size, 0, none⟩)), .iface 26 (.agg #[]), .bool false, .int .i64 0, .slice (some ⟨w1.heap.size + 1, 0, none⟩) 1 1, .slice none 0 0] 40)) :
    Calls Ybaf.prog 7 #[.pointer (some ⟨w1.heap.size + 2, 0, none⟩)] W fun e w' => NBP W w' (w1.heap.size + 2) w1.heap.size pd c wq lt P e := by
  obtain ⟨hst, hif, hb⟩ := sec_start h (by omega) hcp hcm W hW
  have hs := h.2.size
  exact next_be W (w1.heap.size + 2) w1.heap.size g _ cp w.heap.size w1.heap.size (w1.heap.size + 1) _ hs (by omega) (by omega) hb.size hst hif lt sn hl0 hl1 hs0 hs1 pd wq c (12 + (pd : Int) + 4) P rfl hPl hpd4 (by omega) (by omega) (by omega) (hide hc)

set_option maxRecDepth 100000 in
set_option maxHeartbeats 4000000 in
theorem sec_law (a0 a1 a2 : Int) (a3 : Option Addr) (len3 cap3 : Nat) (z3 : List Int) (w : World)
    (hr3 : IsRow .u8 w a3 len3 cap3 z3) (h00 : 0 ≤ a0) (h01 : a0 ≤ 65535) (h10 : 0 ≤ a1) (h11 : a1 ≤ 255) (h20 : 0 ≤ a2) (h21 : a2 ≤ 65535) :
    Calls Ybaf.prog 4 #[.int .u16 a0, .int .u8 a1, .int .u16 a2, .slice a3 len3 cap3] w fun e w' => e = .returned (.bool true) ∧ Below w.heap.size w w' := by
  obtain ⟨D, hl3, hm3, hw3, hc3⟩ := row_list hr3
  have hm3' : (len3 : Int) ≤ 9223372036854775807 := by unfold maxLen at hm3; omega
  clear hr3 hm3
  by_cases hg3 : len3 ≤ 1024
  · have hi3 : ¬ (1024 : Int) < (len3 : Int) := by omega
    obtain ⟨pd, hpd⟩ : ∃ pd : Nat, ((len3 : Int) + 3) / 4 * 4 = pd := ⟨(((len3 : Int) + 3) / 4 * 4).toNat, by omega⟩
    have hpd1 : len3 ≤ pd := by omega
    have hpd2 : pd ≤ 1030 := by omega
    have hpd2' : (pd : Int) ≤ 1030 := by omega
    have hpd4 : pd % 4 = 0 := by omega
    have hwp0 : 0 ≤ a2 % ((pd : Int) + 5) := Int.emod_nonneg _ (by omega)
    have hwp1 : a2 % ((pd : Int) + 5) < (pd : Int) + 5 := Int.emod_lt_of_pos _ (by omega)
    obtain ⟨wq, hwq⟩ : ∃ wq : Nat, a2 % ((pd : Int) + 5) = wq := ⟨(a2 % ((pd : Int) + 5)).toNat, by omega⟩
    have hwq5 : wq < pd + 5 := by omega
    have hwq6 : (wq : Int) ≤ 1040 := by omega
    have hp5 : ¬ (pd : Int) + 5 = 0 := by omega
    obtain ⟨c, hc⟩ : ∃ c : Nat, Hid ((a1 = 0 ∧ c = wq) ∨ (0 < a1 ∧ (a1 < wq ∧ (c : Int) = a1)) ∨ (0 < a1 ∧ (¬ a1 < wq ∧ c = wq))) := by
      by_cases h1 : a1 = 0
      · exact ⟨wq, .inl ⟨h1, rfl⟩⟩
      · by_cases h2 : a1 < wq
        · exact ⟨a1.toNat, .inr (.inl ⟨by omega, h2, by omega⟩)⟩
        · exact ⟨wq, .inr (.inr ⟨by omega, h2, rfl⟩)⟩
    clear hwp0 hwp1
    have hPl : (D ++ List.replicate (pd - len3) 0).length = pd := by simp [hl3]; omega
    obtain ⟨P, hP⟩ : ∃ P, P = D ++ List.replicate (pd - len3) 0 := ⟨_, rfl⟩
    rw [← hP] at hPl
    replace hP := hide hP; replace hPl := hide hPl
    replace hw3 := hide hw3; replace hc3 := hide hc3; replace hl3 := hide hl3
    obtain ⟨i0, hi, hz0, hz1, hz2⟩ := info_parts Ybaf.info5
    have ho := hide (OW.nil w)
    go_enter Ybaf.func4, Ybaf.ntmps4
    go_wp2_with (first | (go_at_call 8; refine (app32B (by first | exact ho.out | exact ho.out.alloc _) (by omega) (by omega) (by omega)).mono ?_; clear ho; rintro e w1 ⟨sv1, rfl, ho⟩; replace ho := hide ho) | (go_at_call 9; refine (app16B ho.out (by omega) (by omega) (by omega)).mono ?_; clear ho; rintro e w1 ⟨sv1, rfl, ho⟩; replace ho := hide ho) | (go_at_call 10; refine (app64B ho.out (by omega)).mono ?_; clear ho; rintro e w1 ⟨sv1, rfl, ho⟩; replace ho := hide ho) | (at_make; refine wpList_make_full _ rfl _ _ 23 rfl w1.heap.size 5 i0 (.int .u8 0) 1 Ybaf.underlying23 hi hz0 hz1 .i64 .i64 pd pd pd rfl rfl rfl rfl (by rw [hz2]; omega) (by unfold maxLen; omega) (Nat.le_refl _) ?_))
    intro w2 hown2 hg2
    have hzb := hide (zeros_blk hown2)
    have hb2 : Hid (Below w1.heap.size w1 w2) := (Below.refl _ w1).grown hg2 (Nat.le_refl _) (by simp)
    clear hown2 hg2 hpd hwq
    obtain ⟨X, hX, hoX⟩ : ∃ X, Hid (∀ P, X ++ (P ++ beB4 (12 + (pd : Int) + 4)) = shb ++ (idbB a0 a1 ++ spb wq P (12 + (pd : Int) + 4))) ∧ Hid (OW w w1 sv1 60 X) := ⟨_, fun P => by simp [shb, idbB, spb, spY, beB4, beB2, beB8], ho⟩
    clear ho
    have hpos : Hid (0 < (bs D).length → some (⟨w1.heap.size, 0, none⟩ : Addr) = some ⟨w1.heap.size, 0, none⟩ ∧ ∃ ad, a3 = some ad ∧ ∀ j v, (bs D)[j]? = some v → w2.cell? (ad.add j) = some v) := by
      intro h0
      rw [bs_length] at h0
      obtain ⟨b, off, e3, _⟩ := hc3.out 0 D[0] (List.getElem?_eq_getElem h0)
      refine ⟨rfl, _, e3, fun j v hj => ?_⟩
      obtain ⟨x, hx, rfl⟩ : ∃ x, D[j]? = some x ∧ v = .int .u8 x := by
        simp [bs] at hj
        obtain ⟨x, hx, rfl⟩ := hj
        exact ⟨x, hx, rfl⟩
      obtain ⟨b', off', e3', hcell⟩ := hc3.out j x hx
      rw [e3] at e3'
      cases e3'
      rw [Addr.add_lit]
      exact hcell w2 (hoX.out.2.trans (hb2.out.mono hoX.out.2.size))
    go_wp2_with (refine wpList_copy_splice rfl _ _ 23 23 rfl 5 Ybaf.underlying23 Ybaf.size5 (some ⟨w1.heap.size, 0, none⟩) a3 pd pd len3 cap3 rfl rfl w1.heap.size 0 (bs (List.replicate pd 0)) 5 hzb.out (bs D) ?c1 hpos.out ?c2 (bs_one _) w1.heap.size w1 hb2.out (Nat.le_refl _) ?_)
    case c1 => first | rw [bs_length, hl3.out] | (rw [bs_length, hl3.out]; exact (Nat.min_eq_left hpd1).symm)
    case c2 => rw [bs_length, bs_length, hl3.out]; simp; omega
    intro w3 hbk hb3
    rw [splice_pad hP.out hl3.out hpd1] at hbk
    have ho3 := hide (hoX.out.belowK hb3)
    have hne3 : Hid (some w1.heap.size ≠ sv1.ownBlock) := by
      intro h
      have := (hoX.out.1.lt _ h.symm).2
      omega
    replace hb3 := hide hb3
    clear hpos hzb hb2 hoX
    go_wp2_with (at_builtin; refine wpList_append_own _ rfl _ _ 23 rfl w.heap.size 5 i0 (.int .u8 0) 1 1 Ybaf.underlying23 hi hz0 hz1 hz2 rfl (by decide) _ 60 (bs X) rfl ho3.out.1 ⟨w1.heap.size, 0, none⟩ pd pd (bs P) rfl ?h1 ?h2 (bs_one _) ?h3 ?h4 ?h5 ?_)
    case h1 => rw [bs_length, hPl.out]; omega
    case h2 => intro j u hj; rw [Addr.add_lit, Nat.zero_add]; exact cell_blk hbk.out (by simpa using hj)
    case h3 => unfold maxLen; omega
    case h4 => omega
    case h5 => exact ho3.out.2.size
    intro sv4 w4 hown4 hg4 _
    have ho4 := hide (ho3.out.grow (xs' := X ++ P) (by rw [bs_append]; exact hown4) hg4)
    have hbk4 := hide ((hg4.block _ (lt_of_block hbk.out) hne3.out).trans hbk.out)
    have hne4 := hide (own_ne ho4.out.1 hbk4.out (by simp [bs_length, hPl.out]))
    clear hown4 hg4 ho3 hbk hne3 hb3
    go_wp2_with (go_at_call 8; refine (app32K ho4.out (by omega) (by omega) (by omega) hbk4.out hne4.out).mono ?_; rintro e w5 ⟨sv5, rfl, ho, hbk5⟩; obtain ⟨g1, cp1, rfl, hn1, hc1⟩ := ho.some (by omega); rw [List.append_assoc, hX.out P] at ho; replace ho := hide ho; replace hn1 := hide hn1; replace hc1 := hide hc1; replace hbk5 := hide hbk5)
    generalize hWe : (World.alloc _ _) = W
    have hbW := hide ((sec_start ho.out (by omega) hn1.out hc1.out W hWe.symm).2.2)
    have hcall := sec_next ho.out hn1.out hc1.out h00 (by omega) h10 (by omega) hPl.out hpd2 hpd4 hwq5 (c := c) (by have := hc.out; omega) W hWe.symm
    refine hcall.mono ?_
    rintro e w6 (⟨hcd, p, rfl, hbel⟩ | ⟨hcd, G, cpG, gi, ci, rfl, hPb, hdat, hbel⟩)
    · have hbel6 := hide ((ho.out.2.trans (hbW.out.mono ho.out.2.size)).trans (hbel.mono ho.out.2.size))
      have hcd' : (pd : Int) < (c : Int) := by omega
      clear hcall hWe hbW hbel hn1 hc1 hX hbk4 hbk5 ho4 hne4 ho
      rcases hc.out with ⟨rfl, rfl⟩ | ⟨ha, hb, rfl⟩ | ⟨ha, hb, rfl⟩
      · unfold pk0
        go_wp2
        go_ret
        exact ⟨by simp, hbel6.out.alloc hbel6.out.size _⟩
      · unfold pk0
        go_wp2
        go_ret
        exact ⟨by simp, hbel6.out.alloc hbel6.out.size _⟩
      · unfold pk0
        go_wp2
        go_ret
        exact ⟨by simp, hbel6.out.alloc hbel6.out.size _⟩
    · have hbel6 := hide ((ho.out.2.trans (hbW.out.mono ho.out.2.size)).trans (hbel.mono ho.out.2.size))
      have hcd' : ¬ (pd : Int) < (c : Int) := by omega
      have hbk6 := hide ((hbel.block _ (lt_of_block hbk5.out)).trans ((hbW.out.block _ (lt_of_block hbk5.out)).trans hbk5.out))
      have hPl6 : w5.heap.size + 1 + 1 < w6.heap.size := World.block_lt_of_cell? w6 _ hPb
      have hc9 : (c : Int) ≤ 1030 := by omega
      clear hcall hWe hbW hbel hn1 hc1 hX hbk4 hbk5 ho4 hne4 ho
      replace hdat := hide hdat
      replace hcd := hide hcd
      rcases hc.out with ⟨rfl, rfl⟩ | ⟨ha, hb, rfl⟩ | ⟨ha, hb, rfl⟩
      · go_wp2_with fail
        generalize hWe : (World.alloc w6 _) = w7
        have hb7 : Below w6.heap.size w6 w7 := by rw [← hWe]; exact (Below.refl _ w6).alloc (Nat.le_refl _) _
        have hN7 : w7.heap[w6.heap.size]? = some (.cells #[.int .i64 1, .int .u16 a0, .slice (some ⟨G, 4, none⟩) c (cpG - 4), .int .u32 c] 42 (0, 0)) := by rw [← hWe]; exact heap_alloc_new w6 _
        have e2 : w7.cell? ⟨w6.heap.size, 2, none⟩ = some (.slice (some ⟨G, 4, none⟩) c (cpG - 4)) := cell_blk hN7 rfl
        have hG7 := hide (fun i v (h : P[i]? = some v) => (hb7.cell (p := ⟨G, 4 + i, none⟩) (World.block_lt_of_cell? w6 _ (hdat.out i v h))).trans (hdat.out i v h))
        have hB7 := hide (fun i v (h : P[i]? = some v) => body_cell ((hb7.block _ (lt_of_block hbk6.out)).trans hbk6.out) h)
        have hbf := hide (hbel6.out.trans (hb7.mono hbel6.out.size))
        clear hb7 hN7 hWe hdat hbk6 hbel6 hPb
        go_loopw [20] (fun i wr => ∃ i' n : Nat, i' ≤ c ∧ i = .int .i64 (i' : Int) ∧ wr = w7.drewN n) (fun i _ => c - (intOf i).toNat)
        case atStart => exact ⟨0, 0, by omega, rfl, rfl⟩
        case round =>
          obtain ⟨i', n, hi', rfl, rfl⟩ := hrel
          by_cases hil : i' < c
          · have hil' : (i' : Int) < (c : Int) := by omega
            have hilp : (i' : Int) < (pd : Int) := by omega
            obtain ⟨x, hx⟩ : ∃ x, P[i']? = some x := ⟨_, List.getElem?_eq_getElem (by rw [hPl.out]; omega)⟩
            have hcl := hB7.out i' x hx
            have hcG := hG7.out i' x hx
            replace hx := hide hx
            go_wp2_with fail
            go_quiet (fail)
            go_wp2_with fail
            exact ⟨⟨i' + 1, n + nq, by omega, by simp, by simp⟩, by simp [intOf]; omega⟩
          · have hil' : ¬ (i' : Int) < (c : Int) := by omega
            go_wp2
            go_ret
            exact ⟨rfl, ⟨hbf.out.os, hbf.out.tape, hbf.out.output, hbf.out.size, hbf.out.block⟩⟩
      · go_wp2_with fail
        generalize hWe : (World.alloc w6 _) = w7
        have hb7 : Below w6.heap.size w6 w7 := by rw [← hWe]; exact (Below.refl _ w6).alloc (Nat.le_refl _) _
        have hN7 : w7.heap[w6.heap.size]? = some (.cells #[.int .i64 1, .int .u16 a0, .slice (some ⟨G, 4, none⟩) c (cpG - 4), .int .u32 wq] 42 (0, 0)) := by rw [← hWe]; exact heap_alloc_new w6 _
        have e2 : w7.cell? ⟨w6.heap.size, 2, none⟩ = some (.slice (some ⟨G, 4, none⟩) c (cpG - 4)) := cell_blk hN7 rfl
        have hG7 := hide (fun i v (h : P[i]? = some v) => (hb7.cell (p := ⟨G, 4 + i, none⟩) (World.block_lt_of_cell? w6 _ (hdat.out i v h))).trans (hdat.out i v h))
        have hB7 := hide (fun i v (h : P[i]? = some v) => body_cell ((hb7.block _ (lt_of_block hbk6.out)).trans hbk6.out) h)
        have hbf := hide (hbel6.out.trans (hb7.mono hbel6.out.size))
        clear hb7 hN7 hWe hdat hbk6 hbel6 hPb
        go_loopw [20] (fun i wr => ∃ i' n : Nat, i' ≤ c ∧ i = .int .i64 (i' : Int) ∧ wr = w7.drewN n) (fun i _ => c - (intOf i).toNat)
        case atStart => exact ⟨0, 0, by omega, rfl, rfl⟩
        case round =>
          obtain ⟨i', n, hi', rfl, rfl⟩ := hrel
          by_cases hil : i' < c
          · have hil' : (i' : Int) < (c : Int) := by omega
            have hilp : (i' : Int) < (pd : Int) := by omega
            obtain ⟨x, hx⟩ : ∃ x, P[i']? = some x := ⟨_, List.getElem?_eq_getElem (by rw [hPl.out]; omega)⟩
            have hcl := hB7.out i' x hx
            have hcG := hG7.out i' x hx
            replace hx := hide hx
            go_wp2_with fail
            go_quiet (fail)
            go_wp2_with fail
            exact ⟨⟨i' + 1, n + nq, by omega, by simp, by simp⟩, by simp [intOf]; omega⟩
          · have hil' : ¬ (i' : Int) < (c : Int) := by omega
            go_wp2
            go_ret
            exact ⟨rfl, ⟨hbf.out.os, hbf.out.tape, hbf.out.output, hbf.out.size, hbf.out.block⟩⟩
      · go_wp2_with fail
        generalize hWe : (World.alloc w6 _) = w7
        have hb7 : Below w6.heap.size w6 w7 := by rw [← hWe]; exact (Below.refl _ w6).alloc (Nat.le_refl _) _
        have hN7 : w7.heap[w6.heap.size]? = some (.cells #[.int .i64 1, .int .u16 a0, .slice (some ⟨G, 4, none⟩) c (cpG - 4), .int .u32 c] 42 (0, 0)) := by rw [← hWe]; exact heap_alloc_new w6 _
        have e2 : w7.cell? ⟨w6.heap.size, 2, none⟩ = some (.slice (some ⟨G, 4, none⟩) c (cpG - 4)) := cell_blk hN7 rfl
        have hG7 := hide (fun i v (h : P[i]? = some v) => (hb7.cell (p := ⟨G, 4 + i, none⟩) (World.block_lt_of_cell? w6 _ (hdat.out i v h))).trans (hdat.out i v h))
        have hB7 := hide (fun i v (h : P[i]? = some v) => body_cell ((hb7.block _ (lt_of_block hbk6.out)).trans hbk6.out) h)
        have hbf := hide (hbel6.out.trans (hb7.mono hbel6.out.size))
        clear hb7 hN7 hWe hdat hbk6 hbel6 hPb
        go_loopw [20] (fun i wr => ∃ i' n : Nat, i' ≤ c ∧ i = .int .i64 (i' : Int) ∧ wr = w7.drewN n) (fun i _ => c - (intOf i).toNat)
        case atStart => exact ⟨0, 0, by omega, rfl, rfl⟩
        case round =>
          obtain ⟨i', n, hi', rfl, rfl⟩ := hrel
          by_cases hil : i' < c
          · have hil' : (i' : Int) < (c : Int) := by omega
            have hilp : (i' : Int) < (pd : Int) := by omega
            obtain ⟨x, hx⟩ : ∃ x, P[i']? = some x := ⟨_, List.getElem?_eq_getElem (by rw [hPl.out]; omega)⟩
            have hcl := hB7.out i' x hx
            have hcG := hG7.out i' x hx
            replace hx := hide hx
            go_wp2_with fail
            go_quiet (fail)
            go_wp2_with fail
            exact ⟨⟨i' + 1, n + nq, by omega, by simp, by simp⟩, by simp [intOf]; omega⟩
          · have hil' : ¬ (i' : Int) < (c : Int) := by omega
            go_wp2
            go_ret
            exact ⟨rfl, ⟨hbf.out.os, hbf.out.tape, hbf.out.output, hbf.out.size, hbf.out.block⟩⟩
  · have hi3 : (1024 : Int) < (len3 : Int) := by omega
    go_enter Ybaf.func4, Ybaf.ntmps4
    go_wp2
    go_ret
    exact ⟨rfl, Below.refl _ _⟩
end Go.Proofs.YbulkoboFmt
