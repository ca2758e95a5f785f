import Derived.Test.YbulkoboFmtLawN
import Derived.ProofKit
import Derived.OpenShut
namespace Go.Proofs.YbulkoboFmt
open Go.RowKit
set_option linter.unusedSimpArgs false
set_option linter.unusedVariables false

set_option maxRecDepth 100000 in
set_option maxHeartbeats 4000000 in
theorem enh_law (a0 : Option Addr) (len0 cap0 : Nat) (z0 : List Int) (a1 a2 : Int) (a3 : Option Addr) (len3 cap3 : Nat) (z3 : List Int) (a4 : Int) (w : World)
    (hr0 : IsRow .u16 w a0 len0 cap0 z0) (hr3 : IsRow .u8 w a3 len3 cap3 z3) (h10 : 0 ≤ a1) (h11 : a1 ≤ 255) (h20 : 0 ≤ a2) (h21 : a2 ≤ 255) (h40 : 0 ≤ a4) (h41 : a4 < 4294967296) :
    Calls Ybaf.prog 3 #[.slice a0 len0 cap0, .int .u8 a1, .int .u8 a2, .slice a3 len3 cap3, .int .u32 a4] w fun e w' => e = .returned (.bool true) ∧ Below w.heap.size w w' := by
  obtain ⟨lts, hl0, hm0, hw0, hc0⟩ := row_list hr0
  obtain ⟨D, hl3, hm3, hw3, hc3⟩ := row_list hr3
  have hm0' : (len0 : Int) ≤ 9223372036854775807 := by unfold maxLen at hm0; omega
  have hm3' : (len3 : Int) ≤ 9223372036854775807 := by unfold maxLen at hm3; omega
  clear hr0 hr3 hm0 hm3
  by_cases hg0 : len0 ≤ 300
  · by_cases hg3 : len3 ≤ 1024
    · have hi0 : ¬ (300 : Int) < (len0 : Int) := by omega
      have hi3 : ¬ (1024 : Int) < (len3 : Int) := by omega
      have hd0 : decide ((300 : Int) < (len0 : Int)) = false := by simpa using hi0
      have hd3 : decide ((1024 : Int) < (len3 : Int)) = false := by simpa using hi3
      replace hw0 := hide hw0; replace hw3 := hide hw3; replace hc0 := hide hc0; replace hc3 := hide hc3; replace hl0 := hide hl0; replace hl3 := hide hl3
      go_enter Ybaf.func3, Ybaf.ntmps3
      go_wp2_with fail
      go_loopw [12, 13] (fun s i wr => ∃ j : Nat, j ≤ len0 ∧ i = .int .i64 (j : Int) ∧ Hid (OW w wr s (20 * j) ((lts.take j).flatMap idb))) (fun _ i _ => len0 - (intOf i).toNat)
      case atStart => exact ⟨0, by omega, rfl, hide (by first | exact (OW.nil w).alloc _ | exact OW.nil w)⟩
      case round =>
        obtain ⟨j, hj, rfl, ho⟩ := hrel
        by_cases hjl : j < len0
        · have hjl' : (j : Int) < (len0 : Int) := by omega
          obtain ⟨x, hx⟩ : ∃ x, lts[j]? = some x := ⟨_, List.getElem?_eq_getElem (by rw [hl0.out]; exact hjl)⟩
          have hxw := bounds_u16 (hw0.out x (List.mem_of_getElem? hx))
          obtain ⟨hx0, hx1⟩ := hxw
          obtain ⟨b, off, rfl, hcx⟩ := hc0.out j x hx
          replace hx := hide hx; replace hcx := hide hcx
          go_wp2_with (go_at_call 5; refine (app32 ho.out (by omega) (by omega) (by omega)).mono ?_; clear ho; rintro e w1 ⟨sv1, rfl, ho⟩; have hcl := hcx.out w1 ho.2; replace ho := hide ho)
          go_region_with (go_at_call 6; refine (app16 (ho.out.drew) (by omega) (by omega) (by omega)).mono ?_; clear ho; rintro e w1 ⟨sv1, rfl, ho⟩; replace ho := hide ho)
          all_goals
            clear hcx
            go_wp2_with (first | (go_at_call 5; refine (app32 ho.out (by omega) (by omega) (by omega)).mono ?_; clear ho; rintro e w1 ⟨sv1, rfl, ho⟩; replace ho := hide ho) | (go_at_call 6; refine (app16 ho.out (by omega) (by omega) (by omega)).mono ?_; clear ho; rintro e w1 ⟨sv1, rfl, ho⟩; replace ho := hide ho))
            refine ⟨⟨j + 1, by omega, by simp, ?_⟩, by simp [intOf]; omega⟩
            rw [flat_snoc hx.out]
            rwa [show 20 * (j + 1) = 20 * j + 4 + 4 + 2 + 2 + 4 + 4 by omega]
        · obtain rfl : j = len0 := by omega
          have hn := hl0.out
          have e1 : lts.take j = lts := by rw [← hn, List.take_length]
          rw [e1] at ho
          have hnk : 0 ≤ a1 % 4 := by omega
          have hnk2 : a1 % 4 < 4 := by omega
          go_wp2_with fail
          obtain ⟨ns, hns⟩ : ∃ ns : Nat, a1 % 4 = ns := ⟨(a1 % 4).toNat, by omega⟩
          rw [hns]
          have hns4 : ns < 4 := by omega
          clear hnk hnk2
          go_loopw [12, 15] (fun s i wr => ∃ q : Nat, q ≤ ns ∧ i = .int .i64 (q : Int) ∧ Hid (OW w wr s (20 * j + 16 * q) (lts.flatMap idb ++ (List.replicate q skb).flatten))) (fun _ i _ => ns - (intOf i).toNat)
          case atStart => exact ⟨0, by omega, rfl, hide (by simpa using ho.out)⟩
          case round =>
            clear ho
            obtain ⟨q, hq, rfl, ho⟩ := hrel
            by_cases hql : q < ns
            · have hql' : (q : Int) < (ns : Int) := by omega
              go_wp2_with (go_at_call 5; refine (app32 ho.out (by omega) (by omega) (by omega)).mono ?_; clear ho; rintro e w1 ⟨sv1, rfl, ho⟩; replace ho := hide ho)
              refine ⟨⟨q + 1, by omega, by simp, ?_⟩, by simp [intOf]; omega⟩
              rw [sk_snoc q]
              rw [show 20 * j + 16 * (q + 1) = 20 * j + 16 * q + 4 + 4 + 4 + 4 by omega]
              simpa using ho
            · obtain rfl : q = ns := by omega
              by_cases hj0 : j = 0
              · subst hj0
                simp only [Nat.mul_zero, Nat.zero_add] at ho
                go_wp2_with fail
                obtain ⟨pd, hpd⟩ : ∃ pd : Nat, ((len3 : Int) + 3) / 4 * 4 = pd := ⟨(((len3 : Int) + 3) / 4 * 4).toNat, by omega⟩
                rw [hpd]
                have hpd1 : len3 ≤ pd := by omega
                have hpd2 : pd ≤ 1030 := by omega
                have hpd4 : pd % 4 = 0 := by omega
                clear hpd
                go_wp2_with (go_at_call 5; refine (app32 ho.out (by omega) (by omega) (by omega)).mono ?_; clear ho; rintro e w1 ⟨sv1, rfl, ho⟩; replace ho := hide ho)
                obtain ⟨X, hX, hoX⟩ : ∃ X, Hid (∀ P, X ++ (P ++ leB4 (28 + (pd : Int) + 4)) = strm lts q (epb ((0 : Nat) : Int) len3 a4 P (28 + (pd : Int) + 4))) ∧ Hid (OW w w1 sv1 (16 * q + 28) X) := ⟨_, fun P => by simp [strm, epb, epY], ho⟩
                clear ho
                have hPl : (D ++ List.replicate (pd - len3) 0).length = pd := by simp [hl3.out]; omega
                obtain ⟨P, hP⟩ : ∃ P, P = D ++ List.replicate (pd - len3) 0 := ⟨_, rfl⟩
                rw [← hP] at hPl
                replace hP := hide hP; replace hPl := hide hPl
                obtain ⟨i0, hi, hz0, hz1, hz2⟩ := info_parts Ybaf.info5
                go_loopw [12, 19] (fun s i wr => ∃ k : Nat, k ≤ pd ∧ i = .int .i64 (k : Int) ∧ Hid (OW w wr s (16 * q + 28 + k) (X ++ P.take k))) (fun _ i _ => pd - (intOf i).toNat)
                case atStart => exact ⟨0, by omega, rfl, hide (by simpa using hoX.out)⟩
                case round =>
                  clear hoX
                  obtain ⟨k, hk, rfl, ho⟩ := hrel
                  by_cases hkl : k < pd
                  · have hkl' : (k : Int) < (pd : Int) := by omega
                    by_cases hk3 : k < len3
                    · have hk3' : (k : Int) < (len3 : Int) := by omega
                      obtain ⟨x, hx⟩ : ∃ x, D[k]? = some x := ⟨_, List.getElem?_eq_getElem (by rw [hl3.out]; exact hk3)⟩
                      obtain ⟨b, off, rfl, hcx⟩ := hc3.out k x hx
                      have hcl := hcx wr ho.out.2
                      have hPx : Hid (P[k]? = some x) := by rw [hP.out]; exact (List.getElem?_append_left (by rw [hl3.out]; exact hk3)).trans hx
                      replace hx := hide hx; clear hcx
                      go_wp2_with (at_builtin; refine wpList_append_own _ rfl _ _ 23 rfl w.heap.size 5 i0 (.int .u8 0) 1 1 Ybaf.underlying23 hi hz0 hz1 hz2 rfl (by decide) _ (16 * q + 28 + k) (bs (X ++ P.take k)) rfl ((ho.out.alloc _).1) ⟨wr.heap.size, 0, none⟩ 1 1 (bs [x]) rfl rfl ?h2 (bs_one _) ?h3 ?h4 ?h5 ?_)
                      case h2 => intro j' u hj'; exact new_cells1 wr (bs [x]) 5 hj'
                      case h3 => unfold maxLen; omega
                      case h4 => omega
                      case h5 => have := ho.out.2.size; simp; omega
                      intro v' w1 hown' hgrow _
                      have ho2 := hide ((ho.out.alloc _).grow (xs' := X ++ P.take (k + 1)) (by rw [take_snoc hPx.out, ← List.append_assoc, bs_append]; exact hown') hgrow)
                      clear hown' hgrow
                      go_wp2
                      exact ⟨⟨k + 1, by omega, by simp, ho2⟩, by simp [intOf]; omega⟩
                    · have hk3' : ¬ (k : Int) < (len3 : Int) := by omega
                      have hPx : Hid (P[k]? = some 0) := by show P[k]? = some 0; rw [hP.out, List.getElem?_append_right (by rw [hl3.out]; omega), hl3.out, List.getElem?_replicate, if_pos (by omega)]
                      go_wp2_with (at_builtin; refine wpList_append_own _ rfl _ _ 23 rfl w.heap.size 5 i0 (.int .u8 0) 1 1 Ybaf.underlying23 hi hz0 hz1 hz2 rfl (by decide) _ (16 * q + 28 + k) (bs (X ++ P.take k)) rfl ((ho.out.alloc _).1) ⟨wr.heap.size, 0, none⟩ 1 1 (bs [0]) rfl rfl ?h2 (bs_one _) ?h3 ?h4 ?h5 ?_)
                      case h2 => intro j' u hj'; first | exact new_cells1 wr (bs [0]) 5 hj' | exact hj'
                      case h3 => unfold maxLen; omega
                      case h4 => omega
                      case h5 => have := ho.out.2.size; simp; omega
                      intro v' w1 hown' hgrow _
                      have ho2 := hide ((ho.out.alloc _).grow (xs' := X ++ P.take (k + 1)) (by rw [take_snoc hPx.out, ← List.append_assoc, bs_append]; exact hown') hgrow)
                      clear hown' hgrow
                      go_wp2
                      exact ⟨⟨k + 1, by omega, by simp, ho2⟩, by simp [intOf]; omega⟩
                  · obtain rfl : k = pd := by omega
                    have hPt : P.take k = P := List.take_of_length_le (by rw [hPl.out]; omega)
                    rw [hPt] at ho
                    clear hPt
                    go_wp2_with (go_at_call 5; refine (app32 ho.out (by omega) (by omega) (by omega)).mono ?_; clear ho; rintro e w1 ⟨sv1, rfl, ho⟩; obtain ⟨g1, cp1, rfl, hn1, hc1⟩ := ho.some (by omega); rw [List.append_assoc, hX.out P] at ho; replace ho := hide ho; replace hn1 := hide hn1; replace hc1 := hide hc1)
                    generalize hWe : (World.alloc _ _) = W
                    have hbW := hide ((st_start ho.out (by omega) hn1.out hc1.out 26 (.slice none 0 0) W hWe.symm).2)
                    have hcall := enh_next0 hl0.out hns4 ho.out hn1.out hc1.out hPl.out hpd1 hpd2 hpd4 h40 h41 W hWe.symm
                    refine hcall.mono ?_
                    rintro e w2 (⟨_, p, rfl, hbel⟩ | ⟨lt, hlt, _⟩)
                    · have hbel2 := hide (hbW.out.trans hbel)
                      clear hcall ho hn1 hc1 hX hWe hbW hbel
                      unfold pk0
                      go_wp2
                      go_ret
                      exact ⟨by simp, hbel2.out.alloc hbel2.out.size _⟩
                    · have := (List.getElem?_eq_some_iff.1 hlt).1
                      rw [hl0.out] at this
                      omega
              · have hjp : (0 : Int) < (j : Int) := by omega
                have hjn : ¬ (j : Int) = 0 := by omega
                have hid0 : 0 ≤ a2 % (j : Int) := Int.emod_nonneg _ (by omega)
                have hid1 : a2 % (j : Int) < (j : Int) := Int.emod_lt_of_pos _ (by omega)
                go_wp2_with fail
                obtain ⟨idn, hidn⟩ : ∃ idn : Nat, a2 % (j : Int) = idn := ⟨(a2 % (j : Int)).toNat, by omega⟩
                rw [hidn]
                have hidj : idn < j := by omega
                clear hid0 hid1
                obtain ⟨pd, hpd⟩ : ∃ pd : Nat, ((len3 : Int) + 3) / 4 * 4 = pd := ⟨(((len3 : Int) + 3) / 4 * 4).toNat, by omega⟩
                rw [hpd]
                have hpd1 : len3 ≤ pd := by omega
                have hpd2 : pd ≤ 1030 := by omega
                have hpd4 : pd % 4 = 0 := by omega
                clear hpd
                go_wp2_with (go_at_call 5; refine (app32 ho.out (by omega) (by omega) (by omega)).mono ?_; clear ho; rintro e w1 ⟨sv1, rfl, ho⟩; replace ho := hide ho)
                obtain ⟨X, hX, hoX⟩ : ∃ X, Hid (∀ P, X ++ (P ++ leB4 (28 + (pd : Int) + 4)) = strm lts q (epb idn len3 a4 P (28 + (pd : Int) + 4))) ∧ Hid (OW w w1 sv1 (20 * j + 16 * q + 28) X) := ⟨_, fun P => by simp [strm, epb, epY], ho⟩
                clear ho
                have hPl : (D ++ List.replicate (pd - len3) 0).length = pd := by simp [hl3.out]; omega
                obtain ⟨P, hP⟩ : ∃ P, P = D ++ List.replicate (pd - len3) 0 := ⟨_, rfl⟩
                rw [← hP] at hPl
                replace hP := hide hP; replace hPl := hide hPl
                obtain ⟨i0, hi, hz0, hz1, hz2⟩ := info_parts Ybaf.info5
                go_loopw [12, 19] (fun s i wr => ∃ k : Nat, k ≤ pd ∧ i = .int .i64 (k : Int) ∧ Hid (OW w wr s (20 * j + 16 * q + 28 + k) (X ++ P.take k))) (fun _ i _ => pd - (intOf i).toNat)
                case atStart => exact ⟨0, by omega, rfl, hide (by simpa using hoX.out)⟩
                case round =>
                  clear hoX
                  obtain ⟨k, hk, rfl, ho⟩ := hrel
                  by_cases hkl : k < pd
                  · have hkl' : (k : Int) < (pd : Int) := by omega
                    by_cases hk3 : k < len3
                    · have hk3' : (k : Int) < (len3 : Int) := by omega
                      obtain ⟨x, hx⟩ : ∃ x, D[k]? = some x := ⟨_, List.getElem?_eq_getElem (by rw [hl3.out]; exact hk3)⟩
                      obtain ⟨b, off, rfl, hcx⟩ := hc3.out k x hx
                      have hcl := hcx wr ho.out.2
                      have hPx : Hid (P[k]? = some x) := by rw [hP.out]; exact (List.getElem?_append_left (by rw [hl3.out]; exact hk3)).trans hx
                      replace hx := hide hx; clear hcx
                      go_wp2_with (at_builtin; refine wpList_append_own _ rfl _ _ 23 rfl w.heap.size 5 i0 (.int .u8 0) 1 1 Ybaf.underlying23 hi hz0 hz1 hz2 rfl (by decide) _ (20 * j + 16 * q + 28 + k) (bs (X ++ P.take k)) rfl ((ho.out.alloc _).1) ⟨wr.heap.size, 0, none⟩ 1 1 (bs [x]) rfl rfl ?h2 (bs_one _) ?h3 ?h4 ?h5 ?_)
                      case h2 => intro j' u hj'; exact new_cells1 wr (bs [x]) 5 hj'
                      case h3 => unfold maxLen; omega
                      case h4 => omega
                      case h5 => have := ho.out.2.size; simp; omega
                      intro v' w1 hown' hgrow _
                      have ho2 := hide ((ho.out.alloc _).grow (xs' := X ++ P.take (k + 1)) (by rw [take_snoc hPx.out, ← List.append_assoc, bs_append]; exact hown') hgrow)
                      clear hown' hgrow
                      go_wp2
                      exact ⟨⟨k + 1, by omega, by simp, ho2⟩, by simp [intOf]; omega⟩
                    · have hk3' : ¬ (k : Int) < (len3 : Int) := by omega
                      have hPx : Hid (P[k]? = some 0) := by show P[k]? = some 0; rw [hP.out, List.getElem?_append_right (by rw [hl3.out]; omega), hl3.out, List.getElem?_replicate, if_pos (by omega)]
                      go_wp2_with (at_builtin; refine wpList_append_own _ rfl _ _ 23 rfl w.heap.size 5 i0 (.int .u8 0) 1 1 Ybaf.underlying23 hi hz0 hz1 hz2 rfl (by decide) _ (20 * j + 16 * q + 28 + k) (bs (X ++ P.take k)) rfl ((ho.out.alloc _).1) ⟨wr.heap.size, 0, none⟩ 1 1 (bs [0]) rfl rfl ?h2 (bs_one _) ?h3 ?h4 ?h5 ?_)
                      case h2 => intro j' u hj'; first | exact new_cells1 wr (bs [0]) 5 hj' | exact hj'
                      case h3 => unfold maxLen; omega
                      case h4 => omega
                      case h5 => have := ho.out.2.size; simp; omega
                      intro v' w1 hown' hgrow _
                      have ho2 := hide ((ho.out.alloc _).grow (xs' := X ++ P.take (k + 1)) (by rw [take_snoc hPx.out, ← List.append_assoc, bs_append]; exact hown') hgrow)
                      clear hown' hgrow
                      go_wp2
                      exact ⟨⟨k + 1, by omega, by simp, ho2⟩, by simp [intOf]; omega⟩
                  · obtain rfl : k = pd := by omega
                    have hPt : P.take k = P := List.take_of_length_le (by rw [hPl.out]; omega)
                    rw [hPt] at ho
                    clear hPt
                    go_wp2_with (go_at_call 5; refine (app32 ho.out (by omega) (by omega) (by omega)).mono ?_; clear ho; rintro e w1 ⟨sv1, rfl, ho⟩; obtain ⟨g1, cp1, rfl, hn1, hc1⟩ := ho.some (by omega); rw [List.append_assoc, hX.out P] at ho; replace ho := hide ho; replace hn1 := hide hn1; replace hc1 := hide hc1)
                    generalize hWe : (World.alloc _ _) = W
                    have hbW := hide ((st_start ho.out (by omega) hn1.out hc1.out 26 (.slice none 0 0) W hWe.symm).2)
                    have hcall := enh_next hl0.out hg0 (fun x hx => by have := bounds_u16 (hw0.out x hx); omega) hns4 ho.out hn1.out hc1.out hPl.out hpd1 hpd2 hpd4 h40 h41 (by omega) (by omega) W hWe.symm
                    refine hcall.mono ?_
                    rintro e w2 (⟨h, _⟩ | ⟨lt, hlt, G, cpG, gi, ci, rfl, hPb, hdat, hbel⟩)
                    · exact absurd (by rw [← hl0.out, h]; rfl) hj0
                    have hbel2 := hide (hbW.out.trans hbel)
                    obtain ⟨b0, off0, rfl, hcx0⟩ := hc0.out idn lt hlt
                    have hc0' := hide (fun w' (hb : Below w2.heap.size w2 w') => hcx0 w' (hbel2.out.trans (hb.mono hbel2.out.size)))
                    clear hcall hcx0 ho hn1 hc1 hX hWe hbW hbel hlt
                    have hPl4 : w1.heap.size + 1 < w2.heap.size := World.block_lt_of_cell? w2 _ hPb
                    obtain ⟨mx, hmx⟩ : ∃ mx, mx = if a4 < (len3 : Int) then (len3 : Int) else a4 := ⟨_, rfl⟩
                    rw [← hmx]
                    have hd3 := hide (fun i v (h : D[i]? = some v) => hdat i v (by rw [hP.out, List.getElem?_append_left (List.getElem?_eq_some_iff.1 h).1]; exact h))
                    clear hdat
                    have hmx2 : (a4 < (len3 : Int) ∧ mx = len3) ∨ (¬ a4 < (len3 : Int) ∧ mx = a4) := by
                      by_cases hm : a4 < (len3 : Int)
                      · exact .inl ⟨hm, by rw [hmx, if_pos hm]⟩
                      · exact .inr ⟨hm, by rw [hmx, if_neg hm]⟩
                    clear hmx
                    rcases hmx2 with ⟨hm4, rfl⟩ | ⟨hm4, rfl⟩
                    · replace hPb := hide hPb
                      go_wp2_with fail
                      generalize hWe : (World.alloc w2 _) = w3
                      have hb3 : Below w2.heap.size w2 w3 := by rw [← hWe]; exact (Below.refl _ w2).alloc (Nat.le_refl _) _
                      have hN3 : w3.heap[w2.heap.size]? = some (.cells #[.int .i64 1, .int .u16 lt, .slice (some ⟨G, 20, none⟩) len3 (cpG - 20), .int .u32 (len3 : Int)] 42 (0, 0)) := by rw [← hWe]; exact heap_alloc_new w2 _
                      have e0 : w3.cell? ⟨w2.heap.size, 0, none⟩ = some (.int .i64 1) := cell_blk hN3 rfl
                      have e1 : w3.cell? ⟨w2.heap.size, 1, none⟩ = some (.int .u16 lt) := cell_blk hN3 rfl
                      have e2 : w3.cell? ⟨w2.heap.size, 2, none⟩ = some (.slice (some ⟨G, 20, none⟩) len3 (cpG - 20)) := cell_blk hN3 rfl
                      have e3 : w3.cell? ⟨w2.heap.size, 3, none⟩ = some (.int .u32 (len3 : Int)) := cell_blk hN3 rfl
                      have e4 : w3.cell? ⟨w1.heap.size + 1, 4, none⟩ = some (.slice (some ⟨gi, 0, none⟩) lts.length ci) := (hb3.cell (p := ⟨w1.heap.size + 1, 4, none⟩) hPl4).trans hPb.out
                      have e5 : w3.cell? ⟨b0, off0 + idn, none⟩ = some (.int .u16 lt) := hc0'.out w3 hb3
                      rw [hl0.out] at e4
                      have hbf := hide (hbel2.out.trans (hb3.mono hbel2.out.size))
                      have hG3 := hide (fun i v (h : D[i]? = some v) => (hb3.cell (p := ⟨G, 20 + i, none⟩) (World.block_lt_of_cell? w2 _ (hd3.out i v h))).trans (hd3.out i v h))
                      have hc3' := hide (fun i v (h : D[i]? = some v) => by obtain ⟨b, off, h1, h2⟩ := hc3.out i v h; exact (⟨b, off, h1, h2 w3 hbf.out⟩ : ∃ b off, a3 = some ⟨b, off, none⟩ ∧ w3.cell? ⟨b, off + i, none⟩ = some (.int .u8 v)))
                      clear hb3 hN3 hWe hc0' hPb hd3 hbel2
                      go_quiet (fail)
                      go_wp2_with fail
                      clear e0 e1 e3 e4 e5
                      go_loopw [24] (fun i wr => ∃ i' n : Nat, i' ≤ len3 ∧ i = .int .i64 (i' : Int) ∧ wr = w3.drewN n) (fun i _ => len3 - (intOf i).toNat)
                      case atStart => exact ⟨0, nq, by omega, rfl, rfl⟩
                      case round =>
                        obtain ⟨i', n, hi', rfl, rfl⟩ := hrel
                        by_cases hil : i' < len3
                        · have hil' : (i' : Int) < (len3 : Int) := by omega
                          obtain ⟨x, hx⟩ : ∃ x, D[i']? = some x := ⟨_, List.getElem?_eq_getElem (by rw [hl3.out]; exact hil)⟩
                          obtain ⟨b, off, rfl, hcl⟩ := hc3'.out i' x hx
                          have hcG := hG3.out i' x hx
                          replace hx := hide hx
                          go_wp2_with fail
                          go_quiet (fail)
                          go_wp2_with fail
                          exact ⟨⟨i' + 1, n + nq, by omega, by simp, by simp⟩, by simp [intOf]; omega⟩
                        · have hil' : ¬ (i' : Int) < (len3 : Int) := by omega
                          go_wp2
                          go_ret
                          exact ⟨rfl, ⟨hbf.out.os, hbf.out.tape, hbf.out.output, hbf.out.size, hbf.out.block⟩⟩
                    · replace hPb := hide hPb
                      go_wp2_with fail
                      generalize hWe : (World.alloc w2 _) = w3
                      have hb3 : Below w2.heap.size w2 w3 := by rw [← hWe]; exact (Below.refl _ w2).alloc (Nat.le_refl _) _
                      have hN3 : w3.heap[w2.heap.size]? = some (.cells #[.int .i64 1, .int .u16 lt, .slice (some ⟨G, 20, none⟩) len3 (cpG - 20), .int .u32 mx] 42 (0, 0)) := by rw [← hWe]; exact heap_alloc_new w2 _
                      have e0 : w3.cell? ⟨w2.heap.size, 0, none⟩ = some (.int .i64 1) := cell_blk hN3 rfl
                      have e1 : w3.cell? ⟨w2.heap.size, 1, none⟩ = some (.int .u16 lt) := cell_blk hN3 rfl
                      have e2 : w3.cell? ⟨w2.heap.size, 2, none⟩ = some (.slice (some ⟨G, 20, none⟩) len3 (cpG - 20)) := cell_blk hN3 rfl
                      have e3 : w3.cell? ⟨w2.heap.size, 3, none⟩ = some (.int .u32 mx) := cell_blk hN3 rfl
                      have e4 : w3.cell? ⟨w1.heap.size + 1, 4, none⟩ = some (.slice (some ⟨gi, 0, none⟩) lts.length ci) := (hb3.cell (p := ⟨w1.heap.size + 1, 4, none⟩) hPl4).trans hPb.out
                      have e5 : w3.cell? ⟨b0, off0 + idn, none⟩ = some (.int .u16 lt) := hc0'.out w3 hb3
                      rw [hl0.out] at e4
                      have hbf := hide (hbel2.out.trans (hb3.mono hbel2.out.size))
                      have hG3 := hide (fun i v (h : D[i]? = some v) => (hb3.cell (p := ⟨G, 20 + i, none⟩) (World.block_lt_of_cell? w2 _ (hd3.out i v h))).trans (hd3.out i v h))
                      have hc3' := hide (fun i v (h : D[i]? = some v) => by obtain ⟨b, off, h1, h2⟩ := hc3.out i v h; exact (⟨b, off, h1, h2 w3 hbf.out⟩ : ∃ b off, a3 = some ⟨b, off, none⟩ ∧ w3.cell? ⟨b, off + i, none⟩ = some (.int .u8 v)))
                      clear hb3 hN3 hWe hc0' hPb hd3 hbel2
                      go_quiet (fail)
                      go_wp2_with fail
                      clear e0 e1 e3 e4 e5
                      go_loopw [24] (fun i wr => ∃ i' n : Nat, i' ≤ len3 ∧ i = .int .i64 (i' : Int) ∧ wr = w3.drewN n) (fun i _ => len3 - (intOf i).toNat)
                      case atStart => exact ⟨0, nq, by omega, rfl, rfl⟩
                      case round =>
                        obtain ⟨i', n, hi', rfl, rfl⟩ := hrel
                        by_cases hil : i' < len3
                        · have hil' : (i' : Int) < (len3 : Int) := by omega
                          obtain ⟨x, hx⟩ : ∃ x, D[i']? = some x := ⟨_, List.getElem?_eq_getElem (by rw [hl3.out]; exact hil)⟩
                          obtain ⟨b, off, rfl, hcl⟩ := hc3'.out i' x hx
                          have hcG := hG3.out i' x hx
                          replace hx := hide hx
                          go_wp2_with fail
                          go_quiet (fail)
                          go_wp2_with fail
                          exact ⟨⟨i' + 1, n + nq, by omega, by simp, by simp⟩, by simp [intOf]; omega⟩
                        · have hil' : ¬ (i' : Int) < (len3 : Int) := by omega
                          go_wp2
                          go_ret
                          exact ⟨rfl, ⟨hbf.out.os, hbf.out.tape, hbf.out.output, hbf.out.size, hbf.out.block⟩⟩
    · have hi0 : ¬ (300 : Int) < (len0 : Int) := by omega
      have hi3 : (1024 : Int) < (len3 : Int) := by omega
      have hd0 : decide ((300 : Int) < (len0 : Int)) = false := by simpa using hi0
      have hd3 : decide ((1024 : Int) < (len3 : Int)) = true := by simpa using hi3
      go_enter Ybaf.func3, Ybaf.ntmps3
      go_wp2
      go_ret
      exact ⟨rfl, Below.refl _ _⟩
  · have hi0 : (300 : Int) < (len0 : Int) := by omega
    have hd0 : decide ((300 : Int) < (len0 : Int)) = true := by simpa using hi0
    go_enter Ybaf.func3, Ybaf.ntmps3
    go_wp2
    go_ret
    exact ⟨rfl, Below.refl _ _⟩
end Go.Proofs.YbulkoboFmt
