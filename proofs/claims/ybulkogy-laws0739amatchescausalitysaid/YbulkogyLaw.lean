import Derived.Test.YbulkogyBuild
import Derived.Test.YbulkogyAnc
namespace Go.Proofs.Ybulkogy
open Go.RowKit
set_option linter.unusedSimpArgs false
set_option linter.unusedVariables false

theorem res_get {own : Nat} {cs : List Nat} {f y : Int} {N j : Nat} (h : j < N) : (resList own cs f y N).toArray[j]? = some (.bool (resOf own (cs.getD j 0) (f + j) y)) := by simp [resList, h]

set_option maxRecDepth 100000 in
set_option maxHeartbeats 4000000 in
theorem cause_law (w : World) (a0 a2 a3 a4 : Int) (a1 : Option Addr) (n cap : Nat) (R : List (Int × List Int)) (hR : ArgSt w a1 R) (hl : R.length = n) (hn : (n : Int) ≤ 9223372036854775807) (h00 : 0 ≤ a0) (h01 : a0 ≤ 255) (h20 : 0 ≤ a2) (h21 : a2 ≤ 255) (h30 : 0 ≤ a3) (h31 : a3 ≤ 255) (h40 : 0 ≤ a4) (h41 : a4 ≤ 255) :
    Calls Yba.prog 3 #[.int .u8 a0, .slice a1 n cap, .int .u8 a2, .int .u8 a3, .int .u8 a4] w fun e w' => e = .returned (.bool true) ∧ Below w.heap.size w w' := by
  have hgd := hide (guard_any w a1 n cap R hR hl hn)
  replace hR := hide hR; replace hl := hide hl
  go_enter Yba.func3, Yba.ntmps3
  go_wp2_with fail
  refine hgd.out.mono ?_
  rintro e w1 ⟨rfl | ⟨rfl, hn2, hms⟩, hb1⟩
  · replace hb1 := hide hb1
    go_wp2
    go_ret
    exact ⟨rfl, hb1.out⟩
  · rw [hl.out] at hn2
    have hn' : (n : Int) ≤ 256 := by omega
    obtain ⟨p, hp⟩ : ∃ p : Nat, a0 % 4 + 1 = (p : Int) := ⟨(a0 % 4 + 1).toNat, by omega⟩
    obtain ⟨W, hW⟩ : ∃ W : Nat, ((n : Int) + 63) / 64 = (W : Int) := ⟨(((n : Int) + 63) / 64).toNat, by omega⟩
    have hp0 : 0 < p := by omega
    have hp4 : p ≤ 4 := by omega
    have hbd := hide (build_any w1 a0 a1 n cap p R (hR.out.move hb1) hl.out hn2 hms h00 h01 hp)
    have hwf := hide (mkL_wf (R := R) hp0 hms)
    have hR1 := hide (hR.out.move hb1)
    replace hb1 := hide hb1; replace hms := hide hms; replace hp := hide hp; replace hW := hide hW
    have hy0 : 0 ≤ a2 % ((n : Int) + 2) := Int.emod_nonneg _ (by omega)
    have hy1 : a2 % ((n : Int) + 2) < (n : Int) + 2 := Int.emod_lt_of_pos _ (by omega)
    have hf0 : 0 ≤ a3 % ((n : Int) + 3) := Int.emod_nonneg _ (by omega)
    have hf1 : a3 % ((n : Int) + 3) < (n : Int) + 3 := Int.emod_lt_of_pos _ (by omega)
    have ht0 : 0 ≤ a4 % ((n : Int) + 3) := Int.emod_nonneg _ (by omega)
    have ht1 : a4 % ((n : Int) + 3) < (n : Int) + 3 := Int.emod_lt_of_pos _ (by omega)
    have z2 : ¬ (n : Int) + 2 = 0 := by omega
    have z3 : ¬ (n : Int) + 3 = 0 := by omega
    go_wp2_with fail
    refine hbd.out.mono ?_
    rintro e w2 ⟨X, H, ao, cap', rfl, hE, hb2⟩
    replace hE := hide hE; replace hb2 := hide hb2
    clear hgd hbd
    go_wp2_with fail
    obtain ⟨y, hy⟩ : ∃ y, y = a2 % ((n : Int) + 2) - 1 := ⟨_, rfl⟩
    obtain ⟨f, hf⟩ : ∃ f, f = a3 % ((n : Int) + 3) - 1 := ⟨_, rfl⟩
    obtain ⟨N, hN⟩ : ∃ N : Nat, a4 % ((n : Int) + 3) = (N : Int) := ⟨(a4 % ((n : Int) + 3)).toNat, by omega⟩
    obtain ⟨t, ht⟩ : ∃ t, t = f + (N : Int) := ⟨_, rfl⟩
    rw [hN, ← hy, ← hf, ← ht]
    have hya : -1 ≤ y := by omega
    have hyb : y ≤ (n : Int) := by omega
    have hfa : -1 ≤ f := by omega
    have hfb : f ≤ 300 := by omega
    have hNa : N ≤ 300 := by omega
    have hNa' : (N : Int) ≤ 300 := by omega
    have htN : t - f = (N : Int) := by omega
    clear hy hf hN ht hy0 hy1 hf0 hf1 ht0 ht1 z2 z3
    have haf := hide (after_any w2 X H p n cap' ao (mkL p R) hE.out N y f t htN hfa (by omega) (by omega) hya (by omega))
    refine haf.out.mono ?_
    rintro e w3 ⟨A, rfl, hA, hb3, hAn⟩
    have hR3 := hide ((hR1.out.move hb2.out).move hb3)
    have hanc := hide (anc_any w3 a0 a1 n cap p W R hR3.out hl.out hn2 hms.out h00 h01 hp.out hW.out)
    have hres := hide (fun j (hj : j < N) => res_want (y := y) (f := f) (t := t) (p := p) hwf.out (by rw [mkL_len]; exact hl.out) hn2 htN (ancs_of (fun k q' ms' h => (hwf.out k q' ms' h).2.2)) j hj)
    replace hA := hide hA; replace hb3 := hide hb3
    clear haf hE hR1 hAn
    go_wp2_with fail
    refine hanc.out.mono ?_
    rintro e w4 ⟨Lb, Ab, bl, rfl, hbl, hAI⟩
    have hA4 := hide (hAI.hu.blk hA.out (by simp))
    have hg4 : Hid (∀ j, j < N → w4.cell? ⟨A, j, none⟩ = some (.bool (wantOf n (ancOf (mkL p R)) (f + j) y))) := fun j hj => cell_blk hA4.out (by rw [res_get hj, hres.out j hj])
    have hbf : Hid (Below w.heap.size w w4) := by
      have e1 := hb1.out.trans (hb2.out.mono hb1.out.size)
      have e2 := e1.trans (hb3.out.mono e1.size)
      exact e2.trans ((hAI.hu.below (Nat.le_refl _) (by simp)).mono e2.size)
    replace hbl := hide hbl; replace hAI := hide hAI
    clear hanc hres hA hA4 hb1 hb2 hb3 hR3
    go_wp2_with fail
    go_loopw [64] (fun t wr => ∃ i : Nat, i ≤ N ∧ t = .int .i64 (i : Int) ∧ wr = w4) (fun t _ => N - (intOf t).toNat)
    case atStart => exact ⟨0, by omega, rfl, rfl⟩
    case round =>
      obtain ⟨i, hi, rfl, rfl⟩ := hrel
      by_cases hil : i < N
      · have hil' : (i : Int) < (N : Int) := by omega
        have d := hg4.out i hil
        obtain ⟨k, hk⟩ : ∃ k, f + (i : Int) = k := ⟨_, rfl⟩
        rw [hk] at d
        have hkr : k ≤ 700 := by omega
        have hkr2 : -1 ≤ k := by omega
        by_cases c1 : k = y
        · have e : wantOf n (ancOf (mkL p R)) k y = false := by simp [wantOf, c1]
          rw [e] at d
          clear e
          subst c1
          go_wp2_with fail
          exact ⟨⟨i + 1, by omega, by simp, by first | rfl | trivial⟩, by simp [intOf]; omega⟩
        · by_cases c2 : y < 0
          · have e : wantOf n (ancOf (mkL p R)) k y = true := by simp [wantOf, c1, c2]
            rw [e] at d
            clear e
            go_wp2_with fail
            exact ⟨⟨i + 1, by omega, by simp, by first | rfl | trivial⟩, by simp [intOf]; omega⟩
          · by_cases c3 : (n : Int) ≤ y
            · have e : wantOf n (ancOf (mkL p R)) k y = true := by simp [wantOf, c1, c3]
              rw [e] at d
              clear e
              go_wp2_with fail
              exact ⟨⟨i + 1, by omega, by simp, by first | rfl | trivial⟩, by simp [intOf]; omega⟩
            · by_cases c4 : k < 0
              · have e : wantOf n (ancOf (mkL p R)) k y = false := by simp [wantOf, c1, c2, c3, c4]
                rw [e] at d
                clear e
                go_wp2_with fail
                exact ⟨⟨i + 1, by omega, by simp, by first | rfl | trivial⟩, by simp [intOf]; omega⟩
              · by_cases c5 : (n : Int) ≤ k
                · have e : wantOf n (ancOf (mkL p R)) k y = false := by simp [wantOf, c1, c2, c3, c5]
                  rw [e] at d
                  clear e
                  go_wp2_with fail
                  exact ⟨⟨i + 1, by omega, by simp, by first | rfl | trivial⟩, by simp [intOf]; omega⟩
                · obtain ⟨kn, rfl⟩ : ∃ kn : Nat, k = (kn : Int) := ⟨k.toNat, by omega⟩
                  obtain ⟨yn, rfl⟩ : ∃ yn : Nat, y = (yn : Int) := ⟨y.toNat, by omega⟩
                  obtain ⟨yq, hyq⟩ : ∃ yq : Nat, (yn : Int) / 64 = (yq : Int) := ⟨yn / 64, by omega⟩
                  obtain ⟨yr, hyr⟩ : ∃ yr : Nat, (yn : Int) % 64 = (yr : Int) := ⟨yn % 64, by omega⟩
                  have hyr' : (yr : Int) < 64 := by omega
                  have hyW : yq < W := by have := hW.out; omega
                  have hyW' : (yq : Int) < (W : Int) := by omega
                  have hkn' : (kn : Int) < (n : Int) := by omega
                  obtain ⟨bb, hbb⟩ : ∃ bb, bl[kn]? = some bb := ⟨_, List.getElem?_eq_getElem (by rw [hbl.out]; omega)⟩
                  have g1 := cell_blk hAI.out.hA (anc_get (n := n) (W := W) hbb)
                  have g2 := cell_blk (hAI.out.hb kn bb hbb) (words_get hyW)
                  have hbw := bit_word (ancOf (mkL p R) kn) yn
                  rw [show yn / 64 = yq by omega, show yn % 64 = yr by omega, Nat.one_shiftLeft] at hbw
                  have e : wantOf n (ancOf (mkL p R)) (kn : Int) (yn : Int) = (ancOf (mkL p R) kn).testBit yn := by
                    unfold wantOf
                    rw [if_neg c1, if_neg (by omega), if_neg (by omega)]
                    simp
                  rw [e] at d
                  clear e
                  obtain ⟨wd, hwd⟩ : ∃ wd, wd = word (ancOf (mkL p R) kn) yq := ⟨_, rfl⟩
                  have hwl := word_lt (ancOf (mkL p R) kn) yq
                  rw [← hwd] at g2 hbw hwl
                  have hand : bits BinOp.and IntKind.u64 (wd : Int) (IntKind.u64.wrap (2 ^ yr)) = ((wd &&& 2 ^ yr : Nat) : Int) := by
                    have e2 : ((2 : Int) ^ yr) = ((2 ^ yr : Nat) : Int) := by simp
                    have e3 : 2 ^ yr < 18446744073709551616 := Nat.lt_of_lt_of_le (Nat.pow_lt_pow_right (by omega) (show yr < 64 by omega)) (by decide)
                    rw [e2]
                    generalize 2 ^ yr = P2 at e3
                    rw [IntKind.wrap_u64, Int.emod_eq_of_lt (by omega) (by omega)]
                    exact bits_and_u64_nat wd P2 hwl e3
                  obtain ⟨z, hz⟩ : ∃ z, z = wd &&& 2 ^ yr := ⟨_, rfl⟩
                  rw [← hz] at hand hbw
                  replace hz := hide hz; replace hwd := hide hwd; replace hbb := hide hbb
                  clear hwl
                  cases htb : (ancOf (mkL p R) kn).testBit yn with
                  | true =>
                    rw [htb] at d
                    have hz0 : ¬ (z : Int) = 0 := by have := hbw.2 htb; omega
                    replace hbw := hide hbw; replace htb := hide htb
                    have hzb : ((z : Int) != 0) = true := by simpa using hz0
                    go_wp2_with fail
                    exact ⟨⟨i + 1, by omega, by simp, by first | rfl | trivial⟩, by simp [intOf]; omega⟩
                  | false =>
                    rw [htb] at d
                    have hz0 : z = 0 := by
                      rcases Nat.eq_zero_or_pos z with h | h
                      · exact h
                      · exact absurd (hbw.1 (by omega)) (by rw [htb]; simp)
                    replace hbw := hide hbw; replace htb := hide htb
                    rw [hz0, show ((0 : Nat) : Int) = 0 by rfl] at hand
                    go_wp2_with fail
                    exact ⟨⟨i + 1, by omega, by simp, by first | rfl | trivial⟩, by simp [intOf]; omega⟩
      · obtain rfl : i = N := by omega
        go_wp2
        go_ret
        exact ⟨rfl, hbf.out⟩
end Go.Proofs.Ybulkogy
