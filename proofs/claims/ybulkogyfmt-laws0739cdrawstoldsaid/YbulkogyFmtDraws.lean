import Derived.Test.YbulkogyFmtDrawKit
namespace Go.Proofs.YbulkogyFmt
open Go.RowKit
set_option linter.unusedSimpArgs false
set_option linter.unusedVariables false

theorem argsOf_get {c : Nat → Nat} {n i m : Nat} (h : i < m) : (argsOf c n m).getD i 0 = (enOf n (runOf c n i)).length := by
  simp [argsOf, List.getD_eq_getElem?_getD, h]
set_option maxRecDepth 100000 in
set_option maxHeartbeats 4000000 in
theorem draws_law (a0 : Int) (a1 : Option Addr) (len cap : Nat) (zs : List Int) (w : World) (h00 : 0 ≤ a0) (h01 : a0 ≤ 65535) (hr : IsRow .u8 w a1 len cap zs) :
    Calls Ybaf.prog 4 #[.int .u16 a0, .slice a1 len cap] w fun e w' => e = .returned (.bool true) ∧ Below w.heap.size w w' := by
  obtain ⟨i3, hi3, z0, z1, z2⟩ := info_parts Ybaf.info3
  obtain ⟨i4, hi4, b0, b1, b2⟩ := info_parts Ybaf.info4
  obtain ⟨ch, hc5, hch, hml⟩ := row_ans hr
  clear hr
  have hml' : (len : Int) ≤ 9223372036854775807 := by unfold maxLen at hml; omega
  clear hml
  by_cases hlen : len ≤ 4096
  · have hlen' : ¬ (4096 : Int) < (len : Int) := by omega
    obtain ⟨n, hn⟩ : ∃ n : Nat, a0 % 23 + 2 = (n : Int) := ⟨(a0 % 23 + 2).toNat, by omega⟩
    have hn2 : 2 ≤ n := by omega
    have hn24 : n ≤ 24 := by omega
    have hnn : 2 + a0 % 23 = (n : Int) := by omega
    clear hn
    obtain ⟨wA, hwA⟩ : ∃ wA, wA = w.alloc (.cells #[.slice a1 len cap, .int .i64 0, .slice none 0 0] 27) := ⟨_, rfl⟩
    have hbA : Below w.heap.size w wA := by rw [hwA]; exact (Below.refl _ w).alloc (Nat.le_refl _) _
    have hRb : wA.heap[w.heap.size]? = some (.cells (rdCells a1 len cap 0 (.slice none 0 0)) 27 (0, 0)) := by rw [hwA]; exact heap_alloc_new w _
    have hcast := hide (cast_any wA n 1 w.heap.size len cap w.heap.size a1 ch hn2 hn24 (by omega) (by omega) hRb (fun k => (hch k).below hbA) hc5 (Nat.le_refl _) hbA.size (by omega))
    obtain ⟨m, hm⟩ : ∃ m : Nat, m = n * n := ⟨_, rfl⟩
    have hm1 : m ≤ 576 := by rw [hm]; exact Nat.mul_le_mul hn24 hn24
    have hm1' : (m : Int) ≤ 576 := by omega
    have hmul : (n : Int) * (n : Int) = (m : Int) := by rw [hm]; simp
    have hn' : (n : Int) ≤ 24 := by omega
    obtain ⟨za, hza⟩ : ∃ za, za = madeCells #[Value.bool false] n := ⟨_, rfl⟩
    obtain ⟨zc, hzc⟩ : ∃ zc, zc = madeCells #[Value.int .i64 0] n := ⟨_, rfl⟩
    have mk1 : ∀ w' : World, (Instr.makeSlice 40 (.int .i64 (n : Int)) (.int .i64 (n : Int))).run Ybaf.prog w' = .ok (.slice (some ⟨w'.heap.size, 0, none⟩) n n) (w'.alloc (.cells za 4)) := by
      intro w'
      have hr := run_make (P := Ybaf.prog) w' 40 4 i4 (.bool false) Ybaf.underlying40 hi4 b0 .i64 .i64 n n (by omega) (Int.le_refl _) (by rw [b2]; omega) (by omega)
      rw [b1] at hr
      rw [hza]
      simpa [Value.cells] using hr
    have mk2 : ∀ w' : World, (Instr.makeSlice 25 (.int .i64 (n : Int)) (.int .i64 (n : Int))).run Ybaf.prog w' = .ok (.slice (some ⟨w'.heap.size, 0, none⟩) n n) (w'.alloc (.cells zc 3)) := by
      intro w'
      have hr := run_make (P := Ybaf.prog) w' 25 3 i3 (.int .i64 0) Ybaf.underlying25 hi3 z0 .i64 .i64 n n (by omega) (Int.le_refl _) (by rw [z2]; omega) (by omega)
      rw [z1] at hr
      rw [hzc]
      simpa [Value.cells] using hr
    have mk3 : ∀ w' : World, (Instr.makeSlice 25 (.int .i64 0) (.int .i64 (n : Int))).run Ybaf.prog w' = .ok (.slice (some ⟨w'.heap.size, 0, none⟩) 0 n) (w'.alloc (.cells zc 3)) := by
      intro w'
      have hr := run_make (P := Ybaf.prog) w' 25 3 i3 (.int .i64 0) Ybaf.underlying25 hi3 z0 .i64 .i64 0 n (by omega) (by omega) (by rw [z2]; omega) (by omega)
      rw [z1] at hr
      rw [hzc]
      simpa [Value.cells] using hr
    have hzal : Hid (za.toList = List.replicate n (.bool false)) := by show _ = _; rw [hza, toList_madeCells_one]
    have hzcl : Hid (zc.toList = List.replicate n (.int .i64 0)) := by show _ = _; rw [hzc, toList_madeCells_one]
    have hzcs : Hid (zc.size = n) := by show _ = _; rw [hzc, size_madeCells]
    clear hza hzc
    replace hm := hide hm; replace hRb := hide hRb; replace hch := hide hch; replace hc5 := hide hc5; replace hbA := hide hbA; replace hwA := hide hwA
    go_enter Ybaf.func4, Ybaf.ntmps4
    go_wp2_with fail
    rw [hwA.out.symm]
    refine hcast.out.mono ?_
    intro e w1 hcp
    obtain ⟨Rn, X, H, gs, sc, ga, ac, gm, mc, sa, sk, smc, rfl, hb1, hF⟩ := hcp.read hn2 (by omega)
    rw [← hm.out] at hF
    clear hcp hcast
    have r0 := hF.rn0 w1 (Below.refl _ _)
    have x1 := hF.x1 w1 (Below.refl _ _)
    have rb2 := hF.rb2 w1 (Below.refl _ _)
    replace hF := hide hF; replace hb1 := hide hb1
    go_wp2_with fail
    have hdw0 := hide (DW.start (w1 := w1) hzal.out hzcl.out hzcs.out (show n ≤ maxLen by unfold maxLen; omega))
    obtain ⟨Sb, eS⟩ : ∃ Sb, w1.heap.size = Sb := ⟨_, rfl⟩
    obtain ⟨Pb, eP⟩ : ∃ Pb, Sb + 1 = Pb := ⟨_, rfl⟩
    obtain ⟨E, eE⟩ : ∃ E, Pb + 1 = E := ⟨_, rfl⟩
    rw [eS, eP, eE] at hdw0
    rw [eS, eP, eE]
    clear eP eE mk1 mk2 mk3 hzal hzcl hzcs x1 r0 rb2
    replace eS := hide eS
    go_loopw [11, 12] (fun e t wr => ∃ (i : Nat) (l : List Nat) (L : Nat), i ≤ m ∧ Hid (L = l.length) ∧ L ≤ n ∧ t = .int .i64 (i : Int) ∧ e = .slice (some ⟨E, 0, none⟩) L n ∧ Hid (DW w1 wr Sb Pb E n (runOf ch n i).sent (pdOf (runOf ch n i)) l)) (fun _ t _ => m - (intOf t).toNat)
    case atStart => exact ⟨0, [], 0, Nat.zero_le _, hide rfl, Nat.zero_le _, rfl, rfl, hdw0⟩
    case round =>
      clear hdw0
      obtain ⟨i, l, L, hi, hL, hLn, rfl, rfl, h1⟩ := hrel
      have hinv := run_inv ch (n := n) (by omega) i (by rw [← hm.out]; exact hi)
      have hen := hide (fun (h : i < m) => run_en (c := ch) (n := n) (by omega) (i := i) (by rw [← hm.out]; exact h))
      have hend := hide (fun (h : i = m) => (show enOf n (runOf ch n i) = [] by rw [h, hm.out]; exact run_end (by omega)))
      have hstp := hide (fun (h : i < m) => run_step ch (n := n) (by omega) (i := i) (j := m) h (by rw [hm.out]; omega))
      obtain ⟨s, hs⟩ : ∃ s, s = runOf ch n i := ⟨_, rfl⟩
      rw [← hs] at h1 hinv hen hend hstp
      obtain ⟨hinv, hsl⟩ := hinv
      replace hinv := hide hinv; replace hsl := hide hsl; replace hs := hide hs
      have hLn' : (L : Int) ≤ (n : Int) := by omega
      by_cases hil : i < m
      · have hil' : (i : Int) < (m : Int) := by omega
        have h2 := hide h1.out.cut
        clear h1
        go_wp2_with fail
        go_loopw [11, 13] (fun e t wr => ∃ (p L : Nat), p ≤ n ∧ Hid (L = (fil p (can s)).length) ∧ L ≤ p ∧ t = .int .i64 (p : Int) ∧ e = .slice (some ⟨E, 0, none⟩) L n ∧ Hid (DW w1 wr Sb Pb E n s.sent (pdOf s) (fil p (can s)))) (fun _ t _ => n - (intOf t).toNat)
        case atStart => exact ⟨0, 0, Nat.zero_le _, hide rfl, Nat.le_refl _, rfl, rfl, h2⟩
        case round =>
          clear h2
          obtain ⟨p, L, hp, hL, hLp, rfl, rfl, h3⟩ := hrel
          by_cases hpn : p < n
          · have hpn' : (p : Int) < (n : Int) := by omega
            have c1 := h3.out.sent (p := p) (by rw [hinv.out.ls]; exact hpn)
            have c2 := h3.out.pend (p := p) (by rw [pdOf_len, hinv.out.li]; exact hpn)
            rw [pdOf_get] at c2
            have hLp' : (L : Int) ≤ (p : Int) := by omega
            have hgo : Hid (∀ w2, w2.ownsRow E 3 1 (.slice (some ⟨E, 0, none⟩) (L + 1) n) (L + 1) (ints .i64 (fil p (can s)) ++ ints .i64 [p]) → (wr.alloc (.cells #[.int .i64 (p : Int)] 3)).grownBy w2 (some E) → can s p = true → DW w1 w2 Sb Pb E n s.sent (pdOf s) (fil (p + 1) (can s)) ∧ L + 1 = (fil (p + 1) (can s)).length) := by
              intro w2 ho hg hc
              rw [hL.out] at ho ⊢
              have := h3.out.app ho hg
              rw [fil_succ, hc]
              exact ⟨this, by simp⟩
            by_cases hcp : can s p = true
            · have hcond : Hid (s.sent.getD p false = false ∨ (s.sent.getD p false = true ∧ 0 < (s.inbox.getD p []).length)) := by
                have := hcp
                rw [can] at this
                cases h : s.sent.getD p false with
                | false => exact .inl rfl
                | true =>
                  refine .inr ⟨rfl, ?_⟩
                  rw [h] at this
                  cases h' : s.inbox.getD p [] with
                  | nil => rw [h'] at this; cases this
                  | cons a t => simp
              have hown : Hid (wr.ownsRow E 3 1 (.slice (some ⟨E, 0, none⟩) L n) L (ints .i64 (fil p (can s)))) := by
                have := h3.out.en; rw [← hL.out] at this; exact this
              have hnew : Hid (∀ j u, (ints .i64 [p])[j]? = some u → (wr.alloc (.cells #[.int .i64 (p : Int)] 3)).cell? ((⟨wr.heap.size, 0, none⟩ : Addr).add j) = some u) := fun j u hj => new_cells1 wr (ints .i64 [p]) 3 hj
              rcases hcond.out with hs1 | ⟨hs1, hs2⟩
              · rw [hs1] at c1
                replace hcp := hide hcp; replace hs1 := hide hs1
                clear h3 c2
                go_wp2_with (at_builtin; refine wpList_append_fits _ rfl _ _ 25 rfl E 3 i3 1 Ybaf.underlying25 hi3 z1 E L n (ints .i64 (fil p (can s))) rfl (hown.out.alloc _) ⟨wr.heap.size, 0, none⟩ 1 1 (ints .i64 [p]) rfl rfl hnew.out (ints_one _ _) (by omega) ?_)
                intro w2 ho hg
                obtain ⟨h4, hL2⟩ := hgo.out w2 ho hg hcp.out
                replace h4 := hide h4; replace hL2 := hide hL2
                clear ho hg hgo hown hnew c1
                go_wp2_with fail
                exact ⟨⟨p + 1, L + 1, by omega, hL2, by omega, by simp, rfl, h4⟩, by simp [intOf]; omega⟩
              · rw [hs1] at c1
                obtain ⟨k, hk⟩ : ∃ k, k = (s.inbox.getD p []).length := ⟨_, rfl⟩
                rw [← hk] at c2 hs2
                have hk0 : (0 : Int) < (k : Int) := by omega
                replace hcp := hide hcp; replace hs1 := hide hs1; replace hk := hide hk
                clear h3
                go_wp2_with (at_builtin; refine wpList_append_fits _ rfl _ _ 25 rfl E 3 i3 1 Ybaf.underlying25 hi3 z1 E L n (ints .i64 (fil p (can s))) rfl (hown.out.alloc _) ⟨wr.heap.size, 0, none⟩ 1 1 (ints .i64 [p]) rfl rfl hnew.out (ints_one _ _) (by omega) ?_)
                intro w2 ho hg
                obtain ⟨h4, hL2⟩ := hgo.out w2 ho hg hcp.out
                replace h4 := hide h4; replace hL2 := hide hL2
                clear ho hg hgo hown hnew c1 c2
                go_wp2_with fail
                exact ⟨⟨p + 1, L + 1, by omega, hL2, by omega, by simp, rfl, h4⟩, by simp [intOf]; omega⟩
            · have hcp' : can s p = false := by simpa using hcp
              have hs1 : s.sent.getD p false = true := by
                rw [can] at hcp'
                cases h : s.sent.getD p false with
                | false => rw [h] at hcp'; cases hcp'
                | true => rfl
              have hs2 : (s.inbox.getD p []).length = 0 := by
                rw [can, hs1] at hcp'
                cases h : s.inbox.getD p [] with
                | nil => rfl
                | cons a t => rw [h] at hcp'; cases hcp'
              rw [hs1] at c1
              rw [hs2] at c2
              have h4 : Hid (DW w1 wr Sb Pb E n s.sent (pdOf s) (fil (p + 1) (can s))) := by
                show DW _ _ _ _ _ _ _ _ _
                rw [fil_succ, hcp']; simpa using h3.out
              have hL2 : Hid (L = (fil (p + 1) (can s)).length) := by show _ = _; rw [fil_succ, hcp']; simpa using hL.out
              replace hcp := hide hcp; replace hcp' := hide hcp'; replace hs1 := hide hs1; replace hs2 := hide hs2
              clear h3
              go_wp2_with fail
              exact ⟨⟨p + 1, L, by omega, hL2, by omega, by simp, rfl, h4⟩, by simp [intOf]; omega⟩
          · obtain rfl : n = p := by omega
            obtain ⟨N, hN⟩ : ∃ N, N = (enOf n s).length := ⟨_, rfl⟩
            obtain rfl : L = N := by rw [hL.out, hN]; rfl
            have h4 : Hid (DW w1 wr Sb Pb E n s.sent (pdOf s) (enOf n s)) := h3.out
            have hL0 : 0 < L := by rw [hN]; exact List.length_pos_iff.2 (hen.out hil)
            have hL0' : ¬ (L : Int) = 0 := by omega
            have hL0p : (0 : Int) < (L : Int) := by omega
            have hLi : (L : Int) ≤ (n : Int) := by omega
            have hbl := h4.out.bl
            have q1 := hF.out.rb2 wr hbl
            have q2 : wr.cell? ⟨ga, i, none⟩ = some (.int .i64 (L : Int)) := by
              rw [hF.out.ar i hil wr hbl, argsOf_get hil, ← hs.out, ← hN]
            have q3 := hF.out.x1 wr hbl
            obtain ⟨p, hp⟩ : ∃ p, p = pickOf ch n s := ⟨_, rfl⟩
            have q4 : wr.cell? ⟨gs, i * 3 + 1, none⟩ = some (.int .i64 (p : Int)) := by
              obtain ⟨ms, hms⟩ := hstp.out hil
              rw [← hp] at hms
              exact (hF.out.st i p ms hms).2.1 wr hbl
            have hpf := hide (pick_facts (c := ch) (hen.out hil))
            rw [← hp] at hpf
            have hpn2 := hpf.out.1
            have hpn2' : (p : Int) < (n : Int) := by omega
            obtain ⟨idx, hidx⟩ : ∃ idx, idx = ch i % L := ⟨_, rfl⟩
            have hidL : idx < L := by rw [hidx]; exact Nat.mod_lt _ hL0
            have hidL' : (idx : Int) < (L : Int) := by omega
            have q5 : wr.cell? ⟨E, idx, none⟩ = some (.int .i64 (p : Int)) := by
              rw [h4.out.at (by rw [← hN]; exact hidL), hp, pickOf, hsl.out, ← hN, ← hidx]
            have c1 := h4.out.sent (p := p) (by rw [hinv.out.ls]; exact hpn2)
            have c2 := h4.out.pend (p := p) (by rw [pdOf_len, hinv.out.li]; exact hpn2)
            rw [pdOf_get] at c2
            have hstep : Hid (runOf ch n (i + 1) = if s.sent.getD p false = true then recvOf p s else sendOf n p s) := by
              show stepOf ch n (runOf ch n i) = _
              rw [← hs.out, stepOf, ← hp]
            have hklt : Hid (∀ q, q < n → (s.inbox.getD q []).length ≤ 1000) := by
              intro q hq
              obtain ⟨x, hx⟩ : ∃ x, s.inbox[q]? = some x := ⟨_, List.getElem?_eq_getElem (by rw [hinv.out.li]; exact hq)⟩
              have h1 := sum_zero_mem hx
              have h2 := hinv.out.tot
              have h3 := sents_le s.sent
              rw [hinv.out.ls] at h3
              have h4 : n * sents s.sent ≤ 24 * 24 := Nat.mul_le_mul hn24 (by omega)
              simp [List.getD_eq_getElem?_getD, hx]
              omega
            have hkm1 := hklt.out p hpn2
            obtain ⟨k, hk⟩ : ∃ k, k = (s.inbox.getD p []).length := ⟨_, rfl⟩
            rw [← hk] at c2 hkm1
            have hkm1' : (k : Int) ≤ 1000 := by omega
            have cf : wr.frozen? ⟨Sb, p, none⟩ = false := froz_blk h4.out.sb _
            have cg : wr.frozen? ⟨Pb, p, none⟩ = false := froz_blk h4.out.pb _
            replace hN := hide hN; replace hp := hide hp; replace hk := hide hk
            clear h3 hp hpn
            by_cases hic : i < len
            · have hic' : (i : Int) < (len : Int) := by omega
              rcases hch.out i with ⟨_, b, off, rfl, hbB, hcell⟩ | ⟨hge, _⟩
              · have q6 : wr.cell? ⟨b, off + i, none⟩ = some (.int .u8 ((ch i : Nat) : Int)) := by
                  rw [hbl.cell (show b < w1.heap.size from Nat.lt_of_lt_of_le hbB (Nat.le_trans hbA.out.size hb1.out.size)), hb1.out.cell (show b < w.heap.size from hbB), hbA.out.cell (show b < w.heap.size from hbB)]
                  exact hcell
                have hc2 := hc5.out i
                obtain ⟨c, hc⟩ : ∃ c, c = ch i := ⟨_, rfl⟩
                rw [← hc] at q6 hc2 hidx
                have hc2' : (c : Int) ≤ 255 := by omega
                have hmod : (c : Int) % (L : Int) = (idx : Int) := by rw [hidx]; omega
                replace hc := hide hc; replace hbl := hide hbl; replace hidx := hide hidx; replace hcell := hide hcell
                by_cases hsp : s.sent.getD p false = true
                · rw [hsp] at c1
                  rw [if_pos hsp] at hstep
                  have hk1 : 1 ≤ k := by
                    have := hpf.out.2
                    rw [can, hsp] at this
                    rw [hk.out]
                    cases h' : s.inbox.getD p [] with
                    | nil => rw [h'] at this; cases this
                    | cons a t => simp
                  obtain ⟨km, hkm⟩ : ∃ km : Nat, (k : Int) - 1 = (km : Int) := ⟨k - 1, by omega⟩
                  have h5 : Hid (DW w1 (wr.setCell ⟨Pb, p, none⟩ (.int .i64 (km : Int))) Sb Pb E n (runOf ch n (i + 1)).sent (pdOf (runOf ch n (i + 1))) (enOf n s)) := by
                    have := h4.out.put (q := p) (v := km)
                    show DW _ _ _ _ _ _ _ _ _
                    rw [hstep.out, pdOf_recv, ← hk.out, show k - 1 = km by omega]
                    exact this
                  replace hsp := hide hsp
                  clear h4
                  go_wp2_with fail
                  exact ⟨⟨i + 1, enOf n s, L, by omega, hN, by omega, by simp, rfl, h5⟩, by simp [intOf]; omega⟩
                · have hsp' : s.sent.getD p false = false := by simpa using hsp
                  rw [hsp'] at c1
                  rw [if_neg hsp] at hstep
                  have h5 : Hid (DW w1 (wr.setCell ⟨Sb, p, none⟩ (.bool true)) Sb Pb E n (s.sent.set p true) (pdOf (midS n p s 0)) (enOf n s)) := by
                    show DW _ _ _ _ _ _ _ _ _
                    rw [pdOf_mid_zero hinv.out.li]
                    exact h4.out.mark
                  have hmid : Hid (∀ q, q < n → (s.inbox.getD q []).length ≤ 1000) := hklt
                  replace hsp := hide hsp; replace hsp' := hide hsp'
                  clear h4
                  go_wp2_with fail
                  clear c1 c2 cf cg q1 q2 q3 q4 q5 hkm1
                  go_loopw [16] (fun t wr => ∃ q : Nat, q ≤ n ∧ t = .int .i64 (q : Int) ∧ Hid (DW w1 wr Sb Pb E n (s.sent.set p true) (pdOf (midS n p s q)) (enOf n s))) (fun t _ => n - (intOf t).toNat)
                  case atStart => exact ⟨0, Nat.zero_le _, rfl, h5⟩
                  case round =>
                    clear h5
                    obtain ⟨q, hq, rfl, h6⟩ := hrel
                    by_cases hqn : q < n
                    · have hqn' : (q : Int) < (n : Int) := by omega
                      by_cases hqp : q = p
                      · obtain rfl : p = q := hqp.symm
                        have h7 : Hid (DW w1 wr Sb Pb E n (s.sent.set p true) (pdOf (midS n p s (p + 1))) (enOf n s)) := by
                          show DW _ _ _ _ _ _ _ _ _
                          rw [midS_self]; exact h6.out
                        clear h6
                        go_wp2_with fail
                        exact ⟨⟨p + 1, by omega, by simp, h7⟩, by simp [intOf]; omega⟩
                      · have hqp' : ¬ (q : Int) = (p : Int) := by omega
                        have c3 := h6.out.pend (p := q) (by rw [pdOf_len, midS_len]; exact hqn)
                        rw [pdOf_get, midS_get hqn] at c3
                        have cf3 : wr.frozen? ⟨Pb, q, none⟩ = false := froz_blk h6.out.pb _
                        have hkq := hmid.out q hqn
                        obtain ⟨kq, hkqe⟩ : ∃ kq, kq = (s.inbox.getD q []).length := ⟨_, rfl⟩
                        rw [← hkqe] at c3 hkq
                        have hkq' : (kq : Int) ≤ 1000 := by omega
                        have h7 : Hid (DW w1 (wr.setCell ⟨Pb, q, none⟩ (.int .i64 ((kq : Int) + 1))) Sb Pb E n (s.sent.set p true) (pdOf (midS n p s (q + 1))) (enOf n s)) := by
                          have := h6.out.put (q := q) (v := kq + 1)
                          show DW _ _ _ _ _ _ _ _ _
                          rw [pdOf_mid_next hqn hqp, ← hkqe]
                          simpa using this
                        replace hqp := hide hqp; replace hkqe := hide hkqe
                        clear h6
                        go_wp2_with fail
                        exact ⟨⟨q + 1, by omega, by simp, h7⟩, by simp [intOf]; omega⟩
                    · obtain rfl : n = q := by omega
                      have h7 : Hid (DW w1 wr Sb Pb E n (runOf ch n (i + 1)).sent (pdOf (runOf ch n (i + 1))) (enOf n s)) := by
                        show DW _ _ _ _ _ _ _ _ _
                        rw [hstep.out, ← midS_end]; exact h6.out
                      clear h6
                      go_wp2_with fail
                      exact ⟨⟨i + 1, enOf n s, L, by omega, hN, by omega, by simp, rfl, h7⟩, by simp [intOf]; omega⟩
              · omega
            · have hic' : ¬ (i : Int) < (len : Int) := by omega
              have hz : ch i = 0 := by
                rcases hch.out i with ⟨hlt, _⟩ | ⟨_, h⟩
                · omega
                · exact h
              obtain rfl : idx = 0 := by rw [hidx, hz]; simp
              replace hz := hide hz; replace hbl := hide hbl; replace hidx := hide hidx
              by_cases hsp : s.sent.getD p false = true
              · rw [hsp] at c1
                rw [if_pos hsp] at hstep
                have hk1 : 1 ≤ k := by
                  have := hpf.out.2
                  rw [can, hsp] at this
                  rw [hk.out]
                  cases h' : s.inbox.getD p [] with
                  | nil => rw [h'] at this; cases this
                  | cons a t => simp
                obtain ⟨km, hkm⟩ : ∃ km : Nat, (k : Int) - 1 = (km : Int) := ⟨k - 1, by omega⟩
                have h5 : Hid (DW w1 (wr.setCell ⟨Pb, p, none⟩ (.int .i64 (km : Int))) Sb Pb E n (runOf ch n (i + 1)).sent (pdOf (runOf ch n (i + 1))) (enOf n s)) := by
                  have := h4.out.put (q := p) (v := km)
                  show DW _ _ _ _ _ _ _ _ _
                  rw [hstep.out, pdOf_recv, ← hk.out, show k - 1 = km by omega]
                  exact this
                replace hsp := hide hsp
                clear h4
                go_wp2_with fail
                exact ⟨⟨i + 1, enOf n s, L, by omega, hN, by omega, by simp, rfl, h5⟩, by simp [intOf]; omega⟩
              · have hsp' : s.sent.getD p false = false := by simpa using hsp
                rw [hsp'] at c1
                rw [if_neg hsp] at hstep
                have h5 : Hid (DW w1 (wr.setCell ⟨Sb, p, none⟩ (.bool true)) Sb Pb E n (s.sent.set p true) (pdOf (midS n p s 0)) (enOf n s)) := by
                  show DW _ _ _ _ _ _ _ _ _
                  rw [pdOf_mid_zero hinv.out.li]
                  exact h4.out.mark
                have hmid : Hid (∀ q, q < n → (s.inbox.getD q []).length ≤ 1000) := hklt
                replace hsp := hide hsp; replace hsp' := hide hsp'
                clear h4
                go_wp2_with fail
                clear c1 c2 cf cg q1 q2 q3 q4 q5 hkm1
                go_loopw [16] (fun t wr => ∃ q : Nat, q ≤ n ∧ t = .int .i64 (q : Int) ∧ Hid (DW w1 wr Sb Pb E n (s.sent.set p true) (pdOf (midS n p s q)) (enOf n s))) (fun t _ => n - (intOf t).toNat)
                case atStart => exact ⟨0, Nat.zero_le _, rfl, h5⟩
                case round =>
                  clear h5
                  obtain ⟨q, hq, rfl, h6⟩ := hrel
                  by_cases hqn : q < n
                  · have hqn' : (q : Int) < (n : Int) := by omega
                    by_cases hqp : q = p
                    · obtain rfl : p = q := hqp.symm
                      have h7 : Hid (DW w1 wr Sb Pb E n (s.sent.set p true) (pdOf (midS n p s (p + 1))) (enOf n s)) := by
                        show DW _ _ _ _ _ _ _ _ _
                        rw [midS_self]; exact h6.out
                      clear h6
                      go_wp2_with fail
                      exact ⟨⟨p + 1, by omega, by simp, h7⟩, by simp [intOf]; omega⟩
                    · have hqp' : ¬ (q : Int) = (p : Int) := by omega
                      have c3 := h6.out.pend (p := q) (by rw [pdOf_len, midS_len]; exact hqn)
                      rw [pdOf_get, midS_get hqn] at c3
                      have cf3 : wr.frozen? ⟨Pb, q, none⟩ = false := froz_blk h6.out.pb _
                      have hkq := hmid.out q hqn
                      obtain ⟨kq, hkqe⟩ : ∃ kq, kq = (s.inbox.getD q []).length := ⟨_, rfl⟩
                      rw [← hkqe] at c3 hkq
                      have hkq' : (kq : Int) ≤ 1000 := by omega
                      have h7 : Hid (DW w1 (wr.setCell ⟨Pb, q, none⟩ (.int .i64 ((kq : Int) + 1))) Sb Pb E n (s.sent.set p true) (pdOf (midS n p s (q + 1))) (enOf n s)) := by
                        have := h6.out.put (q := q) (v := kq + 1)
                        show DW _ _ _ _ _ _ _ _ _
                        rw [pdOf_mid_next hqn hqp, ← hkqe]
                        simpa using this
                      replace hqp := hide hqp; replace hkqe := hide hkqe
                      clear h6
                      go_wp2_with fail
                      exact ⟨⟨q + 1, by omega, by simp, h7⟩, by simp [intOf]; omega⟩
                  · obtain rfl : n = q := by omega
                    have h7 : Hid (DW w1 wr Sb Pb E n (runOf ch n (i + 1)).sent (pdOf (runOf ch n (i + 1))) (enOf n s)) := by
                      show DW _ _ _ _ _ _ _ _ _
                      rw [hstep.out, ← midS_end]; exact h6.out
                    clear h6
                    go_wp2_with fail
                    exact ⟨⟨i + 1, enOf n s, L, by omega, hN, by omega, by simp, rfl, h7⟩, by simp [intOf]; omega⟩
      · obtain rfl : m = i := by omega
        have hnil := en_nil (hend.out rfl)
        replace hnil := hide hnil
        go_wp2_with fail
        go_loopw [17] (fun t wr => ∃ q : Nat, q ≤ n ∧ t = .int .i64 (q : Int) ∧ Hid (DW w1 wr Sb Pb E n s.sent (pdOf s) l)) (fun t _ => n - (intOf t).toNat)
        case atStart => exact ⟨0, Nat.zero_le _, rfl, h1⟩
        case round =>
          clear h1
          obtain ⟨q, hq, rfl, h6⟩ := hrel
          by_cases hqn : q < n
          · have hqn' : (q : Int) < (n : Int) := by omega
            have c1 := h6.out.sent (p := q) (by rw [hinv.out.ls]; exact hqn)
            have c2 := h6.out.pend (p := q) (by rw [pdOf_len, hinv.out.li]; exact hqn)
            rw [pdOf_get, (hnil.out q hqn).2] at c2
            rw [(hnil.out q hqn).1] at c1
            go_wp2_with fail
            exact ⟨⟨q + 1, by omega, by simp, h6⟩, by simp [intOf]; omega⟩
          · obtain rfl : n = q := by omega
            go_wp2
            go_ret
            exact ⟨rfl, (hbA.out.trans hb1.out).trans (h6.out.bl.mono (Nat.le_trans hbA.out.size hb1.out.size))⟩
  · have hlen' : (4096 : Int) < (len : Int) := by omega
    replace hch := hide hch; replace hc5 := hide hc5
    go_enter Ybaf.func4, Ybaf.ntmps4
    go_wp2_with fail
    go_ret
    exact ⟨rfl, Below.refl _ _⟩
end Go.Proofs.YbulkogyFmt
