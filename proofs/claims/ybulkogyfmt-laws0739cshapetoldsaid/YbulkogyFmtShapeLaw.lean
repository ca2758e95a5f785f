import Derived.Test.YbulkogyFmtShapePlain
namespace Go.Proofs.YbulkogyFmt
open Go.RowKit
set_option linter.unusedSimpArgs false
set_option linter.unusedVariables false

set_option maxRecDepth 100000 in
set_option maxHeartbeats 4000000 in
theorem shape_law (a0 a1 : Int) (a2 : Option Addr) (len cap : Nat) (zs : List Int) (w : World) (h00 : 0 ≤ a0) (h01 : a0 ≤ 65535) (h10 : 0 ≤ a1) (h11 : a1 ≤ 65535) (hr : IsRow .u8 w a2 len cap zs) :
    Calls Ybaf.prog 3 #[.int .u16 a0, .int .u16 a1, .slice a2 len cap] w fun e w' => e = .returned (.bool true) ∧ Below w.heap.size w w' := by
  obtain ⟨i3, hi3, z0, z1, z2⟩ := info_parts Ybaf.info3
  obtain ⟨ch, hc5, hch, hml⟩ := row_ans hr
  clear hr
  have hml' : (len : Int) ≤ 9223372036854775807 := by unfold maxLen at hml; omega
  clear hml
  by_cases hlen : len ≤ 4096
  · have hlen' : ¬ (4096 : Int) < (len : Int) := by omega
    obtain ⟨n, hn⟩ : ∃ n : Nat, a0 % 23 + 2 = (n : Int) := ⟨(a0 % 23 + 2).toNat, by omega⟩
    have hn2 : 2 ≤ n := by omega
    have hn24 : n ≤ 24 := by omega
    have hnn : 2 + a0 % 23 = (n : Int) := by omega
    clear hn
    obtain ⟨ev, hev⟩ : ∃ ev : Nat, 1 + a1 = (ev : Int) := ⟨(1 + a1).toNat, by omega⟩
    have hev1 : 1 ≤ ev := by omega
    have hev2 : ev ≤ 65536 := by omega
    have hev2' : (ev : Int) ≤ 65536 := by omega
    obtain ⟨wA, hwA⟩ : ∃ wA, wA = w.alloc (.cells #[.slice a2 len cap, .int .i64 0, .slice none 0 0] 27) := ⟨_, rfl⟩
    have hbA : Below w.heap.size w wA := by rw [hwA]; exact (Below.refl _ w).alloc (Nat.le_refl _) _
    have hRb : wA.heap[w.heap.size]? = some (.cells (rdCells a2 len cap 0 (.slice none 0 0)) 27 (0, 0)) := by rw [hwA]; exact heap_alloc_new w _
    have hcast := hide (cast_any wA n ev w.heap.size len cap w.heap.size a2 ch hn2 hn24 (by omega) (by omega) hRb (fun k => (hch k).below hbA) hc5 (Nat.le_refl _) hbA.size (by omega))
    obtain ⟨m, hm⟩ : ∃ m : Nat, m = n * n := ⟨_, rfl⟩
    have hm1 : m ≤ 576 := by rw [hm]; exact Nat.mul_le_mul hn24 hn24
    have hm1' : (m : Int) ≤ 576 := by omega
    have hmul : (n : Int) * (n : Int) = (m : Int) := by rw [hm]; simp
    have hn' : (n : Int) ≤ 24 := by omega
    have hn2' : 2 ≤ (n : Int) := by omega
    obtain ⟨rc, hrc⟩ : ∃ rc : Nat, rc = n * (n - 1) := ⟨_, rfl⟩
    have hrc1 : rc ≤ 576 := by rw [hrc]; exact Nat.le_trans (Nat.mul_le_mul hn24 (show n - 1 ≤ 24 by omega)) (by decide)
    have hrc1' : (rc : Int) ≤ 576 := by omega
    have hmulr : (n : Int) * ((n : Int) - 1) = (rc : Int) := by
      rw [hrc, show ((n : Int) - 1) = ((n - 1 : Nat) : Int) by omega]; simp
    obtain ⟨z, hz⟩ : ∃ z, z = madeCells #[Value.int .i64 0] n := ⟨_, rfl⟩
    have mk2 : ∀ w' : World, (Instr.makeSlice 25 (.int .i64 (n : Int)) (.int .i64 (n : Int))).run Ybaf.prog w' = .ok (.slice (some ⟨w'.heap.size, 0, none⟩) n n) (w'.alloc (.cells z 3)) := by
      intro w'
      have hr := run_make (P := Ybaf.prog) w' 25 3 i3 (.int .i64 0) Ybaf.underlying25 hi3 z0 .i64 .i64 n n (by omega) (Int.le_refl _) (by rw [z2]; omega) (by omega)
      rw [z1] at hr
      rw [hz]
      simpa [Value.cells] using hr
    have hzl : Hid (z.toList = List.replicate n (.int .i64 0)) := by show _ = _; rw [hz, toList_madeCells_one]
    clear hz
    replace hm := hide hm; replace hRb := hide hRb; replace hch := hide hch; replace hc5 := hide hc5; replace hbA := hide hbA; replace hwA := hide hwA; replace hrc := hide hrc
    go_enter Ybaf.func3, Ybaf.ntmps3
    go_wp2_with fail
    rw [hwA.out.symm]
    refine hcast.out.mono ?_
    intro e w1 hcp
    obtain ⟨Rn, X, H, gs, sc, ga, ac, gm, mc, sa, sk, smc, rfl, hb1, hF⟩ := hcp.read hn2 (by omega)
    rw [← hm.out] at hF
    clear hcp hcast
    rw [show rcN (runOf ch n m) = rc by rw [hm.out, hrc.out]; exact rcN_end ch (by omega)] at hF
    have r0 := hF.rn0 w1 (Below.refl _ _)
    have r2 := hF.rn2 w1 (Below.refl _ _)
    have r3 := hF.rn3 w1 (Below.refl _ _)
    have r4 := hF.rn4 w1 (Below.refl _ _)
    have x0 := hF.x0 w1 (Below.refl _ _)
    have x1 := hF.x1 w1 (Below.refl _ _)
    have x2 := hF.x2 w1 (Below.refl _ _)
    replace hF := hide hF; replace hb1 := hide hb1
    go_wp2_with fail
    have hds0 := hide (DS.start (w1 := w1) hzl.out)
    obtain ⟨Cb, eC⟩ : ∃ Cb, w1.heap.size = Cb := ⟨_, rfl⟩
    obtain ⟨Nb, eN⟩ : ∃ Nb, Cb + 1 = Nb := ⟨_, rfl⟩
    rw [eC, eN] at hds0
    rw [eC, eN]
    clear eN mk2 hzl x0 x1 x2 r0 r2 r3 r4
    replace eC := hide eC
    go_loopw [14, 15] (fun e t wr => ∃ (i mi : Nat) (cnt nx : List Nat), i ≤ m ∧ mi ≤ n ∧ Hid (mi = (runOf ch n i).msgs.length) ∧ e = .int .i64 (mi : Int) ∧ t = .int .i64 (i : Int) ∧ Hid (DS w1 wr Cb Nb cnt nx) ∧ Hid (SInv ch n i cnt nx)) (fun _ t _ => m - (intOf t).toNat)
    case atStart => exact ⟨0, 0, _, _, Nat.zero_le _, Nat.zero_le _, hide rfl, rfl, rfl, hds0, hide (SInv.zero ch n)⟩
    case round =>
      clear hds0
      obtain ⟨i, mi, cnt, nx, hi, hmi, hmie, rfl, rfl, h1, hS⟩ := hrel
      have hbl := hide h1.out.bl
      have q1 := hF.out.x1 wr hbl.out
      have hmi' : (mi : Int) ≤ (n : Int) := by omega
      by_cases hil : i < m
      · have hil' : (i : Int) < (m : Int) := by omega
        have hiln : i < n * n := by rw [← hm.out]; exact hil
        replace hiln := hide hiln
        have hshape := hide (run_shape ch (n := n) (by omega) hiln.out)
        obtain ⟨p, hp⟩ : ∃ p, p = pickOf ch n (runOf ch n i) := ⟨_, rfl⟩
        rw [← hp] at hshape
        have hpn : p < n := by rw [hp]; exact (pick_facts (run_en (c := ch) (by omega) hiln.out)).1
        have hpn' : (p : Int) < (n : Int) := by omega
        have hin := hide (run_inv ch (n := n) (by omega) i (by have := hiln.out; omega))
        obtain ⟨cp, hcp⟩ : ∃ cp, cp = cnt.getD p 0 := ⟨_, rfl⟩
        have hcp1 : cp ≤ 24 := by have := hS.out.le hpn; rw [← hmie.out, ← hcp] at this; omega
        have hcp1' : (cp : Int) ≤ 24 := by omega
        replace hcp := hide hcp
        by_cases hsp : (runOf ch n i).sent.getD p false = true
        · rw [if_pos hsp] at hshape
          rw [← hm.out] at hshape
          have hne : (runOf ch n i).inbox.getD p [] ≠ [] := by
            intro h0
            have := (pick_facts (c := ch) (run_en (c := ch) (n := n) (by omega) hiln.out)).2
            rw [← hp, can, hsp, h0] at this
            cases this
          obtain ⟨x, hx⟩ : ∃ x, x = ((runOf ch n i).inbox.getD p []).headD 0 := ⟨_, rfl⟩
          rw [← hx] at hshape
          obtain ⟨s0, s1, s2⟩ := hF.out.st i p [x] hshape.out
          replace s0 := s0 wr hbl.out; replace s1 := s1 wr hbl.out
          obtain ⟨b, s2, s3⟩ : ∃ b, At w1 gs (i * 3 + 2) (.slice (some ⟨b, 0, none⟩) 1 1) ∧ At w1 b 0 (.int .i64 (x : Int)) := by
            rcases s2 with ⟨e, _⟩ | ⟨x', b, e, e2, e3⟩
            · cases e
            · cases e; exact ⟨b, e2, e3⟩
          replace s2 := s2 wr hbl.out
          replace s3 := hide s3
          have hsn := hS.out.sn p hpn hsp
          rw [← hcp.out, ← hmie.out] at hsn
          have hcp0 : ¬ (cp : Int) = 0 := by omega
          have h2 := hide (h1.out.go ((Below.refl _ wr).alloc (Nat.le_refl _) (.cells #[.int .i64 (i : Int), .int .i64 (p : Int), .slice (some ⟨b, 0, none⟩) 1 1] 38)))
          have hc := h2.out.cnt (p := p) (by rw [hS.out.lc]; exact hpn)
          rw [← hcp.out] at hc
          have hN := h2.out.nx (p := p) (by rw [hS.out.ln]; exact hpn)
          obtain ⟨j0, hj0⟩ : ∃ j, j = nx.getD p 0 := ⟨_, rfl⟩
          rw [← hj0] at hN
          have hsk : Hid (Seek ch n i p j0) := by rw [hj0]; exact hS.out.ib p hpn
          have hj0n : j0 ≤ n := by have := hS.out.nl p hpn; rw [← hmie.out, ← hj0] at this; omega
          have hB16 := hide (heap_alloc_new wr (.cells #[.int .i64 (i : Int), .int .i64 (p : Int), .slice (some ⟨b, 0, none⟩) 1 1] 38))
          replace hp := hide hp; replace hsp := hide hsp; replace hsn := hide hsn; replace hj0 := hide hj0; replace hne := hide hne; replace hx := hide hx
          go_wp2_with fail
          clear hc hN q1 s0 s1 s2
          generalize hwB : (World.alloc wr _) = wB at *
          obtain ⟨B16, hB⟩ : ∃ B16, wr.heap.size = B16 := ⟨_, rfl⟩
          rw [hB] at hB16
          rw [hB]
          have hcell : Hid (wB.cell? ⟨B16, 2, none⟩ = some (.slice (some ⟨b, 0, none⟩) 1 1)) := cell_blk hB16.out rfl
          clear hwB hB hB16 h1 hbl s2
          go_loopw [18] (fun t w2 => ∃ j : Nat, j ≤ n ∧ t = .int .i64 (j : Int) ∧ Hid (Seek ch n i p j) ∧ Hid (DS w1 w2 Cb Nb cnt nx) ∧ Hid (w2.cell? ⟨B16, 2, none⟩ = some (.slice (some ⟨b, 0, none⟩) 1 1))) (fun t _ => n - (intOf t).toNat)
          case atStart => exact ⟨j0, hj0n, rfl, hsk, h2, hcell⟩
          case round =>
            clear h2 hcell hsk hj0n hj0
            obtain ⟨j, hjn, rfl, hsk, h2, hcell⟩ := hrel
            have hbl := hide h2.out.bl
            have hjm : j < mi := by rw [hmie.out]; exact hsk.out.lt hne.out
            have hjm' : (j : Int) < (mi : Int) := by omega
            have hjn' : (j : Int) < (n : Int) := by omega
            have hiln2 : i ≤ n * n := by have := hiln.out; omega
            obtain ⟨e, he⟩ : ∃ e, e = (msf ch n).getD j 0 := ⟨_, rfl⟩
            have hei : e < i := by
              refine run_msgs_lt ch (n := n) (by omega) hiln2 e ?_
              rw [run_take ch hiln2, ← hmie.out, he]
              have hlt : j < (msf ch n).length := by rw [run_fin ch (by omega)]; omega
              rw [List.getD_eq_getElem?_getD, List.getElem?_eq_getElem hlt]
              exact List.mem_take_iff_getElem.2 ⟨j, by omega, rfl⟩
            have hei' : (e : Int) < (m : Int) := by omega
            obtain ⟨r, hr⟩ : ∃ r, r = sdf ch n e := ⟨_, rfl⟩
            have q1 := hF.out.x1 wr hbl.out
            have q2 := hF.out.x2 wr hbl.out
            have q3 := hF.out.mg j (by omega) wr hbl.out
            rw [show (runOf ch n m).msgs.getD j 0 = e by rw [hm.out, he]; rfl] at q3
            have q4 : wr.cell? ⟨gs, e * 3 + 1, none⟩ = some (.int .i64 (r : Int)) := by
              obtain ⟨ms, hms⟩ := run_step ch (n := n) (by omega) (i := e) (j := m) (by omega) (by rw [hm.out]; exact Nat.le_refl _)
              rw [← sdf_pick ch (by omega) (by omega), ← hr] at hms
              exact (hF.out.st e r ms hms).2.1 wr hbl.out
            by_cases hrp : r = p
            · rw [hrp] at q4
              have hsk2 : Hid (Seek ch n i p (j + 1)) := hsk.out.next hiln2 (by rw [← hmie.out]; exact hjm) (by rw [← he, ← hr]; exact hrp)
              replace hrp := hide hrp; replace hr := hide hr; replace he := hide he; replace hiln2 := hide hiln2
              go_wp2_with fail
              go_quiet (fail)
              go_wp2_with fail
              exact ⟨⟨j + 1, by omega, by simp, hsk2, hide (h2.out.drewN nq), hcell⟩, by simp [intOf]; omega⟩
            · have hrp' : ¬ (r : Int) = (p : Int) := by omega
              have hjm2 : ¬ (mi : Int) ≤ (j : Int) := by omega
              have hxe : x = e := by
                rw [hx.out, hsk.out.found hiln2 (by rw [← hmie.out]; exact hjm) (by rw [← he, ← hr]; exact hrp), he]; rfl
              have s4 := s3.out wr hbl.out
              rw [hxe] at s4
              have hS2 := hide (hS.out.recv (by omega) hiln.out hp.out.symm hpn hsp.out hsk.out (by rw [← hmie.out]; exact hjm) (by rw [← he, ← hr]; exact hrp))
              rw [← hcp.out] at hS2
              have hmie2 : Hid (mi = (runOf ch n (i + 1)).msgs.length) := by
                show _ = _
                rw [run_recv ch (by rw [← hp.out]; exact hsp.out), hmie.out]; rfl
              have c1 := h2.out.cnt (p := p) (by rw [hS.out.lc]; exact hpn)
              rw [← hcp.out] at c1
              have c2 := h2.out.nx (p := p) (by rw [hS.out.ln]; exact hpn)
              have hcf := froz_blk h2.out.cb p
              have hnf := froz_blk h2.out.nb p
              have hCN := h2.out.CN
              have hc16 := hcell.out
              have hfin : Hid (∀ k, DS w1 (((wr.drewN k).setCell ⟨Nb, p, none⟩ (.int .i64 ((j : Int) + 1))).setCell ⟨Cb, p, none⟩ (.int .i64 ((cp : Int) + 1))) Cb Nb (cnt.set p (cp + 1)) (nx.set p (j + 1))) := fun k => by
                simpa using ((h2.out.drewN k).putN (p := p) (v := j + 1)).putC (p := p) (v := cp + 1)
              replace hxe := hide hxe; replace hrp := hide hrp; replace hr := hide hr; replace he := hide he; replace hiln2 := hide hiln2
              clear h2
              go_wp2_with fail
              go_quiet (fail)
              go_wp2_with fail
              go_quiet (fail)
              go_wp2_with fail
              exact ⟨⟨i + 1, mi, _, _, by omega, hmi, hmie2, rfl, by simp, hide (hfin.out _), hS2⟩, by simp [intOf]; omega⟩
        · rw [if_neg hsp] at hshape
          rw [← hm.out] at hshape
          obtain ⟨s0, s1, s2⟩ := hF.out.st i p [] hshape.out
          replace s0 := s0 wr hbl.out; replace s1 := s1 wr hbl.out
          replace s2 : wr.cell? ⟨gs, i * 3 + 2, none⟩ = some (.slice none 0 0) := by
            rcases s2 with ⟨_, s2⟩ | ⟨x, b, e, _⟩
            · exact s2 wr hbl.out
            · cases e
          have hun := hS.out.un p hpn (by simpa using hsp)
          rw [← hcp.out] at hun
          obtain rfl : cp = 0 := hun.1
          have hat := msf_at ch (n := n) (by omega) hiln.out (by rw [← hp]; exact hsp)
          rw [← hmie.out] at hat
          have hmin : mi < n := by
            have := (List.getElem?_eq_some_iff.1 hat).1
            rw [run_fin ch (by omega)] at this
            exact this
          have hmin' : (mi : Int) < (n : Int) := by omega
          have h2 := hide (h1.out.go ((Below.refl _ wr).alloc (Nat.le_refl _) (.cells #[.int .i64 (i : Int), .int .i64 (p : Int), .slice none 0 0] 38)))
          have hbl2 := hide h2.out.bl
          have q2 := hF.out.x2 _ hbl2.out
          have q3 := hF.out.mg mi hmin _ hbl2.out
          rw [show (runOf ch n m).msgs.getD mi 0 = i by rw [hm.out, List.getD_eq_getElem?_getD]; unfold msf at hat; rw [hat]; rfl] at q3
          have hc := h2.out.cnt (p := p) (by rw [hS.out.lc]; exact hpn)
          rw [← hcp.out] at hc
          replace hc : World.cell? _ _ = some (.int .i64 0) := hc
          have hcf := froz_blk h2.out.cb p
          have h3 : Hid (DS w1 ((wr.alloc (.cells #[.int .i64 (i : Int), .int .i64 (p : Int), .slice none 0 0] 38)).setCell ⟨Cb, p, none⟩ (.int .i64 1)) Cb Nb (cnt.set p 1) nx) := h2.out.putC (v := 1)
          have hS2 := hide (hS.out.send (by omega) hiln.out hp.symm hpn hsp)
          have hmie2 : Hid (mi + 1 = (runOf ch n (i + 1)).msgs.length) := by
            show _ = _
            rw [run_send ch (by rw [← hp]; exact hsp), hmie.out]; simp [sendOf]
          replace hp := hide hp; replace hsp := hide hsp; replace hun := hide hun; replace hat := hide hat
          go_wp2_with fail
          exact ⟨⟨i + 1, mi + 1, _, _, by omega, by omega, hmie2, by simp, by simp, h3, hS2⟩, by simp [intOf]; omega⟩
      · obtain rfl : m = i := by omega
        have hall := hide (fun p hp => (show SInv ch n (n * n) cnt nx by rw [← hm.out]; exact hS.out).last (p := p) (by omega) hp)
        go_wp2_with fail
        clear q1
        go_loopw [19] (fun t w2 => ∃ q : Nat, q ≤ n ∧ t = .int .i64 (q : Int) ∧ Hid (DS w1 w2 Cb Nb cnt nx)) (fun t _ => n - (intOf t).toNat)
        case atStart => exact ⟨0, Nat.zero_le _, rfl, h1⟩
        case round =>
          clear h1
          obtain ⟨q, hq, rfl, h6⟩ := hrel
          by_cases hqn : q < n
          · have hqn' : (q : Int) < (n : Int) := by omega
            have c1 := h6.out.cnt (p := q) (by rw [hS.out.lc]; exact hqn)
            rw [hall.out q hqn] at c1
            go_wp2_with fail
            exact ⟨⟨q + 1, by omega, by simp, h6⟩, by simp [intOf]; omega⟩
          · obtain rfl : n = q := by omega
            have hb6 := hide h6.out.bl
            clear h6
            go_wp2_with fail
            have hsk1 : sk ≤ 576 := by rw [hF.out.sk]; exact Nat.le_trans (Nat.div_le_self _ _) hm1
            have hsk1' : (sk : Int) ≤ 576 := by omega
            go_loopw [20, 21] (fun k t w2 => ∃ kk g : Nat, kk ≤ sk ∧ g ≤ 70000 ∧ Hid (g = (kk + 1) * ev) ∧ k = .int .i64 (kk : Int) ∧ t = .int .i64 (g : Int) ∧ Hid (Below w1.heap.size w1 w2)) (fun k _ _ => sk - (intOf k).toNat)
            case atStart => exact ⟨0, ev, Nat.zero_le _, by omega, hide (by simp), rfl, rfl, hb6⟩
            case round =>
              clear hb6
              obtain ⟨kk, g, hkk, hg7, hg, rfl, rfl, h7⟩ := hrel
              have hg7' : (g : Int) ≤ 70000 := by omega
              by_cases hgm : g ≤ m
              · have hgm' : (g : Int) ≤ (m : Int) := by omega
                have hks : kk < sk := by
                  rw [hF.out.sk]
                  exact (Nat.le_div_iff_mul_le (by omega)).2 (by rw [← hg.out]; exact hgm)
                have hks' : (kk : Int) < (sk : Int) := by omega
                obtain ⟨g0, rfl, c1⟩ := hF.out.sm kk (by rw [← hF.out.sk]; exact hks)
                replace c1 := c1 wr h7.out
                rw [← hg.out] at c1
                have hg1 : 1 ≤ g := by rw [hg.out]; exact Nat.mul_pos (by omega) (by omega)
                rw [show ((g - 1 : Nat) : Int) = (g : Int) - 1 by omega] at c1
                have c2 := hF.out.rn1 wr h7.out
                have hg2 : Hid (g + ev = (kk + 1 + 1) * ev) := by show _ = _; rw [hg.out, Nat.add_mul (kk + 1)]; simp
                go_wp2_with fail
                exact ⟨⟨kk + 1, g + ev, by omega, by omega, hg2, by simp, by simp, h7⟩, by simp [intOf]; omega⟩
              · have hgm' : ¬ (g : Int) ≤ (m : Int) := by omega
                have hks : kk = sk := by
                  rcases Nat.lt_or_ge kk sk with h | h
                  · rw [hF.out.sk] at h
                    have := (Nat.le_div_iff_mul_le (x := kk + 1) (show 0 < ev by omega)).1 h
                    rw [← hg.out] at this
                    omega
                  · omega
                subst hks
                have c2 := hF.out.rn1 wr h7.out
                go_wp2
                go_ret
                exact ⟨rfl, (hbA.out.trans hb1.out).trans (h7.out.mono (Nat.le_trans hbA.out.size hb1.out.size))⟩
  · have hlen' : (4096 : Int) < (len : Int) := by omega
    replace hch := hide hch; replace hc5 := hide hc5
    go_enter Ybaf.func3, Ybaf.ntmps3
    go_wp2_with fail
    go_ret
    exact ⟨rfl, Below.refl _ _⟩
end Go.Proofs.YbulkogyFmt
