import Derived.Test.YbulkogyFmtOver
namespace Go.Proofs.YbulkogyFmt
open Go.RowKit
set_option linter.unusedSimpArgs false
set_option linter.unusedVariables false

/-- What broadcast leaves. -/
def CP (w w' : World) (n ev Rb B : Nat) (ch : Nat → Nat) (e : Ending) : Prop := ∃ (C : Cx) (w2 : World) (smp : Value), e = .returned (.pointer (some ⟨C.Rn, 0, none⟩)) ∧ C.Rb = Rb ∧ C.n = n ∧ C.B = B ∧ BR w w2 C (runOf ch n (n * n)) (n * n) (rcN (runOf ch n (n * n))) (argsOf ch n (n * n)) [] ∧ SI w2 w' C.Rn C.X (rcN (runOf ch n (n * n))) ev (n * n / ev) smp
theorem cell_set_ne {w : World} {a b o p : Nat} {v : Value} (h : a ≠ b) : (w.setCell ⟨b, o, none⟩ v).cell? ⟨a, p, none⟩ = w.cell? ⟨a, p, none⟩ := by
  unfold World.cell?
  rw [set_blk_ne (b := b) h]
theorem en_start (n : Nat) : enOf n (bs0 n) = List.range n := by
  unfold enOf
  rw [List.filter_eq_self]
  intro x hx
  simp at hx
  simp [can, bs0, List.getD_eq_getElem?_getD, hx]
theorem pick_facts {c : Nat → Nat} {n : Nat} {s : BS} (he : enOf n s ≠ []) : pickOf c n s < n ∧ can s (pickOf c n s) = true := mem_en.1 (pick_mem he)

set_option maxRecDepth 100000 in
set_option maxHeartbeats 4000000 in
theorem cast_any (w : World) (n ev Rb len cap B : Nat) (a2 : Option Addr) (ch : Nat → Nat) (hn2 : 2 ≤ n) (hn : n ≤ 24) (he0 : 0 < ev) (he1 : ev ≤ 70000)
    (hRb : w.heap[Rb]? = some (.cells (rdCells a2 len cap 0 (.slice none 0 0)) 27 (0, 0))) (hch : ∀ k, Ans w a2 len k (ch k) B) (hc5 : ∀ k, ch k ≤ 255) (hRB : B ≤ Rb) (hB : B ≤ w.heap.size) (hlen : len ≤ 5000) :
    Calls Ybaf.prog 5 #[.int .i64 (n : Int), .int .i64 (ev : Int), .iface 24 (.pointer (some ⟨Rb, 0, none⟩))] w fun e w' => CP w w' n ev Rb B ch e := by
  obtain ⟨i3, hi3, z0, z1, z2⟩ := info_parts Ybaf.info3
  obtain ⟨i4, hi4, b0, b1, b2⟩ := info_parts Ybaf.info4
  obtain ⟨i25, hi25, s0, s1, s2⟩ := info_parts Ybaf.info25
  have hn' : (n : Int) ≤ 24 := by omega
  have hn2' : ¬ (n : Int) < 2 := by omega
  obtain ⟨m, hm⟩ : ∃ m : Nat, m = n * n := ⟨_, rfl⟩
  have hm1 : m ≤ 576 := by rw [hm]; exact Nat.mul_le_mul hn hn
  have hmul : (n : Int) * (n : Int) = (m : Int) := by rw [hm]; simp
  have hm1' : (m : Int) ≤ 576 := by omega
  obtain ⟨za, hza⟩ : ∃ za, za = madeCells #[Value.bool false] n := ⟨_, rfl⟩
  obtain ⟨zb, hzb⟩ : ∃ zb, zb = madeCells #[Value.slice none 0 0] n := ⟨_, rfl⟩
  obtain ⟨zc, hzc⟩ : ∃ zc, zc = madeCells #[Value.int .i64 0] n := ⟨_, rfl⟩
  have mk1 : ∀ w' : World, (Instr.makeSlice 40 (.int .i64 (n : Int)) (.int .i64 (n : Int))).run Ybaf.prog w' = .ok (.slice (some ⟨w'.heap.size, 0, none⟩) n n) (w'.alloc (.cells za 4)) := by
    intro w'
    have hr := run_make (P := Ybaf.prog) w' 40 4 i4 (.bool false) Ybaf.underlying40 hi4 b0 .i64 .i64 n n (by omega) (Int.le_refl _) (by rw [b2]; omega) (by omega)
    rw [b1] at hr
    rw [hza]
    simpa [Value.cells] using hr
  have mk2 : ∀ w' : World, (Instr.makeSlice 46 (.int .i64 (n : Int)) (.int .i64 (n : Int))).run Ybaf.prog w' = .ok (.slice (some ⟨w'.heap.size, 0, none⟩) n n) (w'.alloc (.cells zb 25)) := by
    intro w'
    have hr := run_make (P := Ybaf.prog) w' 46 25 i25 (.slice none 0 0) Ybaf.underlying46 hi25 s0 .i64 .i64 n n (by omega) (Int.le_refl _) (by rw [s2]; omega) (by omega)
    rw [s1] at hr
    rw [hzb]
    simpa [Value.cells] using hr
  have mk3 : ∀ w' : World, (Instr.makeSlice 47 (.int .i64 (n : Int)) (.int .i64 (n : Int))).run Ybaf.prog w' = .ok (.slice (some ⟨w'.heap.size, 0, none⟩) n n) (w'.alloc (.cells zc 3)) := by
    intro w'
    have hr := run_make (P := Ybaf.prog) w' 47 3 i3 (.int .i64 0) Ybaf.underlying47 hi3 z0 .i64 .i64 n n (by omega) (Int.le_refl _) (by rw [z2]; omega) (by omega)
    rw [z1] at hr
    rw [hzc]
    simpa [Value.cells] using hr
  have hzal : Hid (za.toList = List.replicate n (.bool false)) := by show _ = _; rw [hza, toList_madeCells_one]
  have hzbl : Hid (zb.toList = List.replicate n (.slice none 0 0)) := by show _ = _; rw [hzb, toList_madeCells_one]
  have hzcl : Hid (zc.toList = List.replicate n (.int .i64 0)) := by show _ = _; rw [hzc, toList_madeCells_one]
  clear hza hzb hzc
  have hnew := hide (new_any w n m (by omega) (by omega))
  replace hm := hide hm; replace hRb := hide hRb; replace hch := hide hch; replace hc5 := hide hc5
  go_enter Ybaf.func5, Ybaf.ntmps5
  go_wp2_with fail
  refine hnew.out.mono ?_
  rintro e w1 ⟨Rn, X, H, stv, rfl, hRn, hN, nRn⟩
  have hst := hide (BR.start hRb.out hB hRB hRn hN nRn hzal.out hzbl.out hzcl.out (show n ≤ maxLen by unfold maxLen; omega))
  replace hRn := hide hRn; replace hN := hide hN
  clear hnew
  go_wp2_with fail
  generalize eBx : w1.heap.size + 1 + 1 + 1 = Bx
  generalize eE : w1.heap.size + 1 + 1 = E
  generalize eIb : w1.heap.size + 1 = Ib
  generalize eSb : w1.heap.size = Sb
  obtain ⟨C, hC⟩ : ∃ C : Cx, C = ⟨Rb, len, cap, Rn, X, H, Sb, Ib, Bx, E, n, B, a2⟩ := ⟨_, rfl⟩
  have hbr : Hid (BR w ((((w1.alloc (.cells za 4)).alloc (.cells zb 25)).alloc (.cells zc 3)).alloc (.cells #[.slice (some ⟨E, 0, none⟩) n n] 47)) C (bs0 n) 0 0 [] (List.replicate n 0)) := by
    rw [hC, ← eSb, ← eIb, ← eE, ← eBx]
    exact hst.out
  have cRb : C.Rb = Rb := by rw [hC]
  have cRn : C.Rn = Rn := by rw [hC]
  have cSb : C.Sb = Sb := by rw [hC]
  have cIb : C.Ib = Ib := by rw [hC]
  have cBx : C.Bx = Bx := by rw [hC]
  have cE : C.E = E := by rw [hC]
  have cn : C.n = n := by rw [hC]
  have cB : C.B = B := by rw [hC]
  have ca : C.a2 = a2 := by rw [hC]
  have cl : C.len = len := by rw [hC]
  clear hC hst mk1 mk2 mk3 hzal hzbl hzcl hN hRn eBx eE eIb eSb
  replace cRb := hide cRb; replace cRn := hide cRn; replace cSb := hide cSb; replace cIb := hide cIb; replace cBx := hide cBx; replace cE := hide cE; replace cn := hide cn; replace cB := hide cB; replace ca := hide ca; replace cl := hide cl
  go_loopw [35] (fun t wr => ∃ p : Nat, p ≤ n ∧ t = .int .i64 (p : Int) ∧ Hid (BR w wr C (bs0 n) 0 0 [] (List.range p ++ List.replicate (n - p) 0))) (fun t _ => n - (intOf t).toNat)
  case atStart => exact ⟨0, by omega, rfl, by simpa using hbr⟩
  case round =>
    clear hbr
    obtain ⟨p, hp, rfl, h1⟩ := hrel
    have x0 : wr.cell? ⟨Bx, 0, none⟩ = some (.slice (some ⟨E, 0, none⟩) n n) := by
      have := h1.out.box
      rw [cBx.out, cE.out, cn.out] at this
      rw [this]; simp; omega
    by_cases hpl : p < n
    · have hpl' : (p : Int) < (n : Int) := by omega
      obtain ⟨v, hv, fv⟩ : ∃ v, wr.cell? ⟨E, p, none⟩ = some v ∧ wr.frozen? ⟨E, p, none⟩ = false := by
        obtain ⟨rest, e1, e2⟩ := h1.out.eaOf.blk
        rw [cE.out] at e1
        exact ⟨_, cell_blk e1 (row_get (k := .i64) (j := p) (by simp; omega)), froz_blk e1 _⟩
      have hnx : Hid (BR w (wr.setCell ⟨E, p, none⟩ (.int .i64 (p : Int))) C (bs0 n) 0 0 [] (List.range (p + 1) ++ List.replicate (n - (p + 1)) 0)) := by
        have := BR.lay (C := C) (p := p) (by rw [cn.out]; exact h1.out) (by rw [cn.out]; exact hpl)
        rw [cE.out, cn.out] at this
        exact this
      go_wp2
      exact ⟨⟨p + 1, by omega, by simp, hnx⟩, by simp [intOf]; omega⟩
    · obtain rfl : n = p := by omega
      go_wp2_with fail
      have h0 : Hid (BR w wr C (runOf ch n 0) 0 (rcN (runOf ch n 0)) (argsOf ch n 0) (enOf n (runOf ch n 0))) := by
        show BR w wr C (bs0 n) 0 0 [] (enOf n (bs0 n))
        rw [en_start]
        simpa using h1.out
      clear h1 x0 hpl hp
      go_loopw [12] (fun _ wr => ∃ i : Nat, i ≤ m ∧ Hid (BR w wr C (runOf ch n i) i (rcN (runOf ch n i)) (argsOf ch n i) (enOf n (runOf ch n i)))) (fun _ wr => m - kOf wr Rb)
      case atStart => exact ⟨0, Nat.zero_le _, h0⟩
      case round =>
        clear h0
        obtain ⟨i, hi, h1⟩ := hrel
        have hk := hide h1.out.k
        have hinv := run_inv ch (n := n) (by omega) i (by rw [← hm.out]; exact hi)
        have hen := hide (fun (h : i < m) => run_en (c := ch) (n := n) (by omega) (i := i) (by rw [← hm.out]; exact h))
        obtain ⟨s, hs⟩ : ∃ s, s = runOf ch n i := ⟨_, rfl⟩
        rw [← hs] at h1 hinv hen
        obtain ⟨hinv, hsl⟩ := hinv
        obtain ⟨N, hN⟩ : ∃ N, N = (enOf n s).length := ⟨_, rfl⟩
        have hNn : N ≤ n := by rw [hN]; exact fil_len _ _
        have x0 : wr.cell? ⟨Bx, 0, none⟩ = some (.slice (some ⟨E, 0, none⟩) N n) := by
          have := h1.out.box
          rw [cBx.out, cE.out, cn.out, ← hN] at this
          exact this
        have hNn' : (N : Int) ≤ (n : Int) := by omega
        by_cases hil : i < m
        · have hN0 : 0 < N := by rw [hN]; exact List.length_pos_iff.2 (hen.out hil)
          have hN0' : (0 : Int) < (N : Int) := by omega
          obtain ⟨p, hp⟩ : ∃ p, p = pickOf ch n s := ⟨_, rfl⟩
          have hpf := hide (pick_facts (c := ch) (hen.out hil))
          rw [← hp] at hpf
          have hpn := hpf.out.1
          have hpn' : (p : Int) < (n : Int) := by omega
          have hdr : Hid (Calls Ybaf.prog 8 #[.slice (some ⟨E, 0, none⟩) N n, .iface 24 (.pointer (some ⟨Rb, 0, none⟩))] wr fun e w' => e = .returned (.int .i64 (p : Int)) ∧ BR w w' C s (i + 1) (rcN s) (argsOf ch n (i + 1)) (enOf n s)) := by
            have := BR.drawC h1.out (c := ch i) (by rw [ca.out, cl.out, cB.out]; exact hch.out i) (hc5.out i) (by omega) (by rw [← hN]; exact hN0) (by rw [cn.out]; omega) (by rw [cl.out]; exact hlen)
            rw [cRb.out, cE.out, cn.out, ← hN] at this
            show Calls _ _ _ _ _
            refine this.mono ?_
            rintro e w' ⟨rfl, h⟩
            refine ⟨?_, ?_⟩
            · rw [hp, pickOf, hsl, ← hN]
            · rw [argsOf_succ, ← hs, ← hN]; exact h
          replace hN := hide hN; replace hp := hide hp; replace hs := hide hs; replace hinv := hide hinv; replace hsl := hide hsl
          clear h1
          go_wp2_with fail
          refine hdr.out.mono ?_
          rintro e w2 ⟨rfl, h2⟩
          replace h2 := hide h2
          clear hdr x0
          by_cases hsp : s.sent.getD p false = true
          · obtain ⟨x, xs, hxs⟩ : ∃ x xs, s.inbox.getD p [] = x :: xs := by
              have hc := hpf.out.2
              rw [can, hsp] at hc
              cases hl : s.inbox.getD p [] with
              | nil => rw [hl] at hc; cases hc
              | cons a t => exact ⟨a, t, rfl⟩
            have hstep : Hid (runOf ch n (i + 1) = recvOf p s) := by
              show stepOf ch n (runOf ch n i) = _
              rw [← hs.out, stepOf, ← hp.out, if_pos hsp]
            have y0 : w2.cell? ⟨Sb, p, none⟩ = some (.bool true) := by
              have := (h2.out.sent (p := p) (by rw [hinv.out.ls]; exact hpn)).1
              rw [cSb.out, hsp] at this
              exact this
            obtain ⟨v, v1, v2, v3, v4⟩ := h2.out.que (q := p) (by rw [cn.out]; exact hpn) (by rw [hinv.out.li, cn.out])
            rw [hxs] at v3
            rw [cIb.out] at v1
            obtain ⟨g, off, vc, rfl, hcell, hle, hmx, hrr⟩ := v3.head
            have hrcn : rcN s ≤ 1000 := by
              have : rcN s ≤ s.steps.length := List.length_filter_le _ _
              rw [hsl.out] at this
              omega
            obtain ⟨xl, hxe⟩ : ∃ xl, xl = xs.length := ⟨_, rfl⟩
            rw [← hxe] at v1
            have hrv : Hid (Calls Ybaf.prog 11 #[.pointer (some ⟨Rn, 0, none⟩), .int .i64 (p : Int), .int .i64 (x : Int)] w2 fun e w' => e = .returned (.tuple #[]) ∧ BR w w' C { s with steps := s.steps ++ [(p, [x])] } (i + 1) (rcN s + 1) (argsOf ch n (i + 1)) (enOf n s)) := by
              have := h2.out.recvC (p := p) (fr := x) (by rw [hsl.out]; omega) hrcn
              rw [cRn.out] at this
              exact this
            replace hxs := hide hxs; replace hxe := hide hxe; replace hsp := hide hsp
            have hxl' : (0 : Int) < (xl : Int) + 1 := by omega
            clear v2 v3 v4 h2 hle hmx hrr
            go_wp2_with fail
            refine hrv.out.mono ?_
            rintro e w3 ⟨rfl, h3⟩
            clear hrv y0 hcell v1
            obtain ⟨v, v1, v2, v3, v4⟩ := h3.que (q := p) (by rw [cn.out]; exact hpn) (by show s.inbox.length = _; rw [hinv.out.li, cn.out])
            have v3' : IRow w3 v (x :: xs) := by rw [← hxs.out]; exact v3
            obtain ⟨g, off, vc, rfl, hcl, hle, hmx, hrest⟩ := v3'.head
            clear hcl
            rw [cIb.out] at v1 v2 v4
            have hle' : xl + 1 ≤ vc := by rw [hxe.out]; exact hle
            have hle2 : (xl : Int) + 1 ≤ (vc : Int) := by omega
            have h1vc : (1 : Int) ≤ (vc : Int) := by omega
            have v6 := v4 w3 _ xs hrest (Upd.refl _ _) (.inl rfl)
            have hst2 : ({ s with steps := s.steps ++ [(p, [x])], inbox := s.inbox.set p xs } : BS) = recvOf p s := by
              rw [recvOf, hxs.out]; rfl
            replace v6 := v6.2.2
            have h6 := v6
            clear v6
            have h7 := hide h6
            rw [show ({ sent := s.sent, inbox := s.inbox.set p xs, steps := s.steps ++ [(p, [x])], msgs := s.msgs } : BS) = recvOf p s from hst2] at h7
            rw [← hxe.out] at h7 v1
            replace hle := hide hle; replace hmx := hide hmx; replace hst2 := hide hst2
            clear h6 h3 v3 v3' v4 hrest hle' 
            clear hst2 hle
            by_cases hvc : vc = 1
            · subst hvc
              obtain rfl : xl = 0 := by omega
              rw [if_pos rfl] at h7
              replace h7 : Hid (BR w (w3.setCell ⟨Ib, p, none⟩ (.slice (some ⟨g, off, none⟩) 0 0)) C (recvOf p s) (i + 1) (rcN s + 1) (argsOf ch n (i + 1)) (enOf n s)) := h7
              have hxn : (s.inbox.getD p []).tail = [] := by
                rw [hxs.out]; exact List.eq_nil_of_length_eq_zero hxe.out.symm
              have hrem : Hid (Calls Ybaf.prog 12 #[.pointer (some ⟨Bx, 0, none⟩), .int .i64 (p : Int)] (w3.setCell ⟨Ib, p, none⟩ (.slice (some ⟨g, off, none⟩) 0 0)) fun e w' => e = .returned (.tuple #[]) ∧ BR w w' C (recvOf p s) (i + 1) (rcN s + 1) (argsOf ch n (i + 1)) (enOf n (recvOf p s))) := by
                have := h7.out.remC (q := p) (by rw [cn.out]; omega) (en_sorted _ _) (mem_en.2 hpf.out)
                rw [cBx.out] at this
                show Calls _ _ _ _ _
                refine this.mono ?_
                rintro e w' ⟨rfl, r, hr, h⟩
                rw [enRecv_rem hpn hinv.out.li hsp.out hpf.out.2 hxn hr] at h
                exact ⟨rfl, h⟩
              replace hxn := hide hxn
              clear h7
              go_wp2_with fail
              refine hrem.out.mono ?_
              rintro e w6 ⟨rfl, h8⟩
              have hk8 := h8.k
              have h9 : Hid (BR w w6 C (runOf ch n (i + 1)) (i + 1) (rcN (runOf ch n (i + 1))) (argsOf ch n (i + 1)) (enOf n (runOf ch n (i + 1)))) := by
                show BR _ _ _ _ _ _ _ _
                rw [hstep.out, rcN_recv]; exact h8
              replace hk8 := hide hk8
              clear hrem v1 v2 h8
              go_wp2_with fail
              refine ⟨⟨i + 1, by omega, h9⟩, ?_⟩
              have e1 := hk8.out
              have e2 := hk.out
              rw [cRb.out] at e1 e2
              rw [e1, e2]
              omega
            · rw [if_neg hvc] at h7
              by_cases hx0 : xl = 0
              · subst hx0
                have hxn : (s.inbox.getD p []).tail = [] := by
                  rw [hxs.out]; exact List.eq_nil_of_length_eq_zero hxe.out.symm
                have hrem : Hid (Calls Ybaf.prog 12 #[.pointer (some ⟨Bx, 0, none⟩), .int .i64 (p : Int)] (w3.setCell ⟨Ib, p, none⟩ (.slice (some ⟨g, off + 1, none⟩) 0 (vc - 1))) fun e w' => e = .returned (.tuple #[]) ∧ BR w w' C (recvOf p s) (i + 1) (rcN s + 1) (argsOf ch n (i + 1)) (enOf n (recvOf p s))) := by
                  have := h7.out.remC (q := p) (by rw [cn.out]; omega) (en_sorted _ _) (mem_en.2 hpf.out)
                  rw [cBx.out] at this
                  show Calls _ _ _ _ _
                  refine this.mono ?_
                  rintro e w' ⟨rfl, r, hr, h⟩
                  rw [enRecv_rem hpn hinv.out.li hsp.out hpf.out.2 hxn hr] at h
                  exact ⟨rfl, h⟩
                replace hxn := hide hxn
                clear h7
                go_wp2_with fail
                refine hrem.out.mono ?_
                rintro e w6 ⟨rfl, h8⟩
                have hk8 := h8.k
                have h9 : Hid (BR w w6 C (runOf ch n (i + 1)) (i + 1) (rcN (runOf ch n (i + 1))) (argsOf ch n (i + 1)) (enOf n (runOf ch n (i + 1)))) := by
                  show BR _ _ _ _ _ _ _ _
                  rw [hstep.out, rcN_recv]; exact h8
                replace hk8 := hide hk8
                clear hrem v1 v2 h8
                go_wp2_with fail
                refine ⟨⟨i + 1, by omega, h9⟩, ?_⟩
                have e1 := hk8.out
                have e2 := hk.out
                rw [cRb.out] at e1 e2
                rw [e1, e2]
                omega
              · have hx0' : ¬ (xl : Int) = 0 := by omega
                have hk8 := h7.out.k
                have h9 : Hid (BR w (w3.setCell ⟨Ib, p, none⟩ (.slice (some ⟨g, off + 1, none⟩) xl (vc - 1))) C (runOf ch n (i + 1)) (i + 1) (rcN (runOf ch n (i + 1))) (argsOf ch n (i + 1)) (enOf n (runOf ch n (i + 1)))) := by
                  show BR _ _ _ _ _ _ _ _
                  rw [hstep.out, rcN_recv, ← enRecv_keep hpn hinv.out.li hsp.out hpf.out.2 (by rw [hxs.out]; intro h; have e := hxe.out; rw [show xs = [] from h] at e; simp at e; omega)]; exact h7.out
                replace hk8 := hide hk8
                clear h7
                go_wp2_with fail
                refine ⟨⟨i + 1, by omega, h9⟩, ?_⟩
                have e1 := hk8.out
                have e2 := hk.out
                rw [cRb.out] at e1 e2
                rw [e1, e2]
                omega
          · have hsp' : s.sent.getD p false = false := by simpa using hsp
            have y0 : w2.cell? ⟨Sb, p, none⟩ = some (.bool false) := by
              have := (h2.out.sent (p := p) (by rw [hinv.out.ls]; exact hpn)).1
              rw [cSb.out, hsp'] at this
              exact this
            have yf : w2.frozen? ⟨Sb, p, none⟩ = false := by
              have := (h2.out.sent (p := p) (by rw [hinv.out.ls]; exact hpn)).2
              rw [cSb.out] at this
              exact this
            have h3 : Hid (BR w (w2.setCell ⟨Sb, p, none⟩ (.bool true)) C { s with sent := s.sent.set p true } (i + 1) (rcN s) (argsOf ch n (i + 1)) (enOf n s)) := by
              have := h2.out.mark (p := p)
              rw [cSb.out] at this
              exact this
            have hsd : Hid (Calls Ybaf.prog 9 #[.pointer (some ⟨Rn, 0, none⟩), .int .i64 (p : Int)] (w2.setCell ⟨Sb, p, none⟩ (.bool true)) fun e w' => e = .returned (.int .i64 (i : Int)) ∧ BR w w' C (midS n p s 0) (i + 1) (rcN s) (argsOf ch n (i + 1)) (enMid n p s 0)) := by
              have := h3.out.sendC (p := p) (by show s.steps.length ≤ 1000; rw [hsl.out]; omega) (by show s.msgs.length ≤ 1000; rw [hinv.out.lm]; have := sents_le s.sent; rw [hinv.out.ls] at this; omega)
              rw [cRn.out] at this
              show Calls _ _ _ _ _
              refine this.mono ?_
              rintro e w' ⟨rfl, h⟩
              refine ⟨by show _ = _; rw [hsl.out], ?_⟩
              rw [midS_zero hinv.out.li, enMid_zero hpf.out.2]
              exact h
            replace hsp := hide hsp; replace hsp' := hide hsp'
            clear h2 h3
            go_wp2_with fail
            refine hsd.out.mono ?_
            rintro e w3 ⟨rfl, h3⟩
            replace h3 := hide h3
            clear hsd y0 yf
            go_wp2_with fail
            have hmid : Hid (∀ q, q < n → (s.inbox.getD q []).length ≤ 1000) := by
              intro q hq
              obtain ⟨x, hx⟩ : ∃ x, s.inbox[q]? = some x := ⟨_, List.getElem?_eq_getElem (by rw [hinv.out.li]; exact hq)⟩
              have h1 := sum_zero_mem hx
              have h2 := hinv.out.tot
              have h3 := sents_le s.sent
              rw [hinv.out.ls] at h3
              have h4 : n * sents s.sent ≤ 24 * 24 := Nat.mul_le_mul hn (by omega)
              simp [List.getD_eq_getElem?_getD, hx]
              omega
            go_loopw [62] (fun t wr => ∃ q : Nat, q ≤ n ∧ t = .int .i64 (q : Int) ∧ Hid (BR w wr C (midS n p s q) (i + 1) (rcN s) (argsOf ch n (i + 1)) (enMid n p s q))) (fun t _ => n - (intOf t).toNat)
            case atStart => exact ⟨0, Nat.zero_le _, rfl, h3⟩
            case round =>
              clear h3
              obtain ⟨q, hq, rfl, h4⟩ := hrel
              by_cases hqn : q < n
              · have hqn' : (q : Int) < (n : Int) := by omega
                by_cases hqp : q = p
                · obtain rfl : p = q := hqp.symm
                  have h5 : Hid (BR w wr C (midS n p s (p + 1)) (i + 1) (rcN s) (argsOf ch n (i + 1)) (enMid n p s (p + 1))) := by
                    show BR _ _ _ _ _ _ _ _
                    rw [midS_self, enMid_self]; exact h4.out
                  go_wp2_with fail
                  exact ⟨⟨p + 1, by omega, by simp, h5⟩, by simp [intOf]; omega⟩
                · have hqp' : ¬ (q : Int) = (p : Int) := by omega
                  obtain ⟨v, v1, v2, v3, v4⟩ := h4.out.que (q := q) (by rw [cn.out]; exact hqn) (by rw [midS_len, cn.out])
                  rw [midS_get hqn] at v3
                  rw [cIb.out] at v1 v2 v4
                  have hxl := hmid.out q hqn
                  obtain ⟨xs, hxs⟩ : ∃ xs, xs = s.inbox.getD q [] := ⟨_, rfl⟩
                  rw [← hxs] at v3 hxl
                  obtain ⟨va, vc, rfl⟩ := v3.form
                  obtain ⟨xl, hxe⟩ : ∃ xl, xl = xs.length := ⟨_, rfl⟩
                  rw [← hxe] at v1 v3 v4 hxl
                  have hxl' : (xl : Int) ≤ 1000 := by omega
                  have st0 : wr.cell? ⟨Sb, q, none⟩ = some (.bool (s.sent.getD q false)) := by
                    have := (h4.out.sent (p := q) (by simp [midS, hinv.out.ls]; exact hqn)).1
                    rw [cSb.out] at this
                    rw [this]
                    simp only [midS]
                    rw [getD_set_ne (Ne.symm hqp)]
                  replace hqp := hide hqp; replace v3 := hide v3; replace v4 := hide v4; replace hxs := hide hxs; replace hxe := hide hxe
                  clear v2
                  go_wp2_with (at_builtin; refine wpList_irow _ rfl _ _ rfl _ xs i rfl (v3.out.upd ((Upd.refl [] wr).alloc _) (by simp)) ⟨wr.heap.size, 0, none⟩ 1 rfl (fun j u hj => new_cells1 wr (ints .i64 [i]) 3 hj) (by have := hxe.out; omega) ?_)
                  intro v5 w5 k1 k2 k3
                  have v6 := v4.out w5 v5 (xs ++ [i]) k1 (((Upd.refl _ wr).alloc _).trans k2) (k3.imp id (fun ⟨g, e1, e2⟩ => ⟨g, e1, by omega⟩))
                  obtain ⟨a5, c5, rfl⟩ := k1.form
                  rw [show (xs ++ [i]).length = xl + 1 by rw [hxe.out]; simp] at v6 k1 ⊢
                  obtain ⟨y1, y2, h6⟩ := v6
                  have h7 : Hid (BR w (w5.setCell ⟨Ib, q, none⟩ (.slice a5 (xl + 1) c5)) C (midS n p s (q + 1)) (i + 1) (rcN s) (argsOf ch n (i + 1)) (enMid n p s q)) := by
                    show BR _ _ _ _ _ _ _ _
                    rw [midS_next hqn hqp.out, ← hxs.out, hsl.out]; exact h6
                  have hSI : ¬ Sb = Ib := by
                    obtain ⟨_, _, _, _, _, _, _, _, hS, hI, _⟩ := h6
                    have := blk_ne hS.se hI.ib (by decide)
                    rw [cSb.out, cIb.out] at this
                    exact this
                  have st1 : w5.cell? ⟨Sb, q, none⟩ = some (.bool (s.sent.getD q false)) := by
                    have := (h7.out.sent (p := q) (by simp [midS, hinv.out.ls]; exact hqn)).1
                    rw [cSb.out, cell_set_ne hSI] at this
                    rw [this]
                    simp only [midS]
                    rw [getD_set_ne (Ne.symm hqp.out)]
                  clear h6 k1 k2 k3 st0 v1 v3 v4 h4
                  have hcan : Hid (can s q = (!(s.sent.getD q false) || !xs.isEmpty)) := by
                    show _ = _
                    rw [can, hxs.out]
                  by_cases hsq : s.sent.getD q false = true
                  · rw [hsq] at st1
                    by_cases hx0 : xl = 0
                    · have hcf : can s q = false := by
                        have : xs = [] := List.eq_nil_of_length_eq_zero (by rw [← hxe.out]; exact hx0)
                        rw [hcan.out, hsq, this]; rfl
                      have hadd : Hid (Calls Ybaf.prog 10 #[.pointer (some ⟨Bx, 0, none⟩), .int .i64 (q : Int)] (w5.setCell ⟨Ib, q, none⟩ (.slice a5 (xl + 1) c5)) fun e w' => e = .returned (.tuple #[]) ∧ BR w w' C (midS n p s (q + 1)) (i + 1) (rcN s) (argsOf ch n (i + 1)) (enMid n p s (q + 1))) := by
                        have := h7.out.addC (q := q) (by rw [cn.out]; omega) (enMid_sorted _ _ _ _) (by rw [cn.out]; exact enMid_lt hqn hqp.out hcf)
                        rw [cBx.out] at this
                        show Calls _ _ _ _ _
                        refine this.mono ?_
                        rintro e w' ⟨rfl, r, hr, h⟩
                        rw [enMid_add hqn hqp.out hcf hr] at h
                        exact ⟨rfl, h⟩
                      subst hx0
                      replace hsq := hide hsq; replace hcf := hide hcf
                      clear h7
                      go_wp2_with fail
                      refine hadd.out.mono ?_
                      rintro e w6 ⟨rfl, h8⟩
                      replace h8 := hide h8
                      clear hadd y1 y2 st1
                      go_wp2_with fail
                      exact ⟨⟨q + 1, by omega, by simp, h8⟩, by simp [intOf]; omega⟩
                    · have hx0' : ¬ (xl : Int) = 0 := by omega
                      have h8 : Hid (BR w (w5.setCell ⟨Ib, q, none⟩ (.slice a5 (xl + 1) c5)) C (midS n p s (q + 1)) (i + 1) (rcN s) (argsOf ch n (i + 1)) (enMid n p s (q + 1))) := by
                        show BR _ _ _ _ _ _ _ _
                        rw [enMid_keep hqn (by rw [hcan.out]; cases xs with | nil => (have := hxe.out; simp at this; omega) | cons a t => simp)]
                        exact h7.out
                      replace hsq := hide hsq
                      clear h7
                      go_wp2_with fail
                      exact ⟨⟨q + 1, by omega, by simp, h8⟩, by simp [intOf]; omega⟩
                  · have hsq' : s.sent.getD q false = false := by simpa using hsq
                    rw [hsq'] at st1
                    have h8 : Hid (BR w (w5.setCell ⟨Ib, q, none⟩ (.slice a5 (xl + 1) c5)) C (midS n p s (q + 1)) (i + 1) (rcN s) (argsOf ch n (i + 1)) (enMid n p s (q + 1))) := by
                      show BR _ _ _ _ _ _ _ _
                      rw [enMid_keep hqn (by rw [hcan.out, hsq']; rfl)]
                      exact h7.out
                    replace hsq := hide hsq; replace hsq' := hide hsq'
                    clear h7
                    go_wp2_with fail
                    exact ⟨⟨q + 1, by omega, by simp, h8⟩, by simp [intOf]; omega⟩
              · obtain rfl : n = q := by omega
                have h5 : Hid (BR w wr C (sendOf n p s) (i + 1) (rcN s) (argsOf ch n (i + 1)) (enMid n p s n)) := by
                  show BR _ _ _ _ _ _ _ _
                  rw [← midS_end]; exact h4.out
                clear h4 hq hqn hmid
                have hstep : Hid (runOf ch n (i + 1) = sendOf n p s) := by
                  show stepOf ch n (runOf ch n i) = _
                  rw [← hs.out, stepOf, ← hp.out, if_neg hsp.out]
                obtain ⟨v, v1, v2, v3, v4⟩ := h5.out.que (q := p) (by rw [cn.out]; exact hpn) (by simp [sendOf, cn.out])
                rw [send_get hpn, if_pos rfl] at v3
                rw [cIb.out] at v1
                obtain ⟨xs, hxs⟩ : ∃ xs, xs = s.inbox.getD p [] := ⟨_, rfl⟩
                rw [← hxs] at v3
                obtain ⟨va, vc, rfl⟩ := v3.form
                obtain ⟨xl, hxe⟩ : ∃ xl, xl = xs.length := ⟨_, rfl⟩
                rw [← hxe] at v1
                clear v2 v3 v4
                by_cases hx0 : xl = 0
                · have hxn : s.inbox.getD p [] = [] := by rw [← hxs]; exact List.eq_nil_of_length_eq_zero (by rw [← hxe]; exact hx0)
                  have hrem : Hid (Calls Ybaf.prog 12 #[.pointer (some ⟨Bx, 0, none⟩), .int .i64 (p : Int)] wr fun e w' => e = .returned (.tuple #[]) ∧ BR w w' C (sendOf n p s) (i + 1) (rcN s) (argsOf ch n (i + 1)) (enOf n (sendOf n p s))) := by
                    have := h5.out.remC (q := p) (by rw [cn.out]; omega) (enMid_sorted _ _ _ _) (enMid_end_mem hpn)
                    rw [cBx.out] at this
                    show Calls _ _ _ _ _
                    refine this.mono ?_
                    rintro e w' ⟨rfl, r, hr, h⟩
                    rw [enMid_end_rem hpn hinv.out.ls hxn hr] at h
                    exact ⟨rfl, h⟩
                  subst hx0
                  replace hxs := hide hxs; replace hxe := hide hxe; replace hxn := hide hxn
                  clear h5
                  go_wp2_with fail
                  refine hrem.out.mono ?_
                  rintro e w6 ⟨rfl, h8⟩
                  have hk8 := h8.k
                  have h9 : Hid (BR w w6 C (runOf ch n (i + 1)) (i + 1) (rcN (runOf ch n (i + 1))) (argsOf ch n (i + 1)) (enOf n (runOf ch n (i + 1)))) := by
                    show BR _ _ _ _ _ _ _ _
                    rw [hstep.out, rcN_send]; exact h8
                  replace hk8 := hide hk8
                  clear hrem v1 h8
                  go_wp2_with fail
                  refine ⟨⟨i + 1, by omega, h9⟩, ?_⟩
                  have e1 := hk8.out
                  have e2 := hk.out
                  rw [cRb.out] at e1 e2
                  rw [e1, e2]
                  omega
                · have hx0' : ¬ (xl : Int) = 0 := by omega
                  have hk8 := h5.out.k
                  have h9 : Hid (BR w wr C (runOf ch n (i + 1)) (i + 1) (rcN (runOf ch n (i + 1))) (argsOf ch n (i + 1)) (enOf n (runOf ch n (i + 1)))) := by
                    show BR _ _ _ _ _ _ _ _
                    rw [hstep.out, rcN_send, ← enMid_end_keep hpn hinv.out.ls (by rw [← hxs]; intro h; rw [h] at hxe; simp at hxe; omega)]; exact h5.out
                  replace hxs := hide hxs; replace hxe := hide hxe; replace hk8 := hide hk8
                  clear h5
                  go_wp2_with fail
                  refine ⟨⟨i + 1, by omega, h9⟩, ?_⟩
                  have e1 := hk8.out
                  have e2 := hk.out
                  rw [cRb.out] at e1 e2
                  rw [e1, e2]
                  omega
        · obtain rfl : m = i := by omega
          have hnil : enOf n s = [] := by rw [hs, hm.out]; exact run_end (by omega)
          obtain rfl : N = 0 := by rw [hN, hnil]; rfl
          rw [hnil] at h1
          obtain ⟨argsv, stv, msv, cs, iv, tg, hA, hR, hS, hI, hE, r⟩ := h1.out
          have hst3 := hR.st
          rw [hsl] at hst3
          obtain ⟨sa, sc, rfl⟩ := own_form hst3
          have hsm : Hid (Calls Ybaf.prog 13 #[.pointer (some ⟨Rn, 0, none⟩), .int .i64 (ev : Int), .int .i64 (ev : Int)] wr fun e w' => SmP wr w' C.Rn C.X (rcN s) ev m e) := by
            have := sample_any wr C.Rn C.X C.H C.n m ev (rcN s) sc sa msv hR.rn hR.x (by omega) he0 he1
            rw [cRn.out] at this ⊢
            exact this
          clear hA hR hS hI hE r hst3
          replace hnil := hide hnil; replace hs := hide hs; replace hN := hide hN; replace hsl := hide hsl; replace hinv := hide hinv
          go_wp2_with fail
          refine hsm.out.mono ?_
          rintro e w6 ⟨smp, rfl, h8⟩
          replace h8 := hide h8
          clear hsm x0
          go_wp2
          go_ret
          refine ⟨C, wr, smp, ?_, cRb.out, cn.out, cB.out, ?_, ?_⟩
          · rw [cRn.out]; rfl
          · rw [← hm.out, ← hs.out]; exact h1.out
          · rw [← hm.out, ← hs.out]; exact h8.out
end Go.Proofs.YbulkogyFmt
