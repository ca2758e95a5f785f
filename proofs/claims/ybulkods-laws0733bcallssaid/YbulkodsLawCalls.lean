import Derived.Test.YbulkodsLawModel
import Derived.Laws.StructEq
namespace Go.Proofs.Ybulkods
open Go.RowKit
set_option linter.unusedSimpArgs false
set_option linter.unusedVariables false

theorem j_cells {w : World} {J : Nat} {b f nx r m lim hb : Int} (h : w.heap[J]? = some (.cells (jbCells b f nx r m lim hb).toArray 34 (0, 0))) :
    w.cell? ⟨J, 0, none⟩ = some (.int .i64 b) ∧ w.cell? ⟨J, 1, none⟩ = some (.int .i64 f) ∧ w.cell? ⟨J, 2, none⟩ = some (.int .i64 nx) ∧ w.cell? ⟨J, 3, none⟩ = some (.int .i64 r) ∧ w.cell? ⟨J, 4, none⟩ = some (.int .i64 m) ∧ w.cell? ⟨J, 5, none⟩ = some (.int .i64 0) ∧ w.cell? ⟨J, 6, none⟩ = some (.int .i64 0) ∧ w.cell? ⟨J, 7, none⟩ = some (.bool false) ∧ w.cell? ⟨J, 8, none⟩ = some (.bool false) ∧ w.cell? ⟨J, 9, none⟩ = some (.int .i64 lim) ∧ w.cell? ⟨J, 10, none⟩ = some (.int .u64 hb) :=
  ⟨cell_blk h rfl, cell_blk h rfl, cell_blk h rfl, cell_blk h rfl, cell_blk h rfl, cell_blk h rfl, cell_blk h rfl, cell_blk h rfl, cell_blk h rfl, cell_blk h rfl, cell_blk h rfl⟩

theorem Sk.alloc {w : World} {T B : Nat} {hv fv av : Value} {to b r m : Int} {h F A : List Int} (hs : Sk w T B hv fv av to b r m h F A) (o : Obj) : Sk (w.alloc o) T B hv fv av to b r m h F A :=
  ⟨(Below.heap_alloc _ _ _ (lt_of_block hs.hT)).trans hs.hT, hs.oh.alloc o, hs.oF.alloc o, hs.oA.alloc o, hs.hF, hs.hA, hs.FA, hs.hTB, by simp; have := hs.hB; omega⟩

/-- What the law reads after the server. -/
theorem hp_out {w w' : World} {T B : Nat} {hv : Value} {to b nx r m : Int} {h : List Int} {res : Int × Bool} {e : Ending} (hp : HP w w' T B hv to b nx r m h res e) :
    ∃ (gf : Nat) (aa : Option Addr) (cf ca nf na nA : Nat) (F ans : List Int), e = .returned (.tuple #[.int .i64 res.1, .bool res.2]) ∧
      w'.cell? ⟨T, 5, none⟩ = some (.slice (some ⟨gf, 0, none⟩) nf cf) ∧ w'.cell? ⟨T, 6, none⟩ = some (.slice aa na ca) ∧ w'.cell? ⟨T, 7, none⟩ = some (.bool false) ∧
      w'.cell? ⟨gf, 0, none⟩ = some (.int .i64 nx) ∧ nf = nA + 1 ∧ nA ≤ na ∧ na ≤ 1000001 ∧ (res.2 = true → na = nA + 1 ∧ ∃ g, aa = some ⟨g, 0, none⟩ ∧ w'.cell? ⟨g, nA, none⟩ = some (.int .i64 res.1)) ∧ (res.2 = false → res.1 = 0) ∧
      Hid (∀ i, i < nA → ∃ v g, aa = some ⟨g, 0, none⟩ ∧ 0 ≤ v ∧ v ≤ 2000 ∧ w'.cell? ⟨g, i, none⟩ = some (.int .i64 v) ∧ w'.cell? ⟨gf, i + 1, none⟩ = some (.int .i64 (v + 1))) ∧ Hid (Keep w w') ∧ Hid (Below B w w') := by
  obtain ⟨fv, av, A, ans, rfl, hsk, hres, hz, hor, hk, hbel, hbd, hal⟩ := hp
  obtain ⟨af, cf, rfl⟩ := own_form hsk.oF
  obtain ⟨aa, ca, rfl⟩ := own_form hsk.oA
  obtain ⟨gf, rfl, hc0⟩ := own_cell hsk.oF (j := 0) (v := nx) rfl
  have hpre : ∀ (i : Nat), i < A.length → ∃ v, A[i]? = some v ∧ ans[i]? = some v := by
    intro i hi
    refine ⟨A[i], by simp [hi], ?_⟩
    rcases hor with rfl | ⟨y, rfl⟩
    · simp [hi]
    · rw [List.getElem?_append_left hi]; simp [hi]
  refine ⟨gf, aa, cf, ca, _, _, A.length, nx :: A.map (· + 1), ans, rfl, cell_blk hsk.hT rfl, cell_blk hsk.hT rfl, cell_blk hsk.hT rfl, hc0, by simp, ?_, hal, ?_, hz, ?_, hk, hbel⟩
  · rcases hor with rfl | ⟨y, rfl⟩ <;> simp
  · intro h2
    have e1 := hres h2
    subst e1
    refine ⟨by simp, ?_⟩
    exact own_cell hsk.oA (by simp)
  · intro i hi
    obtain ⟨v, h1, h2⟩ := hpre i hi
    obtain ⟨g, hg, hc⟩ := own_cell hsk.oA h2
    obtain ⟨g', hg', hc'⟩ := own_cell hsk.oF (j := i + 1) (v := v + 1) (by simp [h1])
    simp only [Option.some.injEq, Addr.mk.injEq, and_true] at hg'
    subst hg'
    have hb := hbd v (List.mem_of_getElem? h2)
    exact ⟨v, g, hg, hb.1, hb.2, hc, hc'⟩

theorem jb_neq (b f nx r m lim hb : Int) (w : World) : (binOp .neq 34 (.agg #[.int .i64 b, .int .i64 f, .int .i64 nx, .int .i64 r, .int .i64 m, .int .i64 0, .int .i64 0, .bool false, .bool false, .int .i64 lim, .int .u64 hb]) (.agg #[.int .i64 b, .int .i64 f, .int .i64 nx, .int .i64 r, .int .i64 m, .int .i64 0, .int .i64 0, .bool false, .bool false, .int .i64 lim, .int .u64 hb])).run Yba.prog w = .ok (.bool false) w := by
  rw [run_neq_struct, run_equalIn_struct w 9999 34 _ _ (by kernel_rfl) (by kernel_rfl)]
  simp [Program.fieldsOf, Yba.underlying34, Op.eqFields, go_sem, part]

set_option maxRecDepth 100000 in
set_option maxHeartbeats 2000000 in
theorem calls_law (a0 a1 a2 a3 a4 : Int) (a5 : Bool) (a6 : Int) (a7 : Option Addr) (len cap : Nat) (zs : List Int) (a8 a9 : Int) (w : World)
    (h00 : 0 ≤ a0) (h01 : a0 ≤ 65535) (h10 : 0 ≤ a1) (h11 : a1 ≤ 255) (h20 : 0 ≤ a2) (h21 : a2 ≤ 255) (h30 : 0 ≤ a3) (h31 : a3 ≤ 255) (h40 : 0 ≤ a4) (h41 : a4 ≤ 65535) (h60 : 0 ≤ a6) (h61 : a6 < 18446744073709551616) (hrow : IsRow .u8 w a7 len cap zs) (hcap : len ≤ maxLen) :
    Calls Yba.prog 4 #[.int .u16 a0, .int .u8 a1, .int .u8 a2, .int .u8 a3, .int .u16 a4, .bool a5, .int .u64 a6, .slice a7 len cap, .int .i64 a8, .int .i64 a9] w fun e w' => e = .returned (.bool true) ∧ Below w.heap.size w w' := by
  have hcap' : (len : Int) ≤ 9223372036854775807 := by unfold maxLen at hcap; omega
  by_cases hlen : len ≤ 1024
  · have hlg : ¬ (1024 : Int) < (len : Int) := by omega
    have hsu := hide (setup_walk a0 a1 a2 a3 a4 a5 a6 a7 len cap zs a8 a9 w h00 h01 h10 h11 h20 h21 h30 h31 h40 h41 hrow hlen)
    have hlim := hide (lim_of (a5 := a5) h00 h40)
    have hf0 : 0 ≤ a0 % 1000 := by omega
    have hf1 : a0 % 1000 ≤ 1000 := by omega
    have hm0 : 0 < a2 % 8 + 1 := by omega
    have hm8 : a2 % 8 + 1 ≤ 8 := by omega
    have hn0 : a0 % 1000 ≤ a0 % 1000 + a1 := by omega
    have hn1 : a0 % 1000 + a1 ≤ a0 % 1000 + 255 := by omega
    unfold SU at hsu
    generalize hf : a0 % 1000 = f at *
    generalize hnx : f + a1 = nx at *
    generalize a3 % (a2 % 8 + 1) = r at *
    generalize a2 % 8 + 1 = m at *
    generalize limOf a0 a4 a5 = lim at *
    clear hf hnx
    go_enter Yba.func4, Yba.ntmps4
    go_wp2_with (go_at_call 5; refine hsu.out.mono ?_; rintro e w1 ⟨T, V, J, ah, ch, vc, H, rfl, hSU⟩; replace hSU := hide hSU; obtain ⟨c0, c1, c2, c3, c4, c5, c6, c7, c8, c9, c10⟩ := j_cells hSU.out.2.2.2.1)
    clear hsu hrow c0 c1 c2 c3 c4 c5 c6 c7 c8 c9 c10
    generalize hO : Obj.cells #[Value.int .i64 a9, Value.int .i64 f, Value.int .i64 nx, Value.int .i64 r, Value.int .i64 m, Value.int .i64 0, Value.int .i64 0, Value.bool false, Value.bool false, Value.int .i64 lim, Value.int .u64 a6] 34 (0, 0) = O
    have hJ1 := (Below.heap_alloc _ O _ (lt_of_block hSU.out.2.2.2.1)).trans hSU.out.2.2.2.1
    have hV1 := (Below.heap_alloc _ O _ (lt_of_block hSU.out.2.1)).trans hSU.out.2.1
    have hC1 := (heap_alloc_new w1 O).trans (congrArg some hO.symm)
    have hcall := held_walk (w1.alloc O) T w.heap.size V J (.slice ah H.length ch) a8 a9 f nx r m lim a6 H vc (hSU.out.1.alloc O) hV1 hSU.out.2.2.1 hJ1 hm0 hm8 hf0 hf1 hn0 hn1 hlim.out.1 hlim.out.2 h60 h61 hSU.out.2.2.2.2.2.1 hSU.out.2.2.2.2.2.2
    have hbel0 := hide (hSU.out.2.2.2.2.1.alloc hSU.out.1.hB O)
    clear hV1 hSU hO
    replace hC1 := hide hC1
    replace hJ1 := hide hJ1
    generalize M H m r lim (fbit f m a6) (f + 255) nx = p at hcall
    generalize w1.alloc O = wa at *
    obtain ⟨es, ok⟩ := p
    refine hcall.mono ?_
    intro e w2 hp
    obtain ⟨gf, aa, cf, ca, nf, na, nA, F, ans, rfl, t5, t6, t7, f0, rfl, hna, hna1, hres, hz, hcs, hkp, hbel⟩ := hp_out hp
    clear hp hcall
    have hJ2 := hide (hkp.out _ _ _ hJ1.out (by decide) (by decide))
    have hC2 := hide (hkp.out _ _ _ hC1.out (by decide) (by decide))
    obtain ⟨c0, c1, c2, c3, c4, c5, c6, c7, c8, c9, c10⟩ := j_cells hJ2.out
    obtain ⟨d0, d1, d2, d3, d4, d5, d6, d7, d8, d9, d10⟩ := j_cells (b := a9) (f := f) (nx := nx) (r := r) (m := m) (lim := lim) (hb := a6) hC2.out
    have hneq := jb_neq a9 f nx r m lim a6
    clear hJ1 hC1 hJ2 hC2 hkp hf0 hf1 hm0 hm8 hlim h00 h01 h10 h11 h20 h21 h30 h31 h40 h41 h60 h61 hlen hlg hcap hn0 hn1
    have hnA : nA ≤ 1000001 := by omega
    have hne : ((nA : Int) + 1 == 0) = false := by simp; omega
    have hlt : ¬ ((na : Int) + 1 < (nA : Int) + 1) := by omega
    cases ok
    · have hes : es = 0 := hz rfl
      subst hes
      clear hres hz
      go_wp2_with fail
      go_quiet (fail)
      go_wp2_with fail
      go_quiet (fail)
      go_wp2_with fail
      go_quiet (fail)
      go_wp2_with fail
      clear c0 c1 c2 c3 c4 c5 c6 c7 c8 c9 c10 d0 d1 d2 d3 d4 d5 d6 d7 d8 d9 d10 hneq hne hlt f0 t7
      go_loopw [28] (fun i wr => ∃ k n : Nat, 1 ≤ k ∧ k ≤ nA + 1 ∧ i = .int .i64 (k : Int) ∧ wr = w2.drewN n) (fun i _ => ((nA : Int) + 2 - intOf i).toNat)
      case atStart => exact ⟨1, _, by omega, by omega, rfl, by simp only [World.drewN_drewN]; rfl⟩
      case round =>
        obtain ⟨k, n, hk1, hk2, rfl, rfl⟩ := hrel
        by_cases hlast : k = nA + 1
        · subst hlast
          go_wp2_with fail
          go_ret
          exact ⟨rfl, below_drewN (hbel0.out.trans hbel.out) _⟩
        · obtain ⟨v, g, rfl, hv0, hv1, hca, hcf⟩ := hcs.out (k - 1) (by omega)
          have hk' : k - 1 + 1 = k := by omega
          rw [hk'] at hcf
          have hki : (k : Int) < (nA : Int) + 1 := by omega
          have hkn : ((k : Int) - 1).toNat = k - 1 := by omega
          have hk0 : k < nA + 1 := by omega
          have hkq : k - 1 < na := by omega
          go_wp2_with fail
          go_quiet (fail)
          go_wp2_with fail
          exact ⟨⟨k + 1, n + nq, by omega, by omega, by simp, rfl⟩, by simp [intOf]; omega⟩
    · obtain ⟨rfl, ga, rfl, hl⟩ := hres rfl
      clear hz hres
      go_wp2_with fail
      go_quiet (fail)
      go_wp2_with fail
      go_quiet (fail)
      go_wp2_with fail
      go_quiet (fail)
      go_wp2_with fail
      clear c0 c1 c2 c3 c4 c5 c6 c7 c8 c9 c10 d0 d1 d2 d3 d4 d5 d6 d7 d8 d9 d10 hneq hne hlt f0 t7
      go_loopw [28] (fun i wr => ∃ k n : Nat, 1 ≤ k ∧ k ≤ nA + 1 ∧ i = .int .i64 (k : Int) ∧ wr = w2.drewN n) (fun i _ => ((nA : Int) + 2 - intOf i).toNat)
      case atStart => exact ⟨1, _, by omega, by omega, rfl, by simp only [World.drewN_drewN]; rfl⟩
      case round =>
        obtain ⟨k, n, hk1, hk2, rfl, rfl⟩ := hrel
        by_cases hlast : k = nA + 1
        · subst hlast
          have hx0 : ((nA : Int) + 1 - 1).toNat = nA := by omega
          have hx1 : (nA : Int) + 1 - 1 = nA := by omega
          have hx2 : nA < nA + 1 := by omega
          go_wp2_with fail
          go_quiet (fail)
          go_wp2_with fail
          go_ret
          exact ⟨rfl, below_drewN (below_drewN (hbel0.out.trans hbel.out) _) _⟩
        · obtain ⟨v, g, hge, hv0, hv1, hca, hcf⟩ := hcs.out (k - 1) (by omega)
          simp only [Option.some.injEq, Addr.mk.injEq, and_true] at hge
          subst hge
          have hk' : k - 1 + 1 = k := by omega
          rw [hk'] at hcf
          have hki : (k : Int) < (nA : Int) + 1 := by omega
          have hkn : ((k : Int) - 1).toNat = k - 1 := by omega
          have hk0 : k < nA + 1 := by omega
          have hkq : k - 1 < nA + 1 := by omega
          go_wp2_with fail
          go_quiet (fail)
          go_wp2_with fail
          exact ⟨⟨k + 1, n + nq, by omega, by omega, by simp, rfl⟩, by simp [intOf]; omega⟩
  · have hlg : (1024 : Int) < (len : Int) := by omega
    go_enter Yba.func4, Yba.ntmps4
    go_wp2
    go_ret
    exact ⟨rfl, Below.refl _ _⟩
end Go.Proofs.Ybulkods
