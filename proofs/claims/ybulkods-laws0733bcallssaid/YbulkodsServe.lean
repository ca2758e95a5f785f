import Derived.Test.YbulkodsHeldW
namespace Go.Proofs.Ybulkods
open Go.RowKit
set_option linter.unusedSimpArgs false
set_option linter.unusedVariables false

def jbCells (blk f nx r m lim hb : Int) : List Value := [.int .i64 blk, .int .i64 f, .int .i64 nx, .int .i64 r, .int .i64 m, .int .i64 0, .int .i64 0, .bool false, .bool false, .int .i64 lim, .int .u64 hb]
theorem nil_held (a : Addr) (w : World) : (nilAhead 229 26 (.pointer (some a)) "Held").run Yba.prog w = .ok (some false) w := by kernel_rfl
theorem method_held (a : Addr) (w : World) : (method 229 26 (.pointer (some a)) "Held").run Yba.prog w = .ok (26, .pointer (some a)) w := by kernel_rfl

theorem Held_none (w : World) (T B : Nat) (hv fv av : Value) (to b r m fr : Int) (h F A : List Int) (hs : Sk w T B hv fv av to b r m h F A) (hm0 : 0 < m) (hm8 : m ≤ 8) (hh : ∀ x ∈ h, 0 ≤ x ∧ x ≤ 1000000)
    (hhl : h.length ≤ 1024) (hFl : F.length ≤ 1000000) (hAl : A.length ≤ 1000000) (hb : best fr r m h < 0) :
    Calls Yba.prog 26 #[.pointer (some ⟨T, 0, none⟩), .int .i64 to, .int .i64 b, .int .i64 fr, .int .i64 r, .int .i64 m] w fun e w' => e = .returned (.tuple #[.int .i64 0, .bool false]) ∧ Hid (∃ fv' av', Sk w' T B hv fv' av' to b r m h (F ++ [fr]) A ∧ Keep w w' ∧ Below B w w') := by
  refine (Held_walk w T B hv fv av to b r m fr h F A hs hm0 hm8 hh hhl hFl hAl).mono ?_
  rintro e w' ⟨fv', av', ⟨h1, h2, h3⟩ | ⟨h1, _⟩, h4, h5⟩
  · exact ⟨h2, fv', av', h3, h4, h5⟩
  · omega
theorem Held_some (w : World) (T B : Nat) (hv fv av : Value) (to b r m fr : Int) (h F A : List Int) (hs : Sk w T B hv fv av to b r m h F A) (hm0 : 0 < m) (hm8 : m ≤ 8) (hh : ∀ x ∈ h, 0 ≤ x ∧ x ≤ 1000000)
    (hhl : h.length ≤ 1024) (hFl : F.length ≤ 1000000) (hAl : A.length ≤ 1000000) (v : Int) (hb : best fr r m h = v) (hv0 : 0 ≤ v) :
    Calls Yba.prog 26 #[.pointer (some ⟨T, 0, none⟩), .int .i64 to, .int .i64 b, .int .i64 fr, .int .i64 r, .int .i64 m] w fun e w' => e = .returned (.tuple #[.int .i64 v, .bool true]) ∧ Hid (∃ fv' av', Sk w' T B hv fv' av' to b r m h (F ++ [fr]) (A ++ [v]) ∧ Keep w w' ∧ Below B w w') := by
  subst hb
  refine (Held_walk w T B hv fv av to b r m fr h F A hs hm0 hm8 hh hhl hFl hAl).mono ?_
  rintro e w' ⟨fv', av', ⟨h1, h2, h3⟩ | ⟨h1, h2, h3⟩, h4, h5⟩
  · omega
  · exact ⟨h2, fv', av', h3, h4, h5⟩

theorem all_snoc {A : List Int} {v : Int} (h : ∀ y ∈ A, 0 ≤ y ∧ y ≤ 2000) (h0 : 0 ≤ v) (h1 : v ≤ 2000) : ∀ y ∈ A ++ [v], 0 ≤ y ∧ y ≤ 2000 := by
  intro y hy
  rcases List.mem_append.1 hy with h2 | h2
  · exact h y h2
  · simp at h2; omega

/-- Is v's bit free? -/
def fbit (f m hb v : Int) : Bool := decide (64 ≤ (v - f) / m) || (bits .and .u64 hb (IntKind.u64.wrap (2 ^ ((v - f) / m).toNat)) == 0)
/-- What the server's loop hands back. -/
def HP (w w' : World) (T B : Nat) (hv : Value) (to b nx r m : Int) (h : List Int) (res : Int × Bool) (e : Ending) : Prop :=
  ∃ fv av A ans, e = .returned (.tuple #[.int .i64 res.1, .bool res.2]) ∧ Sk w' T B hv fv av to b r m h (nx :: A.map (· + 1)) ans ∧ (res.2 = true → ans = A ++ [res.1]) ∧ (res.2 = false → res.1 = 0) ∧ (ans = A ∨ ∃ y, ans = A ++ [y]) ∧ Keep w w' ∧ Below B w w' ∧ (∀ y ∈ ans, 0 ≤ y ∧ y ≤ 2000) ∧ ans.length ≤ 1000001

set_option maxRecDepth 100000 in
set_option maxHeartbeats 2000000 in
theorem held_walk (w : World) (T B V J : Nat) (hv : Value) (to b f nx r m lim hb : Int) (h : List Int) (vc : Array Value) (hs : Sk w T B hv (.slice none 0 0) (.slice none 0 0) to b r m h [] [])
    (hV : w.heap[V]? = some (.cells vc 57 (0, 0))) (hVc : vc[11]? = some (.iface 26 (.pointer (some ⟨T, 0, none⟩)))) (hJ : w.heap[J]? = some (.cells (jbCells b f nx r m lim hb).toArray 34 (0, 0)))
    (hm0 : 0 < m) (hm8 : m ≤ 8) (hf0 : 0 ≤ f) (hf1 : f ≤ 1000) (hn0 : f ≤ nx) (hn1 : nx ≤ f + 255) (hl0 : 0 ≤ lim) (hl1 : lim ≤ 2000) (hb0 : 0 ≤ hb) (hb1 : hb < 18446744073709551616)
    (hh : ∀ x ∈ h, f ≤ x ∧ x ≤ f + 255) (hhl : h.length ≤ 1024) :
    Calls Yba.prog 7 #[.pointer (some ⟨V, 0, none⟩), .int .i64 to, .pointer (some ⟨J, 0, none⟩)] w fun e w' => HP w w' T B hv to b nx r m h (M h m r lim (fbit f m hb) (f + 255) nx) e := by
  have v11 : w.cell? ⟨V, 11, none⟩ = some (.iface 26 (.pointer (some ⟨T, 0, none⟩))) := cell_blk hV hVc
  have hna := nil_held ⟨T, 0, none⟩
  have hme := method_held ⟨T, 0, none⟩
  have j2 : w.cell? ⟨J, 2, none⟩ = some (.int .i64 nx) := cell_blk hJ rfl
  replace hs := hide hs; replace hV := hide hV; replace hJ := hide hJ; replace hh := hide hh; replace hVc := hide hVc
  go_enter Yba.func7, Yba.ntmps7
  go_wp2_with fail
  clear j2 v11
  go_loopw [6, 7, 8] (fun es ok fr wr => ∃ (x : Int) (z : Int) (o : Bool) (fv av : Value) (F A : List Int), fr = .int .i64 x ∧ es = .int .i64 z ∧ ok = .bool o ∧ nx ≤ x ∧ x ≤ f + 256 ∧ Hid (Sk wr T B hv fv av to b r m h F A ∧ F ++ [x] = nx :: A.map (· + 1) ∧ M h m r lim (fbit f m hb) (f + 255) x = M h m r lim (fbit f m hb) (f + 255) nx ∧ Keep w wr ∧ Below B w wr ∧ (F.length : Int) ≤ x - nx ∧ (∀ y ∈ A, 0 ≤ y ∧ y ≤ 2000))) (fun _ _ fr _ => (f + 300 - intOf fr).toNat)
  case atStart => exact ⟨nx, 0, false, _, _, [], [], rfl, rfl, rfl, by omega, by omega, hs.out, rfl, rfl, Keep.refl _, Below.refl _ _, by simp, by simp⟩
  case round =>
    obtain ⟨x, z, o, fv, av, F, A, rfl, rfl, rfl, hx0, hx1, hr⟩ := hrel
    have hFl : F.length ≤ 1000000 := by have := hr.out.2.2.2.2.2.1; omega
    have hAl : A.length ≤ 1000000 := by have := congrArg List.length hr.out.2.1; simp at this; omega
    have hVr := hide (fun w' (hk : Keep wr w') => hk _ _ _ (hr.out.2.2.2.1 _ _ _ hV.out (by decide) (by decide)) (by decide) (by decide))
    have hJr := hide (fun w' (hk : Keep wr w') => hk _ _ _ (hr.out.2.2.2.1 _ _ _ hJ.out (by decide) (by decide)) (by decide) (by decide))
    have hkd : Keep wr wr.drew := Keep.refl _
    have keepS := hide (fun w' (hk : Keep wr w') => (⟨hk, cell_blk (hVr.out _ hk) hVc.out, cell_blk (hJr.out _ hk) rfl, cell_blk (hJr.out _ hk) rfl, cell_blk (hJr.out _ hk) rfl⟩ : Keep wr w' ∧ w'.cell? ⟨V, 11, none⟩ = some (.iface 26 (.pointer (some ⟨T, 0, none⟩))) ∧ w'.cell? ⟨J, 0, none⟩ = some (.int .i64 b) ∧ w'.cell? ⟨J, 3, none⟩ = some (.int .i64 r) ∧ w'.cell? ⟨J, 4, none⟩ = some (.int .i64 m)))
    have hhp : ∀ y ∈ h, 0 ≤ y ∧ y ≤ 1000000 := fun y hy => by have := hh.out y hy; omega
    have hbs := hide (best_spec x r m h fun y hy => (hhp y hy).1)
    by_cases hneg : best x r m h < 0
    · have hcall := hide (Held_none wr.drew T B hv fv av to b r m x h F A hr.out.1.drew hm0 hm8 hhp hhl hFl hAl hneg)
      replace hneg := hide hneg
      clear hhp
      go_wp2_with fail
      go_region_held3 (fun w' => Keep wr w' ∧ w'.cell? ⟨V, 11, none⟩ = some (.iface 26 (.pointer (some ⟨T, 0, none⟩))) ∧ w'.cell? ⟨J, 0, none⟩ = some (.int .i64 b) ∧ w'.cell? ⟨J, 3, none⟩ = some (.int .i64 r) ∧ w'.cell? ⟨J, 4, none⟩ = some (.int .i64 m)) (exact keepS.out _ (by assumption))
        (first | (go_at_call 26; refine hcall.out.mono ?_; rintro e w1 ⟨rfl, hres⟩; obtain ⟨fv1, av1, hsk1, hk1', hb1⟩ := hres.out; have hk1 : Keep wr w1 := hk1'; clear hres; replace hsk1 := hide hsk1; replace hb1 := hide hb1))
      have e1 : w1.cell? ⟨J, 1, none⟩ = some (.int .i64 f) := cell_blk (hJr.out _ hk1) rfl
      have e4 : w1.cell? ⟨J, 4, none⟩ = some (.int .i64 m) := cell_blk (hJr.out _ hk1) rfl
      go_wp2_with fail
      go_quiet (fail)
      go_wp2
      go_ret2
      have hM : M h m r lim (fbit f m hb) (f + 255) nx = (0, false) := by
        rw [← hr.out.2.2.1]
        rcases hbs.out with ⟨_, h2⟩ | ⟨h1, _⟩
        · exact M_none h2
        · have := hneg.out; omega
      rw [hM]
      exact ⟨fv1, av1, A, A, rfl, by rw [← hr.out.2.1]; exact hsk1.out.drewN nq, by simp, by simp, .inl rfl, (hr.out.2.2.2.1.trans hk1), below_drewN ((hr.out.2.2.2.2.1.drew).trans hb1.out) nq, hr.out.2.2.2.2.2.2, by omega⟩
    · obtain ⟨v, hbv⟩ : ∃ v, best x r m h = v := ⟨_, rfl⟩
      have hbs2 : 0 ≤ v ∧ v ∈ h ∧ good x r m v = true ∧ ∀ y ∈ h, good x r m y = true → v ≤ y := by
        rcases hbs.out with ⟨h1, _⟩ | h1
        · omega
        · rwa [hbv] at h1
      have hcall := hide (Held_some wr.drew T B hv fv av to b r m x h F A hr.out.1.drew hm0 hm8 hhp hhl hFl hAl v hbv hbs2.1)
      have hvf : f ≤ v := (hh.out v hbs2.2.1).1
      have hvt : v ≤ f + 255 := (hh.out v hbs2.2.1).2
      have hxv : x ≤ v := by have := hbs2.2.2.1; simp [good] at this; exact this.1
      have hMv := hide (M_found (limit := lim) (fb := fbit f m hb) (top := f + 255) (fun y hy => (hh.out y hy).2) hbs2.2.1 hbs2.2.2.1 hbs2.2.2.2)
      clear hhp hneg hbs2 hbs
      replace hbv := hide hbv
      go_wp2_with fail
      go_region_held3 (fun w' => Keep wr w' ∧ w'.cell? ⟨V, 11, none⟩ = some (.iface 26 (.pointer (some ⟨T, 0, none⟩))) ∧ w'.cell? ⟨J, 0, none⟩ = some (.int .i64 b) ∧ w'.cell? ⟨J, 3, none⟩ = some (.int .i64 r) ∧ w'.cell? ⟨J, 4, none⟩ = some (.int .i64 m)) (exact keepS.out _ (by assumption))
        (first | (go_at_call 26; refine hcall.out.mono ?_; rintro e w1 ⟨rfl, hres⟩; obtain ⟨fv1, av1, hsk1, hk1', hb1⟩ := hres.out; have hk1 : Keep wr w1 := hk1'; clear hres; replace hsk1 := hide hsk1; replace hb1 := hide hb1))
      have e1 : w1.cell? ⟨J, 1, none⟩ = some (.int .i64 f) := cell_blk (hJr.out _ hk1) rfl
      have e4 : w1.cell? ⟨J, 4, none⟩ = some (.int .i64 m) := cell_blk (hJr.out _ hk1) rfl
      have e9 : w1.cell? ⟨J, 9, none⟩ = some (.int .i64 lim) := cell_blk (hJr.out _ hk1) rfl
      have e10 : w1.cell? ⟨J, 10, none⟩ = some (.int .u64 hb) := cell_blk (hJr.out _ hk1) rfl
      go_wp2_with fail
      go_quiet (fail)
      by_cases hlim : 0 < lim ∧ lim ≤ v
      · obtain ⟨hl2, hl3⟩ := hlim
        go_wp2
        go_ret2
        have hM : M h m r lim (fbit f m hb) (f + 255) nx = (0, false) := by
          rw [← hr.out.2.2.1, hMv.out, if_pos ⟨hl2, hl3⟩]
        rw [hM]
        exact ⟨fv1, av1, A, A ++ [v], rfl, by rw [← hr.out.2.1]; exact hsk1.out.drewN _, by simp, by simp, .inr ⟨v, rfl⟩, hr.out.2.2.2.1.trans hk1, below_drewN ((hr.out.2.2.2.2.1.drew).trans hb1.out) _, all_snoc hr.out.2.2.2.2.2.2 (by omega) (by omega), by simp; omega⟩
      · have hk0 : 0 ≤ (v - f) / m := Int.ediv_nonneg (by omega) (by omega)
        have hlm := hide hlim
        by_cases hlp : 0 < lim
        · have hlv : ¬ lim ≤ v := fun h => hlim ⟨hlp, h⟩
          have hlv' : decide (lim ≤ v) = false := by simpa using hlv
          clear hlim
          by_cases hk64 : 64 ≤ (v - f) / m
          · go_wp2_with fail
            go_quiet (fail)
            go_wp2
            go_ret2
            have hM : M h m r lim (fbit f m hb) (f + 255) nx = (v, true) := by
              rw [← hr.out.2.2.1, hMv.out, if_neg hlm.out, if_pos (by simp [fbit, hk64])]
            rw [hM]
            exact ⟨fv1, av1, A, A ++ [v], rfl, by rw [← hr.out.2.1]; exact (hsk1.out.drewN _).drewN _, by simp, by simp, .inr ⟨v, rfl⟩, hr.out.2.2.2.1.trans hk1, below_drewN (below_drewN ((hr.out.2.2.2.2.1.drew).trans hb1.out) _) _, all_snoc hr.out.2.2.2.2.2.2 (by omega) (by omega), by simp; omega⟩
          · have hk64' : decide (64 ≤ (v - f) / m) = false := by simpa using hk64
            cases hbit : (bits BinOp.and IntKind.u64 hb (IntKind.u64.wrap (2 ^ ((v - f) / m).toNat)) == 0)
            · go_wp2_with fail
              go_quiet (fail)
              go_wp2
              refine ⟨⟨v + 1, v, true, fv1, av1, F ++ [x], A ++ [v], rfl, rfl, rfl, by omega, by omega, hsk1.out.drewN _, ?_, ?_, hr.out.2.2.2.1.trans hk1, below_drewN ((hr.out.2.2.2.2.1.drew).trans hb1.out) _, ?_, all_snoc hr.out.2.2.2.2.2.2 (by omega) (by omega)⟩, ?_⟩
              · rw [hr.out.2.1]; simp
              · rw [← hr.out.2.2.1, hMv.out, if_neg hlm.out, if_neg (by simp [fbit, hk64', hbit])]
              · have := hr.out.2.2.2.2.2.1; simp; omega
              · simp [intOf]; omega
            · go_wp2_with fail
              go_quiet (fail)
              go_wp2
              go_ret2
              have hM : M h m r lim (fbit f m hb) (f + 255) nx = (v, true) := by
                rw [← hr.out.2.2.1, hMv.out, if_neg hlm.out, if_pos (by simp [fbit, hbit])]
              rw [hM]
              exact ⟨fv1, av1, A, A ++ [v], rfl, by rw [← hr.out.2.1]; exact (hsk1.out.drewN _).drewN _, by simp, by simp, .inr ⟨v, rfl⟩, hr.out.2.2.2.1.trans hk1, below_drewN (below_drewN ((hr.out.2.2.2.2.1.drew).trans hb1.out) _) _, all_snoc hr.out.2.2.2.2.2.2 (by omega) (by omega), by simp; omega⟩
        · have hlp' : decide (0 < lim) = false := by simpa using hlp
          clear hlim
          by_cases hk64 : 64 ≤ (v - f) / m
          · go_wp2_with fail
            go_quiet (fail)
            go_wp2
            go_ret2
            have hM : M h m r lim (fbit f m hb) (f + 255) nx = (v, true) := by
              rw [← hr.out.2.2.1, hMv.out, if_neg hlm.out, if_pos (by simp [fbit, hk64])]
            rw [hM]
            exact ⟨fv1, av1, A, A ++ [v], rfl, by rw [← hr.out.2.1]; exact (hsk1.out.drewN _).drewN _, by simp, by simp, .inr ⟨v, rfl⟩, hr.out.2.2.2.1.trans hk1, below_drewN (below_drewN ((hr.out.2.2.2.2.1.drew).trans hb1.out) _) _, all_snoc hr.out.2.2.2.2.2.2 (by omega) (by omega), by simp; omega⟩
          · have hk64' : decide (64 ≤ (v - f) / m) = false := by simpa using hk64
            cases hbit : (bits BinOp.and IntKind.u64 hb (IntKind.u64.wrap (2 ^ ((v - f) / m).toNat)) == 0)
            · go_wp2_with fail
              go_quiet (fail)
              go_wp2
              refine ⟨⟨v + 1, v, true, fv1, av1, F ++ [x], A ++ [v], rfl, rfl, rfl, by omega, by omega, hsk1.out.drewN _, ?_, ?_, hr.out.2.2.2.1.trans hk1, below_drewN ((hr.out.2.2.2.2.1.drew).trans hb1.out) _, ?_, all_snoc hr.out.2.2.2.2.2.2 (by omega) (by omega)⟩, ?_⟩
              · rw [hr.out.2.1]; simp
              · rw [← hr.out.2.2.1, hMv.out, if_neg hlm.out, if_neg (by simp [fbit, hk64', hbit])]
              · have := hr.out.2.2.2.2.2.1; simp; omega
              · simp [intOf]; omega
            · go_wp2_with fail
              go_quiet (fail)
              go_wp2
              go_ret2
              have hM : M h m r lim (fbit f m hb) (f + 255) nx = (v, true) := by
                rw [← hr.out.2.2.1, hMv.out, if_neg hlm.out, if_pos (by simp [fbit, hbit])]
              rw [hM]
              exact ⟨fv1, av1, A, A ++ [v], rfl, by rw [← hr.out.2.1]; exact (hsk1.out.drewN _).drewN _, by simp, by simp, .inr ⟨v, rfl⟩, hr.out.2.2.2.1.trans hk1, below_drewN (below_drewN ((hr.out.2.2.2.2.1.drew).trans hb1.out) _) _, all_snoc hr.out.2.2.2.2.2.2 (by omega) (by omega), by simp; omega⟩
end Go.Proofs.Ybulkods
