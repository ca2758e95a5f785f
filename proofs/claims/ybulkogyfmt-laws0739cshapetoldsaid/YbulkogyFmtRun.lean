import Derived.Test.YbulkogyFmtAdd
namespace Go.Proofs.YbulkogyFmt
open Go.RowKit
set_option linter.unusedSimpArgs false
set_option linter.unusedVariables false

def runC (X : Nat) (smp : Value) (rc : Nat) : Array Value := #[.pointer (some ⟨X, 0, none⟩), smp, .int .i64 0, .int .i64 (rc : Int), .int .i64 0]
def exC (H n : Nat) (stv msv : Value) : Array Value := #[.slice (some ⟨H, 0, none⟩) n n, stv, msv]
theorem own_blk {w : World} {B : Nat} {e : TypeId} {s : Nat} {v : Value} {n : Nat} {xs : List Value} (h : w.ownsRow B e s v n xs) {g : Nat} (hg : v.ownBlock = some g) : ∃ c, w.heap[g]? = some (.cells c e (0, 0)) := by
  rcases h.2 with ⟨rfl, _⟩ | ⟨g', cap', cur, rfl, _, hh, _⟩
  · cases hg
  · cases hg; exact ⟨cur, hh⟩
theorem own_not {w : World} {B k : Nat} {e f : TypeId} {s : Nat} {v : Value} {n : Nat} {xs : List Value} {c : Array Value} (h : w.ownsRow B e s v n xs) (hk : w.heap[k]? = some (.cells c f (0, 0))) (hne : f ≠ e) : k ∉ v.ownBlock.toList := by
  intro hm
  obtain ⟨c', hc'⟩ := own_blk h (by simpa using hm)
  exact blk_ne hk hc' hne rfl

def RAP (w w' : World) (X H n i p B : Nat) (stv msv mv : Value) (cs : List Value) (e : Ending) : Prop := ∃ stv', e = .returned (.int .i64 (i : Int)) ∧ w'.heap[X]? = some (.cells (exC H n stv' msv) 36 (0, 0)) ∧ w'.ownsRow B 38 3 stv' (i + 1) (cs ++ [.int .i64 (i : Int), .int .i64 (p : Int), mv]) ∧ Upd (X :: stv.ownBlock.toList) w w'
set_option maxRecDepth 100000 in
set_option maxHeartbeats 2000000 in
theorem radd_any (w : World) (Rn X H n i p B rc mn mc : Nat) (ma : Option Addr) (smp stv msv : Value) (cs : List Value) (hRn : w.heap[Rn]? = some (.cells (runC X smp rc) 32 (0, 0))) (hX : w.heap[X]? = some (.cells (exC H n stv msv) 36 (0, 0))) (hown : w.ownsRow B 38 3 stv i cs) (hi : i ≤ 1000) (hB : B ≤ w.heap.size) :
    Calls Ybaf.prog 15 #[.pointer (some ⟨Rn, 0, none⟩), .int .i64 (p : Int), .slice ma mn mc] w fun e w' => RAP w w' X H n i p B stv msv (.slice ma mn mc) cs e := by
  obtain ⟨i38, hi38, c0, c1, c2⟩ := info_parts Ybaf.info38
  obtain ⟨sa, sc, rfl⟩ := own_form hown
  have r0 : w.cell? ⟨Rn, 0, none⟩ = some (.pointer (some ⟨X, 0, none⟩)) := cell_blk hRn rfl
  have x1 : w.cell? ⟨X, 1, none⟩ = some (.slice sa i sc) := cell_blk hX rfl
  have hi' : (i : Int) ≤ 1000 := by omega
  have hXn := hide (own_not hown hX (by decide))
  have hXl := lt_of_block hX
  replace hRn := hide hRn; replace hX := hide hX; replace hown := hide hown
  go_enter Ybaf.func15, Ybaf.ntmps15
  go_wp2_with fail
  go_region_law (first
    | (refine step_append_own_at rfl (.tmp 16) (.tmp 25) 34 rfl B 38 i38 (.agg #[.int .i64 0, .int .i64 0, .slice none 0 0]) 3 40 Ybaf.underlying34 hi38 c0 c1 c2 rfl (by decide) _ i cs rfl (hown.out.drew.alloc _) ⟨w.heap.size, 0, none⟩ 1 1 [.int .i64 (i : Int), .int .i64 (p : Int), .slice ma mn mc] rfl rfl (fun j' u hj' => new_cells1 w.drew [.int .i64 (i : Int), .int .i64 (p : Int), .slice ma mn mc] 38 hj') (by simp [Value.oneCell']) (by unfold maxLen; omega) (by omega) (by simp [World.drew]; omega) ?_; intro v6 w6 hown6 hg6 hfr; obtain ⟨a6, c6, rfl⟩ := own_form hown6; have hu6 := hide (Upd.of_grown_alloc (w := w.drew) hg6); have hX6 := hide (hu6.out.blk (w := w.drew) hX.out hXn.out); replace hown6 := hide hown6; clear hg6; have u4 : w6.cell? ⟨X, 1, none⟩ = some (.slice sa i sc) := cell_blk hX6.out rfl; have uf : w6.frozen? ⟨X, 1, none⟩ = false := froz_blk hX6.out _))
  all_goals
    have hXf : Hid ((w6.setCell ⟨X, 1, none⟩ (.slice a6 (i + 1) c6)).heap[X]? = some (.cells (exC H n (.slice a6 (i + 1) c6) msv) 36 (0, 0))) := by show _ = _; rw [set_blk hX6.out]; rfl
    have g1 : (w6.setCell ⟨X, 1, none⟩ (.slice a6 (i + 1) c6)).cell? ⟨X, 1, none⟩ = some (.slice a6 (i + 1) c6) := cell_blk hXf.out rfl
    go_wp2
    go_ret
    refine ⟨.slice a6 (i + 1) c6, rfl, hXf.out, ?_, ?_⟩
    · refine own_move hown6.out fun g c hg hc => set_blk_ne ?_
      rintro rfl
      have := hX6.out; rw [hc] at this; simp at this
    · exact (((Upd.refl _ w).drew).trans ((hu6.out).mono (ks' := X :: (Value.slice sa i sc).ownBlock.toList) (fun k hk => List.mem_cons_of_mem _ hk))).setCell (p := ⟨X, 1, none⟩) (by simp) _

/-- What a send leaves. -/
def SnP (w w' : World) (X H n i p B m : Nat) (stv msv : Value) (cs : List Value) (msgs : List Nat) (e : Ending) : Prop := ∃ stv' msv', e = .returned (.int .i64 (i : Int)) ∧ w'.heap[X]? = some (.cells (exC H n stv' msv') 36 (0, 0)) ∧ w'.ownsRow B 38 3 stv' (i + 1) (cs ++ [.int .i64 (i : Int), .int .i64 (p : Int), .slice none 0 0]) ∧
  w'.ownsRow B 3 1 msv' (m + 1) (ints .i64 (msgs ++ [i])) ∧ Upd (X :: (stv.ownBlock.toList ++ msv.ownBlock.toList)) w w' ∧ (msv'.ownBlock = msv.ownBlock ∨ ∃ g, msv'.ownBlock = some g ∧ w.heap.size ≤ g)
set_option maxRecDepth 100000 in
set_option maxHeartbeats 2000000 in
theorem send_any (w : World) (Rn X H n i p B rc m : Nat) (smp stv msv : Value) (cs : List Value) (msgs : List Nat) (hRn : w.heap[Rn]? = some (.cells (runC X smp rc) 32 (0, 0))) (hX : w.heap[X]? = some (.cells (exC H n stv msv) 36 (0, 0))) (hown : w.ownsRow B 38 3 stv i cs) (hmo : w.ownsRow B 3 1 msv m (ints .i64 msgs)) (hi : i ≤ 1000) (hm : m ≤ 1000) (hB : B ≤ w.heap.size) :
    Calls Ybaf.prog 9 #[.pointer (some ⟨Rn, 0, none⟩), .int .i64 (p : Int)] w fun e w' => SnP w w' X H n i p B m stv msv cs msgs e := by
  obtain ⟨i3, hi3, z0, z1, z2⟩ := info_parts Ybaf.info3
  have hra := hide (radd_any w Rn X H n i p B rc 0 0 none smp stv msv cs hRn hX hown hi hB)
  have hRX : ¬ Rn = X := blk_ne hRn hX (by decide)
  have hRs := hide (own_not hown hRn (by decide))
  have hms := hide (fun g (hg : msv.ownBlock = some g) => own_not hown (own_blk hmo hg).choose_spec (by decide))
  have hmX : Hid (∀ g, msv.ownBlock = some g → g ≠ X) := fun g hg => blk_ne (own_blk hmo hg).choose_spec hX (by decide)
  obtain ⟨ma, mc, rfl⟩ := own_form hmo
  replace hRn := hide hRn; replace hX := hide hX; replace hown := hide hown; replace hmo := hide hmo
  go_enter Ybaf.func9, Ybaf.ntmps9
  go_wp2_with fail
  refine hra.out.mono ?_
  rintro e w1 ⟨stv', rfl, hX1, ho1, hu1⟩
  have hRn1 := hide (hu1.blk hRn.out (by simp only [List.mem_cons, not_or]; exact ⟨hRX, hRs.out⟩))
  have hmo1 := hide (hu1.own hmo.out (by intro g hg; simp only [List.mem_cons, not_or]; exact ⟨hmX.out g hg, hms.out g hg⟩))
  have r0 : w1.cell? ⟨Rn, 0, none⟩ = some (.pointer (some ⟨X, 0, none⟩)) := cell_blk hRn1.out rfl
  have x2 : w1.cell? ⟨X, 2, none⟩ = some (.slice ma m mc) := cell_blk hX1 rfl
  have hXl := lt_of_block hX1
  have hRl := lt_of_block hRn1.out
  have hXm := hide (own_not hmo1.out hX1 (by decide))
  have hRm := hide (own_not hmo1.out hRn1.out (by decide))
  have hsz := hu1.size
  replace hX1 := hide hX1; replace ho1 := hide ho1; replace hu1 := hide hu1
  clear hra
  go_wp2_with fail
  go_region_law (first
    | (refine step_append_own_at rfl (.tmp 19) (.tmp 21) 25 rfl B 3 i3 (.int .i64 0) 1 8 Ybaf.underlying25 hi3 z0 z1 z2 rfl (by decide) _ m (ints .i64 msgs) rfl (hmo1.out.drew.alloc _) ⟨w1.heap.size, 0, none⟩ 1 1 (ints .i64 [i]) rfl rfl (fun j' u hj' => new_cells1 w1.drew (ints .i64 [i]) 3 hj') (ints_one _ _) (by unfold maxLen; omega) (by omega) (by simp [World.drew]; omega) ?_; intro v6 w6 hown6 hg6 hfr; obtain ⟨a6, c6, rfl⟩ := own_form hown6; have hu6 := hide (Upd.of_grown_alloc (w := w1.drew) hg6); have hX6 := hide (hu6.out.blk (w := w1.drew) hX1.out hXm.out); replace hown6 := hide hown6; replace hfr := hide hfr; clear hg6; have hR6 := hide (hu6.out.blk (w := w1.drew) hRn1.out hRm.out); have r6 : w6.cell? ⟨Rn, 0, none⟩ = some (.pointer (some ⟨X, 0, none⟩)) := cell_blk hR6.out rfl; have u4 : w6.cell? ⟨X, 2, none⟩ = some (.slice ma m mc) := cell_blk hX6.out rfl; have uf : w6.frozen? ⟨X, 2, none⟩ = false := froz_blk hX6.out _))
  all_goals
    have hXf : Hid ((w6.setCell ⟨X, 2, none⟩ (.slice a6 (m + 1) c6)).heap[X]? = some (.cells (exC H n stv' (.slice a6 (m + 1) c6)) 36 (0, 0))) := by show _ = _; rw [set_blk hX6.out]; rfl
    have hsf : Hid ((w6.setCell ⟨X, 2, none⟩ (.slice a6 (m + 1) c6)).ownsRow B 38 3 stv' (i + 1) (cs ++ [.int .i64 (i : Int), .int .i64 (p : Int), .slice none 0 0])) := by
      have e1 := hu6.out.own (w := w1.drew) ho1.out.drew (fun g hg => own_not hmo1.out (own_blk ho1.out hg).choose_spec (by decide))
      refine own_move e1 fun g c hg hc => set_blk_ne ?_
      rintro rfl
      have := hX6.out; rw [hc] at this; simp at this
    go_wp2
    go_ret
    refine ⟨stv', .slice a6 (m + 1) c6, rfl, hXf.out, hsf.out, ?_, ?_, ?_⟩
    · rw [ints_append]
      refine own_move hown6.out fun g c hg hc => set_blk_ne ?_
      rintro rfl
      have := hX6.out; rw [hc] at this; simp at this
    · have e1 := hu1.out.mono (ks' := X :: (stv.ownBlock.toList ++ (Value.slice ma m mc).ownBlock.toList)) (by intro k hk; simp only [List.mem_cons, List.mem_append] at hk ⊢; rcases hk with h | h; exact .inl h; exact .inr (.inl h))
      have e2 := hu6.out.mono (ks' := X :: (stv.ownBlock.toList ++ (Value.slice ma m mc).ownBlock.toList)) (by intro k hk; simp only [List.mem_cons, List.mem_append] at hk ⊢; exact .inr (.inr hk))
      exact ((e1.drew).trans e2).setCell (p := ⟨X, 2, none⟩) (by simp) _
    · rcases hfr.out with h | h
      · exact .inl h
      · exact .inr ⟨_, h, by simp [World.drew]; omega⟩
end Go.Proofs.YbulkogyFmt
