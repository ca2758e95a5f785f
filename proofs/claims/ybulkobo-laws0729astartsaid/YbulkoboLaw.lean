import Derived.Test.YbulkoboNew
import Derived.LaidEql
import Derived.Laws.StructEq
namespace Go.Proofs.Ybulkobo
open Go.RowKit
set_option linter.unusedSimpArgs false
set_option linter.unusedVariables false

theorem Yba.info24 : (Yba.prog.info? 24).map (·.comparable) = some true := by kernel_rfl
theorem Yba.info26 : ((Yba.prog.info? 26).map (·.size)) = some 12 := by kernel_rfl

theorem neq_stub (a : Addr) (w : World) : (binOp .neq 30 (.iface 24 (.pointer (some a))) (.iface 24 (.pointer (some a)))).run Yba.prog w = .ok (.bool false) w := by
  obtain ⟨i, hi, hc⟩ := Option.map_eq_some_iff.1 Yba.info24
  obtain ⟨j, hj, _⟩ := Option.map_eq_some_iff.1 Yba.info26
  simp only [binOp]
  simp [Op.equal, Op.maxDepth, run_equalIn_iface_ptr_same w 9998 a Yba.underlying30 Yba.underlying24 hi hc hj]

theorem neq_arr (o0 o1 o2 o3 o4 o5 o6 o7 : Int) (w : World) : (binOp .neq 23 (.agg #[.int .u8 o0, .int .u8 o1, .int .u8 o2, .int .u8 o3, .int .u8 o4, .int .u8 o5, .int .u8 o6, .int .u8 o7]) (.agg #[.int .u8 o0, .int .u8 o1, .int .u8 o2, .int .u8 o3, .int .u8 o4, .int .u8 o5, .int .u8 o6, .int .u8 o7])).run Yba.prog w = .ok (.bool false) w := by
  obtain ⟨j, hj, hs⟩ := Option.map_eq_some_iff.1 Yba.size5
  rw [run_neq_struct]
  have h : (Op.equalIn 10000 23 (.agg #[.int .u8 o0, .int .u8 o1, .int .u8 o2, .int .u8 o3, .int .u8 o4, .int .u8 o5, .int .u8 o6, .int .u8 o7]) (.agg #[.int .u8 o0, .int .u8 o1, .int .u8 o2, .int .u8 o3, .int .u8 o4, .int .u8 o5, .int .u8 o6, .int .u8 o7])).run Yba.prog w = .ok true w := by
    have h1 : ∀ a : Int, (Op.equalIn 9999 5 (.int .u8 a) (.int .u8 a)).run Yba.prog w = .ok true w := fun a => by simp [run_equalIn_int w 9998 5 .u8 .u8 a a Yba.underlying5]
    have hag : (isAgg 5).run Yba.prog w = .ok false w := by simp [isAgg, run_underlying Yba.underlying5]
    have hp : ∀ (xs : Array Value) (i : Nat) (v : Value), xs[i]? = some v → (part 5 xs i).run Yba.prog w = .ok v w := fun xs i v h => by simp [part, hag, h]
    have e8 : List.range' 0 8 = [0, 1, 2, 3, 4, 5, 6, 7] := rfl
    have q0 := hp #[.int .u8 o0, .int .u8 o1, .int .u8 o2, .int .u8 o3, .int .u8 o4, .int .u8 o5, .int .u8 o6, .int .u8 o7] 0 (.int .u8 o0) rfl
    have q1 := hp #[.int .u8 o0, .int .u8 o1, .int .u8 o2, .int .u8 o3, .int .u8 o4, .int .u8 o5, .int .u8 o6, .int .u8 o7] 1 (.int .u8 o1) rfl
    have q2 := hp #[.int .u8 o0, .int .u8 o1, .int .u8 o2, .int .u8 o3, .int .u8 o4, .int .u8 o5, .int .u8 o6, .int .u8 o7] 2 (.int .u8 o2) rfl
    have q3 := hp #[.int .u8 o0, .int .u8 o1, .int .u8 o2, .int .u8 o3, .int .u8 o4, .int .u8 o5, .int .u8 o6, .int .u8 o7] 3 (.int .u8 o3) rfl
    have q4 := hp #[.int .u8 o0, .int .u8 o1, .int .u8 o2, .int .u8 o3, .int .u8 o4, .int .u8 o5, .int .u8 o6, .int .u8 o7] 4 (.int .u8 o4) rfl
    have q5 := hp #[.int .u8 o0, .int .u8 o1, .int .u8 o2, .int .u8 o3, .int .u8 o4, .int .u8 o5, .int .u8 o6, .int .u8 o7] 5 (.int .u8 o5) rfl
    have q6 := hp #[.int .u8 o0, .int .u8 o1, .int .u8 o2, .int .u8 o3, .int .u8 o4, .int .u8 o5, .int .u8 o6, .int .u8 o7] 6 (.int .u8 o6) rfl
    have q7 := hp #[.int .u8 o0, .int .u8 o1, .int .u8 o2, .int .u8 o3, .int .u8 o4, .int .u8 o5, .int .u8 o6, .int .u8 o7] 7 (.int .u8 o7) rfl
    unfold Op.equalIn
    simp [run_underlying Yba.underlying23, sizeOf, typeInfo, hj, hs, e8, q0, q1, q2, q3, q4, q5, q6, q7, h1]
  rw [h]; rfl

def O8 (o0 o1 o2 o3 o4 o5 o6 o7 : Int) : List Value := [.int .u8 o0, .int .u8 o1, .int .u8 o2, .int .u8 o3, .int .u8 o4, .int .u8 o5, .int .u8 o6, .int .u8 o7]

theorem isRow_mono {B B' : Nat} {k : IntKind} {w : World} {a : Option Addr} {len cap : Nat} {zs : List Int} (h : IsRow B k w a len cap zs) (hb : B ≤ B') : IsRow B' k w a len cap zs := by
  rcases h with h | ⟨x, h1, h2, h3⟩
  · exact .inl h
  · exact .inr ⟨x, h1, fun h => Nat.lt_of_lt_of_le (h2 h) hb, h3⟩

theorem pre_law {a : Option Addr} {len cap : Nat} {zs : List Int} {w : World} (o1 o2 : Obj) (hrow : IsRow w.heap.size .u8 w a len cap zs) :
    w.heap.size + 1 ≤ ((w.alloc o1).alloc o2).heap.size ∧ ((w.alloc o1).alloc o2).heap[w.heap.size + 1]? = some o2 ∧ IsRow (w.heap.size + 1) .u8 ((w.alloc o1).alloc o2) a len cap zs ∧
    ((w.alloc o1).alloc o2).heap[w.heap.size]? = some o1 ∧ Below w.heap.size w ((w.alloc o1).alloc o2) ∧ ((w.alloc o1).alloc o2).heap.size = w.heap.size + 1 + 1 := by
  have hb : Below w.heap.size w ((w.alloc o1).alloc o2) := ((Below.refl _ w).alloc (Nat.le_refl _) o1).alloc (by simp) o2
  refine ⟨by simp, ?_, isRow_mono (isRow_below hrow hb) (by omega), ?_, hb, by simp⟩
  · have := heap_alloc_new (w.alloc o1) o2; simpa using this
  · rw [Below.heap_alloc _ _ _ (by simp)]; exact heap_alloc_new w o1

theorem row_at {B : Nat} {w w2 : World} {a : Option Addr} {len cap : Nat} {zs : List Int} (h : IsRow B .u8 w a len cap zs) (hb : Below B w w2) (hpos : 0 < len) :
    ∃ b off, a = some ⟨b, off, none⟩ ∧ ∀ k, k < len → w2.cell? ⟨b, off + k, none⟩ = some (.int .u8 (zs.getD k 0)) := by
  rcases h with ⟨_, h, _⟩ | ⟨⟨b, off, spot⟩, h1, h2, h3, h4, h5, h6, h7⟩
  · omega
  · have hspot : spot = none := by simpa [Addr.add] using World.cell?_spot (h6 0 (by omega))
    subst hspot
    refine ⟨b, off, h1, fun k hk => ?_⟩
    rw [hb.cell (show b < B from h2 (by omega)), ← h6 k (by omega), Addr.add_lit]

theorem own_at {B : Nat} {w2 : World} {ao : Option Addr} {len cp : Nat} {zs : List Int} (h : w2.ownsRow B 5 1 (.slice ao len cp) len ((zs.take len).map (Value.int .u8))) (hpos : 0 < len) :
    ∃ g, ao = some ⟨g, 0, none⟩ ∧ ∀ k, k < len → w2.cell? ⟨g, k, none⟩ = some (.int .u8 (zs.getD k 0)) := by
  have hl := h.1
  rcases h.2 with ⟨h1, h2⟩ | ⟨g, cap, cur, h1, _⟩
  · omega
  · simp only [Value.slice.injEq] at h1
    obtain ⟨rfl, _, rfl⟩ := h1
    refine ⟨g, rfl, fun k hk => ?_⟩
    rw [h.cellAt k (by omega)]
    simp at hl
    have hz : k < zs.length := by omega
    simp [List.getElem?_take, hk, hz, List.getD]

set_option maxHeartbeats 1000000 in
theorem walk (a : Option Addr) (len cap : Nat) (zs : List Int) (o0 o1 o2 o3 o4 o5 o6 o7 : Int) (w : World) (hl : len ≤ maxLen) (hrow : IsRow w.heap.size .u8 w a len cap zs) :
    Calls Yba.prog 3 #[.slice a len cap, .agg #[.int .u8 o0, .int .u8 o1, .int .u8 o2, .int .u8 o3, .int .u8 o4, .int .u8 o5, .int .u8 o6, .int .u8 o7]] w fun e w' => e = .returned (.bool true) ∧ Below w.heap.size w w' := by
  unfold maxLen at hl
  by_cases hlen : len ≤ 1024
  · have hg : ¬ (1024 : Int) < (len : Int) := by omega
    have hp := hide (pre_law (.cells #[.int .u8 o0, .int .u8 o1, .int .u8 o2, .int .u8 o3, .int .u8 o4, .int .u8 o5, .int .u8 o6, .int .u8 o7] 23 (0, 0)) (.cells (stubCells (O8 o0 o1 o2 o3 o4 o5 o6 o7) 0 (.slice none 0 0) 0) 26 (0, 0)) hrow)
    have hns := fun b => neq_stub b
    have hna := neq_arr o0 o1 o2 o3 o4 o5 o6 o7
    have hnz := neq_arr 0 0 0 0 0 0 0 0
    go_enter Yba.func3, Yba.ntmps3
    go_wp2_with fail
    refine (new_any (w.heap.size + 1) (w.heap.size + 1) (Nat.le_refl _) (O8 o0 o1 o2 o3 o4 o5 o6 o7) rfl (by simp [O8, Value.oneCell']) a len cap zs _ hlen hp.out.1 hp.out.2.1 hp.out.2.2.1).mono ?_
    rintro e w2 ⟨rfl, v, r1, r2, r3, r4⟩
    rw [hp.out.2.2.2.2.2] at r2 ⊢
    obtain ⟨ao, cp, rfl⟩ := own_form r3
    have hout : w2.heap[w.heap.size]? = some (.cells #[.int .u8 o0, .int .u8 o1, .int .u8 o2, .int .u8 o3, .int .u8 o4, .int .u8 o5, .int .u8 o6, .int .u8 o7] 23 (0, 0)) := (r4.block _ (by omega)).trans hp.out.2.2.2.1
    have hbel : Hid (Below w.heap.size w w2) := hp.out.2.2.2.2.1.trans (r4.mono (by omega))
    have a0 : w2.cell? ⟨w.heap.size, 0, none⟩ = some (.int .u8 o0) := cell_blk hout rfl
    have a1 : w2.cell? ⟨w.heap.size, 1, none⟩ = some (.int .u8 o1) := cell_blk hout rfl
    have a2 : w2.cell? ⟨w.heap.size, 2, none⟩ = some (.int .u8 o2) := cell_blk hout rfl
    have a3 : w2.cell? ⟨w.heap.size, 3, none⟩ = some (.int .u8 o3) := cell_blk hout rfl
    have a4 : w2.cell? ⟨w.heap.size, 4, none⟩ = some (.int .u8 o4) := cell_blk hout rfl
    have a5 : w2.cell? ⟨w.heap.size, 5, none⟩ = some (.int .u8 o5) := cell_blk hout rfl
    have a6 : w2.cell? ⟨w.heap.size, 6, none⟩ = some (.int .u8 o6) := cell_blk hout rfl
    have a7 : w2.cell? ⟨w.heap.size, 7, none⟩ = some (.int .u8 o7) := cell_blk hout rfl
    have s8 : w2.cell? ⟨w.heap.size + 1, 8, none⟩ = some (.int .i64 1) := cell_blk r1 rfl
    have s9 : w2.cell? ⟨w.heap.size + 1, 9, none⟩ = some (.int .i64 0) := cell_blk r1 rfl
    have s10 : w2.cell? ⟨w.heap.size + 1, 10, none⟩ = some (.slice ao len cp) := cell_blk r1 rfl
    have s11 : w2.cell? ⟨w.heap.size + 1, 11, none⟩ = some (.int .i64 8) := cell_blk r1 rfl
    have c0 : w2.cell? ⟨w.heap.size + 1 + 1, 0, none⟩ = some (.iface 24 (.pointer (some ⟨w.heap.size + 1, 0, none⟩))) := cell_blk r2 rfl
    have c1 : w2.cell? ⟨w.heap.size + 1 + 1, 1, none⟩ = some (.int .u8 o0) := cell_blk r2 rfl
    have c2 : w2.cell? ⟨w.heap.size + 1 + 1, 2, none⟩ = some (.int .u8 o1) := cell_blk r2 rfl
    have c3 : w2.cell? ⟨w.heap.size + 1 + 1, 3, none⟩ = some (.int .u8 o2) := cell_blk r2 rfl
    have c4 : w2.cell? ⟨w.heap.size + 1 + 1, 4, none⟩ = some (.int .u8 o3) := cell_blk r2 rfl
    have c5 : w2.cell? ⟨w.heap.size + 1 + 1, 5, none⟩ = some (.int .u8 o4) := cell_blk r2 rfl
    have c6 : w2.cell? ⟨w.heap.size + 1 + 1, 6, none⟩ = some (.int .u8 o5) := cell_blk r2 rfl
    have c7 : w2.cell? ⟨w.heap.size + 1 + 1, 7, none⟩ = some (.int .u8 o6) := cell_blk r2 rfl
    have c8 : w2.cell? ⟨w.heap.size + 1 + 1, 8, none⟩ = some (.int .u8 o7) := cell_blk r2 rfl
    have c9 : w2.cell? ⟨w.heap.size + 1 + 1, 9, none⟩ = some (.int .u8 0) := cell_blk r2 rfl
    have c10 : w2.cell? ⟨w.heap.size + 1 + 1, 10, none⟩ = some (.int .u8 0) := cell_blk r2 rfl
    have c11 : w2.cell? ⟨w.heap.size + 1 + 1, 11, none⟩ = some (.int .u8 0) := cell_blk r2 rfl
    have c12 : w2.cell? ⟨w.heap.size + 1 + 1, 12, none⟩ = some (.int .u8 0) := cell_blk r2 rfl
    have c13 : w2.cell? ⟨w.heap.size + 1 + 1, 13, none⟩ = some (.int .u8 0) := cell_blk r2 rfl
    have c14 : w2.cell? ⟨w.heap.size + 1 + 1, 14, none⟩ = some (.int .u8 0) := cell_blk r2 rfl
    have c15 : w2.cell? ⟨w.heap.size + 1 + 1, 15, none⟩ = some (.int .u8 0) := cell_blk r2 rfl
    have c16 : w2.cell? ⟨w.heap.size + 1 + 1, 16, none⟩ = some (.int .u8 0) := cell_blk r2 rfl
    have c17 : w2.cell? ⟨w.heap.size + 1 + 1, 17, none⟩ = some (.int .i64 len) := cell_blk r2 rfl
    have c18 : w2.cell? ⟨w.heap.size + 1 + 1, 18, none⟩ = some (.int .i64 0) := cell_blk r2 rfl
    replace r3 := hide r3
    clear r1 r2 r4 hout hp
    go_wp2_with fail
    by_cases hpos : 0 < len
    · obtain ⟨b, off, rfl, hca⟩ := row_at hrow hbel.out hpos
      obtain ⟨g, rfl, hcs⟩ := own_at r3.out hpos
      clear hrow r3
      go_loopw [7] (fun i wr => ∃ k n : Nat, k ≤ len ∧ i = .int .i64 k ∧ wr = w2.drewN n) (fun i _ => len - (intOf i).toNat)
      case atStart => exact ⟨0, 0, Nat.zero_le _, rfl, rfl⟩
      case round =>
        obtain ⟨k, n, hk, rfl, rfl⟩ := hrel
        by_cases hlt : k < len
        · have ha := hca k hlt
          have hs := hcs k hlt
          have hlt' : (k : Int) < (len : Int) := by omega
          clear hca hcs
          go_wp2
          go_quiet (fail)
          go_wp2
          exact ⟨⟨k + 1, n + nq, by omega, by go_num, rfl⟩, by simp [intOf]; omega⟩
        · have hlt' : ¬ (k : Int) < (len : Int) := by omega
          go_wp2
          go_quiet (fail)
          go_wp2
          go_ret
          exact ⟨rfl, below_drewN hbel.out _⟩
    · clear r3 hrow
      go_loopw [7] (fun i wr => ∃ k n : Nat, k ≤ len ∧ i = .int .i64 k ∧ wr = w2.drewN n) (fun i _ => len - (intOf i).toNat)
      case atStart => exact ⟨0, 0, Nat.zero_le _, rfl, rfl⟩
      case round =>
        obtain ⟨k, n, hk, rfl, rfl⟩ := hrel
        by_cases hlt : k < len
        · omega
        · have hlt' : ¬ (k : Int) < (len : Int) := by omega
          go_wp2
          go_quiet (fail)
          go_wp2
          go_ret
          exact ⟨rfl, below_drewN hbel.out _⟩
  · have hg : (1024 : Int) < (len : Int) := by omega
    go_enter Yba.func3, Yba.ntmps3
    go_wp2
    go_ret
    exact ⟨rfl, (Below.refl _ _).alloc (Nat.le_refl _) _⟩
end Go.Proofs.Ybulkobo
