import Derived.Test.YbulkodsModel
namespace Go.Proofs.Ybulkods
open Go.RowKit
set_option linter.unusedSimpArgs false
set_option linter.unusedVariables false

/-- What the walk is told of the slice 'have'. -/
def IsRow (k : IntKind) (w : World) (a : Option Addr) (len cap : Nat) (zs : List Int) : Prop :=
  (a = none ∧ len = 0 ∧ cap = 0 ∧ zs = []) ∨
  ∃ x, a = some x ∧ len ≤ cap ∧ cap ≤ maxLen ∧ zs.length = cap ∧ (∀ i, i < zs.length → w.cell? (x.add i) = some (.int k (zs.getD i 0))) ∧ ∀ n ∈ zs, (Lit.int k n).wf = true

theorem add_block' (x : Addr) (j : Nat) : (x.add j).block = x.block := add_block x j
/-- The cell of element j, in every world that is as w was below w's size. -/
theorem row_at {w : World} {a : Option Addr} {len cap : Nat} {zs : List Int} (h : IsRow .u8 w a len cap zs) (hpos : 0 < len) :
    ∃ b off, a = some ⟨b, off, none⟩ ∧ ∀ k, k < len → ∀ w', Below w.heap.size w w' → w'.cell? ⟨b, off + k, none⟩ = some (.int .u8 (zs.getD k 0)) := by
  rcases h with ⟨_, h, _⟩ | ⟨⟨b, off, spot⟩, h1, h3, h4, h5, h6, h7⟩
  · omega
  · have hspot : spot = none := by simpa [Addr.add] using World.cell?_spot (h6 0 (by omega))
    subst hspot
    have hb := World.block_lt_of_cell? w _ (h6 0 (by omega))
    rw [add_block] at hb
    refine ⟨b, off, h1, fun k hk w' hw => ?_⟩
    rw [hw.cell (show b < w.heap.size from hb), ← h6 k (by omega), Addr.add_lit]
theorem row_byte {w : World} {a : Option Addr} {len cap : Nat} {zs : List Int} (h : IsRow .u8 w a len cap zs) : len ≤ zs.length ∧ ∀ z ∈ zs, 0 ≤ z ∧ z ≤ 255 := by
  rcases h with ⟨_, rfl, _, rfl⟩ | ⟨_, _, h3, _, h5, _, h7⟩
  · simp
  · refine ⟨by omega, fun z hz => ?_⟩
    have := h7 z hz
    simp [Lit.wf, IntKind.min, IntKind.max, IntKind.signed, IntKind.bits] at this
    omega

/-- The numbers while the loop goes: the first k are laid. -/
def laidTo (f : Int) (zs : List Int) (n k : Nat) : List Int := (zs.take k).map (f + ·) ++ List.replicate (n - k) 0
theorem laidTo_len {f : Int} {zs : List Int} {n k : Nat} (hk : k ≤ n) (hz : n ≤ zs.length) : (laidTo f zs n k).length = n := by simp [laidTo]; omega
theorem laidTo_zero (f : Int) (zs : List Int) (n : Nat) : laidTo f zs n 0 = List.replicate n 0 := by simp [laidTo]
theorem laidTo_set {f : Int} {zs : List Int} {n k : Nat} {x : Int} (hk : k < n) (hx : zs[k]? = some x) : (laidTo f zs n k).set k (f + x) = laidTo f zs n (k + 1) := by
  have hkl := (List.getElem?_eq_some_iff.1 hx).1
  unfold laidTo
  rw [take_snoc hx, List.map_append]
  obtain ⟨d, hd⟩ : ∃ d, n - k = d + 1 := ⟨n - k - 1, by omega⟩
  rw [hd, show n - (k + 1) = d by omega, List.replicate_succ, List.set_append_right _ _ (by simp; omega)]
  simp [Nat.min_eq_left (Nat.le_of_lt hkl)]
theorem laidTo_all {f : Int} {zs : List Int} {n : Nat} : laidTo f zs n n = (zs.take n).map (f + ·) := by simp [laidTo]

theorem ns_set (l : List Int) (k : Nat) (x : Int) : (ns l).set k (.int .i64 x) = ns (l.set k x) := by simp [ns, List.map_set]
def limOf (a0 a4 : Int) (a5 : Bool) : Int := if a5 then a0 % 1000 + a4 % 300 else 0
/-- What the set-up hands back. -/
def SU (w w' : World) (a0 a1 a2 a3 a4 : Int) (a5 : Bool) (a6 : Int) (len : Nat) (zs : List Int) (a8 a9 : Int) (e : Ending) : Prop :=
  ∃ T V J ah ch vc H, e = .returned (.tuple #[.pointer (some ⟨V, 0, none⟩), .pointer (some ⟨T, 0, none⟩), .pointer (some ⟨J, 0, none⟩), .slice ah H.length ch]) ∧
    Sk w' T w.heap.size (.slice ah H.length ch) (.slice none 0 0) (.slice none 0 0) a8 a9 (a3 % (a2 % 8 + 1)) (a2 % 8 + 1) H [] [] ∧
    w'.heap[V]? = some (.cells vc 57 (0, 0)) ∧ vc[11]? = some (.iface 26 (.pointer (some ⟨T, 0, none⟩))) ∧
    w'.heap[J]? = some (.cells (jbCells a9 (a0 % 1000) (a0 % 1000 + a1) (a3 % (a2 % 8 + 1)) (a2 % 8 + 1) (limOf a0 a4 a5) a6).toArray 34 (0, 0)) ∧ Below w.heap.size w w' ∧
    (∀ x ∈ H, a0 % 1000 ≤ x ∧ x ≤ a0 % 1000 + 255) ∧ H.length ≤ 1024

theorem hb_of {zs : List Int} {f : Int} {len : Nat} (h : ∀ z ∈ zs, 0 ≤ z ∧ z ≤ 255) : ∀ x ∈ (zs.take len).map (f + ·), f ≤ x ∧ x ≤ f + 255 := by
  intro x hx
  obtain ⟨z, hz, rfl⟩ := List.mem_map.1 hx
  have := h z (List.mem_of_mem_take hz)
  omega
theorem su_end {w wr : World} {len : Nat} {hv : Value} {zs : List Int} {f to b r m : Int} {vc jc : Array Value} (ho : wr.ownsRow w.heap.size 3 1 hv (zs.map (f + ·)).length (ns (zs.map (f + ·)))) (hb : Below w.heap.size w wr) :
    Sk (((wr.alloc (.cells (stCells hv to b r m (.slice none 0 0) (.slice none 0 0)).toArray 38)).alloc (.cells vc 57)).alloc (.cells jc 34)) wr.heap.size w.heap.size hv (.slice none 0 0) (.slice none 0 0) to b r m (zs.map (f + ·)) [] [] ∧
    (((wr.alloc (.cells (stCells hv to b r m (.slice none 0 0) (.slice none 0 0)).toArray 38)).alloc (.cells vc 57)).alloc (.cells jc 34)).heap[wr.heap.size + 1]? = some (.cells vc 57 (0, 0)) ∧
    (((wr.alloc (.cells (stCells hv to b r m (.slice none 0 0) (.slice none 0 0)).toArray 38)).alloc (.cells vc 57)).alloc (.cells jc 34)).heap[wr.heap.size + 1 + 1]? = some (.cells jc 34 (0, 0)) ∧
    Below w.heap.size w (((wr.alloc (.cells (stCells hv to b r m (.slice none 0 0) (.slice none 0 0)).toArray 38)).alloc (.cells vc 57)).alloc (.cells jc 34)) := by
  have hsz := hb.size
  refine ⟨⟨?_, (((ho.alloc _).alloc _).alloc _), World.ownsRow_nil _ _ _ _, World.ownsRow_nil _ _ _ _, by simp [Value.ownBlock], by simp [Value.ownBlock], by simp [Value.ownBlock], hsz, by simp; omega⟩, ?_, ?_, ((hb.alloc hsz _).alloc (by simp; omega) _).alloc (by simp; omega) _⟩
  · rw [Below.heap_alloc _ _ _ (by simp; omega), Below.heap_alloc _ _ _ (by simp)]
    exact heap_alloc_new wr _
  · rw [Below.heap_alloc _ _ _ (by simp)]
    have := heap_alloc_new (wr.alloc (.cells (stCells hv to b r m (.slice none 0 0) (.slice none 0 0)).toArray 38)) (.cells vc 57)
    simpa using this
  · have := heap_alloc_new ((wr.alloc (.cells (stCells hv to b r m (.slice none 0 0) (.slice none 0 0)).toArray 38)).alloc (.cells vc 57)) (.cells jc 34)
    simpa using this

set_option maxRecDepth 100000 in
set_option maxHeartbeats 2000000 in
theorem setup_walk (a0 a1 a2 a3 a4 : Int) (a5 : Bool) (a6 : Int) (a7 : Option Addr) (len cap : Nat) (zs : List Int) (a8 a9 : Int) (w : World)
    (h00 : 0 ≤ a0) (h01 : a0 ≤ 65535) (h10 : 0 ≤ a1) (h11 : a1 ≤ 255) (h20 : 0 ≤ a2) (h21 : a2 ≤ 255) (h30 : 0 ≤ a3) (h31 : a3 ≤ 255) (h40 : 0 ≤ a4) (h41 : a4 ≤ 65535) (hrow : IsRow .u8 w a7 len cap zs) (hlen : len ≤ 1024) :
    Calls Yba.prog 5 #[.int .u16 a0, .int .u8 a1, .int .u8 a2, .int .u8 a3, .int .u16 a4, .bool a5, .int .u64 a6, .slice a7 len cap, .int .i64 a8, .int .i64 a9] w fun e w' => SU w w' a0 a1 a2 a3 a4 a5 a6 len zs a8 a9 e := by
  obtain ⟨i0, hi, hz0, hz1, hz2⟩ := info_parts Yba.info3
  have hlen' : (len : Int) ≤ 1024 := by omega
  replace hrow := hide hrow
  cases a5
  all_goals
    go_enter Yba.func5, Yba.ntmps5
    go_wp2_with (at_make; refine wpList_make_full _ rfl _ _ 28 rfl w.heap.size 3 i0 (.int .i64 0) 1 Yba.underlying28 hi hz0 hz1 .i64 .i64 len len len rfl rfl rfl rfl ?h1 ?h2 (Nat.le_refl _) ?_)
    case h1 => rw [hz2]; omega
    case h2 => unfold maxLen; omega
    intro w1 hown hgrow
    have hb1 : Below w.heap.size w w1 := (Below.refl _ w).grown hgrow (Nat.le_refl _) (by simp)
    rw [toList_madeCells_one] at hown
    have h0 := hide (And.intro (show w1.ownsRow w.heap.size 3 1 (.slice (some ⟨w.heap.size, 0, none⟩) len len) len (ns (laidTo (a0 % 1000) zs len 0)) by rw [laidTo_zero]; simpa [ns] using hown) hb1)
    clear hown hgrow hb1
    have hf0 : 0 ≤ a0 % 1000 := by omega
    have hf1 : a0 % 1000 ≤ 999 := by omega
    have hrb := hide (row_byte hrow.out)
    go_wp2_with fail
    go_loopw [56] (fun ix wr => ∃ k : Nat, k ≤ len ∧ ix = .int .i64 k ∧ Hid (wr.ownsRow w.heap.size 3 1 (.slice (some ⟨w.heap.size, 0, none⟩) len len) len (ns (laidTo (a0 % 1000) zs len k)) ∧ Below w.heap.size w wr)) (fun ix _ => len - (intOf ix).toNat)
    case atStart => exact ⟨0, Nat.zero_le _, rfl, h0⟩
    case round =>
      obtain ⟨k, hk, rfl, hr⟩ := hrel
      by_cases hlt : k < len
      · obtain ⟨b, off, rfl, hc⟩ := row_at hrow.out (by omega)
        have hx : zs[k]? = some (zs.getD k 0) := by have := hrb.out.1; rw [List.getD_eq_getElem?_getD, List.getElem?_eq_getElem (by omega)]; rfl
        have hcx := hc k hlt wr hr.out.2
        have hzb := hrb.out.2 (zs.getD k 0) (List.mem_of_getElem? hx)
        generalize zs.getD k 0 = z at hx hcx hzb
        obtain ⟨hz0', hz1'⟩ := hzb
        have hlk := laidTo_len (f := a0 % 1000) (zs := zs) hk hrb.out.1
        have hcg : wr.cell? ⟨w.heap.size, k, none⟩ = some (.int .i64 ((laidTo (a0 % 1000) zs len k)[k]'(by omega))) := by
          rw [hr.out.1.cellAt k (by omega)]; exact ns_get (List.getElem?_eq_getElem _)
        have hfg := hr.out.1.frozenAt k
        have hlt' : (k : Int) < (len : Int) := by omega
        have hst := hide (hr.out.1.stored k (.int .i64 (a0 % 1000 + z)))
        replace hx := hide hx
        clear hc
        generalize (laidTo (a0 % 1000) zs len k)[k]'(by omega) = old at hcg
        go_wp2
        refine ⟨⟨k + 1, by omega, by go_num, ?_, ?_⟩, by simp [intOf]; omega⟩
        · have := hst.out.1
          rwa [ns_set, laidTo_set hlt hx.out] at this
        · exact hr.out.2.setCell (p := ⟨w.heap.size, k, none⟩) (Nat.le_refl _) _
      · have hlt' : ¬ (k : Int) < (len : Int) := by omega
        obtain rfl : k = len := by omega
        rw [laidTo_all] at hr
        have hll : ((zs.take k).map (a0 % 1000 + ·)).length = k := by have := hrb.out.1; simp; omega
        have E := fun vc jc => su_end (hv := .slice (some ⟨w.heap.size, 0, none⟩) k k) (zs := zs.take k) (f := a0 % 1000) (to := a8) (b := a9) (r := a3 % (a2 % 8 + 1)) (m := a2 % 8 + 1) (vc := vc) (jc := jc) (len := k) (by rw [hll]; exact hr.out.1) hr.out.2
        replace E := hide E
        replace hll := hide hll
        go_wp2
        refine bodyPost_ret (v := .tuple #[.pointer (some ⟨wr.heap.size + 1, 0, none⟩), .pointer (some ⟨wr.heap.size, 0, none⟩), .pointer (some ⟨wr.heap.size + 1 + 1, 0, none⟩), .slice (some ⟨w.heap.size, 0, none⟩) k k]) (by simp [results, Yba.results5, go_sem]) rfl ?_
        refine ⟨wr.heap.size, wr.heap.size + 1, wr.heap.size + 1 + 1, some ⟨w.heap.size, 0, none⟩, k, _, (zs.take k).map (a0 % 1000 + ·), by rw [hll.out], ?_, (E.out _ _).2.1, rfl, (E.out _ _).2.2.1, (E.out _ _).2.2.2, hb_of hrb.out.2, by rw [hll.out]; omega⟩
        rw [hll.out]
        exact (E.out _ _).1
end Go.Proofs.Ybulkods
