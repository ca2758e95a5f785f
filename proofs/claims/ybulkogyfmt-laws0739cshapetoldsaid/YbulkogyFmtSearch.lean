import Derived.Test.YbulkogyFmtKit
namespace Go.Proofs.YbulkogyFmt
open Go.RowKit
set_option linter.unusedSimpArgs false
set_option linter.unusedVariables false

theorem clo19 (w : World) (i x E len cap Ba Bx : Nat) (l : List Nat) (rest : List Value) (hl : l.length = len) (hil : i < len) (ha : box1 w Ba 25 (.slice (some ⟨E, 0, none⟩) len cap)) (hx : box1 w Bx 3 (.int .i64 (x : Int))) (hE : w.heap[E]? = some (.cells (ints .i64 l ++ rest).toArray 3 (0, 0))) :
    Calls Ybaf.prog 19 #[.int .i64 (i : Int), .pointer (some ⟨Ba, 0, none⟩), .pointer (some ⟨Bx, 0, none⟩)] w fun e w' => e = .returned (.bool (decide (x ≤ l.getD i 0))) ∧ Below w.heap.size w w' := by
  have c1 := ha.cell
  have c2 := hx.cell
  have c3 := cell_blk hE (row_get (k := .i64) (j := i) (by rw [hl]; exact hil))
  have hil' : (i : Int) < (len : Int) := by omega
  obtain ⟨v, hv⟩ : ∃ v, v = l.getD i 0 := ⟨_, rfl⟩
  rw [← hv] at c3
  rw [← hv]
  clear hv ha hx hE hl
  go_enter Ybaf.func19, Ybaf.ntmps19
  go_wp2_with fail
  go_quiet (fail)
  go_wp2
  go_ret
  refine ⟨?_, below_drewN (Below.refl _ w) nq⟩
  by_cases h : x ≤ v
  · simp [h]
  · simp [h]

/-- Where x belongs in a sorted row. -/
def AtIdx (l : List Nat) (x r : Nat) : Prop := r ≤ l.length ∧ (∀ k, k < r → l.getD k 0 < x) ∧ ∀ k, r ≤ k → k < l.length → x ≤ l.getD k 0
def SP (w w' : World) (l : List Nat) (x : Nat) (e : Ending) : Prop := ∃ r : Nat, e = .returned (.int .i64 (r : Int)) ∧ AtIdx l x r ∧ Below w.heap.size w w'

set_option maxHeartbeats 1000000 in
theorem search_any (w : World) (x E len cap Ba Bx : Nat) (l : List Nat) (rest : List Value) (hl : l.length = len) (hn : len ≤ 1000) (hs : ∀ a b, a ≤ b → b < len → l.getD a 0 ≤ l.getD b 0) (ha : box1 w Ba 25 (.slice (some ⟨E, 0, none⟩) len cap)) (hx : box1 w Bx 3 (.int .i64 (x : Int))) (hE : w.heap[E]? = some (.cells (ints .i64 l ++ rest).toArray 3 (0, 0))) :
    Calls Ybaf.prog 18 #[.int .i64 (len : Int), .func (.func 19) #[] #[.pointer (some ⟨Ba, 0, none⟩), .pointer (some ⟨Bx, 0, none⟩)]] w fun e w' => SP w w' l x e := by
  replace hs := hide hs; replace ha := hide ha; replace hx := hide hx; replace hE := hide hE; replace hl := hide hl
  have hn' : (len : Int) ≤ 1000 := by omega
  go_enter Ybaf.func18, Ybaf.ntmps18
  go_wp2_with fail
  go_loopw [5, 6] (fun a b wr => ∃ lo hi : Nat, lo ≤ hi ∧ hi ≤ len ∧ a = .int .i64 (lo : Int) ∧ b = .int .i64 (hi : Int) ∧ Hid (∀ k, k < lo → l.getD k 0 < x) ∧ Hid (∀ k, hi ≤ k → k < len → x ≤ l.getD k 0) ∧ Hid (Below w.heap.size w wr)) (fun a b _ => (intOf b).toNat - (intOf a).toNat)
  case atStart => exact ⟨0, len, by omega, by omega, rfl, rfl, hide (by intro k hk; omega), hide (by intro k h1 h2; omega), hide (Below.refl _ _)⟩
  case round =>
    obtain ⟨lo, hi, h1, h2, rfl, rfl, hlo, hhi, hb⟩ := hrel
    by_cases hlt : lo < hi
    · have hlt' : (lo : Int) < (hi : Int) := by omega
      have hlo' : (lo : Int) ≤ 1000 := by omega
      have hhi' : (hi : Int) ≤ 1000 := by omega
      obtain ⟨m, hm⟩ : ∃ m : Nat, ((lo : Int) + (hi : Int)) / 2 = (m : Int) := ⟨(lo + hi) / 2, by omega⟩
      have hm1 : lo ≤ m := by omega
      have hm2 : m < hi := by omega
      have hu : Hid (Upd [] w wr) := Upd.of_below hb.out
      have hcl := hide (clo19 wr m x E len cap Ba Bx l rest hl.out (by omega) (hu.out.blk ha.out (by simp)) (hu.out.blk hx.out (by simp)) (hu.out.blk hE.out (by simp)))
      go_wp2_with fail
      refine hcl.out.mono ?_
      rintro e w2 ⟨rfl, hb2⟩
      have hb3 := hide (hb.out.trans (hb2.mono hb.out.size))
      clear hcl hb2
      by_cases hxm : x ≤ l.getD m 0
      · have hd : decide (x ≤ l.getD m 0) = true := by simpa using hxm
        rw [hd]
        replace hxm := hide hxm
        clear hd
        go_wp2_with fail
        exact ⟨⟨lo, m, by omega, by omega, rfl, rfl, hlo, hide (fun k h3 h4 => Nat.le_trans hxm.out (hs.out m k h3 h4)), hb3⟩, by simp [intOf]; omega⟩
      · have hd : decide (x ≤ l.getD m 0) = false := by simpa using hxm
        rw [hd]
        replace hxm := hide hxm
        clear hd
        go_wp2_with fail
        exact ⟨⟨m + 1, hi, by omega, by omega, by simp, rfl, hide (fun k h3 => by have := hs.out k m (by omega) (by omega); have := hxm.out; omega), hhi, hb3⟩, by simp [intOf]; omega⟩
    · obtain rfl : lo = hi := by omega
      go_wp2
      go_ret
      exact ⟨lo, rfl, ⟨by rw [hl.out]; exact h2, hlo.out, fun k h3 h4 => hhi.out k h3 (by rw [hl.out] at h4; exact h4)⟩, hb.out⟩

theorem searchInts_any (w : World) (x E len cap : Nat) (l : List Nat) (rest : List Value) (hl : l.length = len) (hn : len ≤ 1000) (hs : ∀ a b, a ≤ b → b < len → l.getD a 0 ≤ l.getD b 0) (hE : w.heap[E]? = some (.cells (ints .i64 l ++ rest).toArray 3 (0, 0))) :
    Calls Ybaf.prog 16 #[.slice (some ⟨E, 0, none⟩) len cap, .int .i64 (x : Int)] w fun e w' => SP w w' l x e := by
  have ha : Hid (box1 ((w.alloc (.cells #[.slice (some ⟨E, 0, none⟩) len cap] 25)).alloc (.cells #[.int .i64 (x : Int)] 3)) w.heap.size 25 (.slice (some ⟨E, 0, none⟩) len cap)) := by
    show _ = _
    rw [Below.heap_alloc _ _ _ (by simp)]
    exact heap_alloc_new w _
  have hx : Hid (box1 ((w.alloc (.cells #[.slice (some ⟨E, 0, none⟩) len cap] 25)).alloc (.cells #[.int .i64 (x : Int)] 3)) (w.heap.size + 1) 3 (.int .i64 (x : Int))) := by
    show _ = _
    have := heap_alloc_new (w.alloc (.cells #[.slice (some ⟨E, 0, none⟩) len cap] 25)) (.cells #[.int .i64 (x : Int)] 3)
    simpa using this
  have hb : Below w.heap.size w ((w.alloc (.cells #[.slice (some ⟨E, 0, none⟩) len cap] 25)).alloc (.cells #[.int .i64 (x : Int)] 3)) := ((Below.refl _ w).alloc (Nat.le_refl _) _).alloc (by simp) _
  have hsr := hide (search_any _ x E len cap w.heap.size (w.heap.size + 1) l rest hl hn hs ha.out hx.out ((hb.block E (lt_of_block hE)).trans hE))
  replace hb := hide hb
  clear ha hx hs hl hE
  go_enter Ybaf.func16, Ybaf.ntmps16
  go_wp2_with fail
  refine hsr.out.mono ?_
  rintro e w2 ⟨r, rfl, h1, h2⟩
  replace h1 := hide h1; replace h2 := hide h2
  clear hsr
  go_wp2
  go_ret
  exact ⟨r, rfl, h1.out, hb.out.trans (h2.out.mono hb.out.size)⟩
end Go.Proofs.YbulkogyFmt
