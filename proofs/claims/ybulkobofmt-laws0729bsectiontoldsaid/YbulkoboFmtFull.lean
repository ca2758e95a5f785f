import Derived.Test.YbulkoboFmtRead
namespace Go.Proofs.YbulkoboFmt
open Go.RowKit
set_option linter.unusedSimpArgs false
set_option linter.unusedVariables false

theorem nil_read (a : Addr) (w : World) : (nilAhead 236 31 (.pointer (some a)) "Read").run Ybaf.prog w = .ok (some false) w := by kernel_rfl
theorem method_read (a : Addr) (w : World) : (method 236 31 (.pointer (some a)) "Read").run Ybaf.prog w = .ok (47, .pointer (some a)) w := by kernel_rfl

set_option maxHeartbeats 600000 in
theorem atleast_any (R D g n cap i k o c : Nat) (T : TypeId) (cur : List Value) (S : List Int) (B : Nat) (w : World)
    (hR : w.heap[R]? = some (.cells (rdCells (some ⟨g, 0, none⟩) n cap i).toArray 33 (0, 0)))
    (hown : w.ownsRow B 5 1 (.slice (some ⟨g, 0, none⟩) n cap) n (bs S)) (hD : w.heap[D]? = some (.cells cur.toArray T (0, 0)))
    (hDR : D ≠ R) (hDg : D ≠ g) (hk : 0 < k) (hik : i + k ≤ n) (hn : n ≤ 1000000) (hcap : n ≤ cap) (hcm : cap ≤ maxLen) (hfit : o + k ≤ cur.length) (hkc : k ≤ c) (hcc : c ≤ maxLen) :
    Calls Ybaf.prog 25 #[.iface 31 (.pointer (some ⟨R, 0, none⟩)), .slice (some ⟨D, o, none⟩) k c, .int .i64 k] w fun e w' => e = .returned (.tuple #[.int .i64 k, .nilIface]) ∧
      w'.heap[R]? = some (.cells (rdCells (some ⟨g, 0, none⟩) n cap ((i + k : Nat) : Int)).toArray 33 (0, 0)) ∧ w'.heap[D]? = some (.cells (splice cur o (bs ((S.drop i).take k))).toArray T (0, 0)) ∧ Upd [R, D] w w' := by
  have hc := hide (fun w hR hown hD => read_any R D g n cap i k o c T cur S B w hR hown hD hDR hDg hk hik hn hcap hcm hfit)
  replace hR := hide hR; replace hD := hide hD; replace hown := hide hown
  unfold maxLen at hcc
  have hk0 : (0 : Int) < (k : Int) := by omega
  have hc0 : ¬ c = 0 := by omega
  have hkk : ¬ (k : Int) < (k : Int) := by omega
  clear hcm hfit hDg
  have hna := nil_read ⟨R, 0, none⟩
  have hme := method_read ⟨R, 0, none⟩
  go_enter Ybaf.func25, Ybaf.ntmps25
  go_wp2
  refine wp_loop_rounds 2 ?_
  rw [rounds_succ]
  go_wp2
  go_region_with (go_at_call 47; refine (hc.out w.drew hR.out hown.out.drew hD.out).mono ?_; rintro e w1 ⟨rfl, hrest⟩; replace hrest := hide hrest)
  go_wp2
  rw [rounds_succ]
  go_wp2
  go_ret2
  obtain ⟨r1, r2, r3⟩ := hrest.out
  exact ⟨rfl, r1, r2, ((Upd.refl _ w).drew).trans r3⟩

set_option maxHeartbeats 600000 in
theorem full_any (R D g n cap i k o c : Nat) (T : TypeId) (cur : List Value) (S : List Int) (B : Nat) (w : World)
    (hR : w.heap[R]? = some (.cells (rdCells (some ⟨g, 0, none⟩) n cap i).toArray 33 (0, 0)))
    (hown : w.ownsRow B 5 1 (.slice (some ⟨g, 0, none⟩) n cap) n (bs S)) (hD : w.heap[D]? = some (.cells cur.toArray T (0, 0)))
    (hDR : D ≠ R) (hDg : D ≠ g) (hk : 0 < k) (hik : i + k ≤ n) (hn : n ≤ 1000000) (hcap : n ≤ cap) (hcm : cap ≤ maxLen) (hfit : o + k ≤ cur.length) (hkc : k ≤ c) (hcc : c ≤ maxLen) :
    Calls Ybaf.prog 16 #[.iface 31 (.pointer (some ⟨R, 0, none⟩)), .slice (some ⟨D, o, none⟩) k c] w fun e w' => e = .returned (.tuple #[.int .i64 k, .nilIface]) ∧
      w'.heap[R]? = some (.cells (rdCells (some ⟨g, 0, none⟩) n cap ((i + k : Nat) : Int)).toArray 33 (0, 0)) ∧ w'.heap[D]? = some (.cells (splice cur o (bs ((S.drop i).take k))).toArray T (0, 0)) ∧ Upd [R, D] w w' := by
  have hc := hide (atleast_any R D g n cap i k o c T cur S B w hR hown hD hDR hDg hk hik hn hcap hcm hfit hkc hcc)
  clear hR hown hD hDR hDg hk hik hn hcap hcm hfit hkc hcc
  go_enter Ybaf.func16, Ybaf.ntmps16
  go_wp2_with (go_at_call 25; refine hc.out.mono ?_; rintro e w1 ⟨rfl, hrest⟩; replace hrest := hide hrest)
  go_ret2
  exact ⟨rfl, hrest.out⟩

/-- 'grow': the buffer's row is at hand, of 'cp' cells, or nil. -/
def Buf (w : World) (v : Value) : Prop := v = .slice none 0 0 ∨ ∃ G n cp cur, v = .slice (some ⟨G, 0, none⟩) n cp ∧ w.heap[G]? = some (.cells cur 5 (0, 0)) ∧ cur.size = cp ∧ cp ≤ maxLen

set_option maxHeartbeats 600000 in
theorem grow_make (ao : Option Addr) (n cp k : Nat) (w : World) (hk : k ≤ 1000000) (hlt : cp < k) :
    Calls Ybaf.prog 22 #[.slice ao n cp, .int .i64 k] w fun e w' => e = .returned (.slice (some ⟨w.heap.size, 0, none⟩) k k) ∧ (∃ cur, w'.heap[w.heap.size]? = some (.cells cur 5 (0, 0)) ∧ cur.size = k) ∧ Upd [] w w' := by
  obtain ⟨i0, hi, hz0, hz1, hz2⟩ := info_parts Ybaf.info5
  have hk' : (k : Int) ≤ 1000000 := by omega
  have hlt' : (cp : Int) < (k : Int) := by omega
  go_enter Ybaf.func22, Ybaf.ntmps22
  go_wp2_with (at_make; refine wpList_make_full _ rfl _ _ 23 rfl w.heap.size 5 i0 (.int .u8 0) 1 Ybaf.underlying23 hi hz0 hz1 .i64 .i64 k k k rfl rfl rfl rfl ?h1 ?h2 (Nat.le_refl _) ?_)
  case h1 => rw [hz2]; omega
  case h2 => unfold maxLen; omega
  intro w1 hown hgrow
  replace hown := hide hown
  replace hgrow := hide hgrow
  go_wp2
  go_ret
  refine ⟨rfl, ?_, Upd.of_grown hgrow.out⟩
  rcases hown.out.2 with ⟨h, _⟩ | ⟨g, cap, cur, h, _, hh, _, _, hs, _⟩
  · cases h
  · simp only [Value.slice.injEq, Option.some.injEq, Addr.mk.injEq] at h
    obtain ⟨⟨rfl, _⟩, _, rfl⟩ := h
    exact ⟨cur, hh, by omega⟩

set_option maxHeartbeats 600000 in
theorem grow_keep (G n cp k : Nat) (w : World) (hk : k ≤ 1000000) (hcp : cp ≤ maxLen) (hlt : k ≤ cp) :
    Calls Ybaf.prog 22 #[.slice (some ⟨G, 0, none⟩) n cp, .int .i64 k] w fun e w' => e = .returned (.slice (some ⟨G, 0, none⟩) k cp) ∧ w' = w := by
  have hk' : (k : Int) ≤ 1000000 := by omega
  have hlt' : ¬ (cp : Int) < (k : Int) := by omega
  unfold maxLen at hcp
  go_enter Ybaf.func22, Ybaf.ntmps22
  go_wp2
  go_ret
  exact ⟨rfl, rfl⟩

theorem grow_any (v : Value) (k : Nat) (w : World) (hb : Buf w v) (hk : k ≤ 1000000) (hk0 : 0 < k) :
    Calls Ybaf.prog 22 #[v, .int .i64 k] w fun e w' => ∃ G cp cur, e = .returned (.slice (some ⟨G, 0, none⟩) k cp) ∧ w'.heap[G]? = some (.cells cur 5 (0, 0)) ∧ cur.size = cp ∧ cp ≤ maxLen ∧ k ≤ cp ∧ (v.ownBlock = some G ∨ w.heap.size ≤ G) ∧ Upd [] w w' := by
  rcases hb with rfl | ⟨G, n, cp, cur, rfl, hG, hs, hm⟩
  · refine (grow_make none 0 0 k w hk hk0).mono fun e w' ⟨he, ⟨cur, h1, h2⟩, h3⟩ => ?_
    exact ⟨_, _, cur, he, h1, h2, by unfold maxLen; omega, Nat.le_refl _, .inr (Nat.le_refl _), h3⟩
  · by_cases hlt : cp < k
    · refine (grow_make _ _ _ k w hk hlt).mono fun e w' ⟨he, ⟨cur, h1, h2⟩, h3⟩ => ?_
      exact ⟨_, _, cur, he, h1, h2, by unfold maxLen; omega, Nat.le_refl _, .inr (Nat.le_refl _), h3⟩
    · refine (grow_keep G n cp k w hk hm (by omega)).mono fun e w' ⟨he, hw⟩ => ?_
      subst hw
      exact ⟨_, _, cur, he, hG, hs, hm, by omega, .inl rfl, Upd.refl _ _⟩
end Go.Proofs.YbulkoboFmt
