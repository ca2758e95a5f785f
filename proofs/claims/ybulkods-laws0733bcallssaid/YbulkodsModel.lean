import Derived.Test.YbulkodsServe
namespace Go.Proofs.Ybulkods
open Go.RowKit
set_option linter.unusedSimpArgs false
set_option linter.unusedVariables false

/-- zzs0733bhas. -/
theorem has_walk (w : World) (B : Nat) (ah : Option Addr) (ch : Nat) (h : List Int) (v : Int) (ho : w.ownsRow B 3 1 (.slice ah h.length ch) h.length (ns h)) (hl : h.length ≤ 1024) :
    Calls Yba.prog 8 #[.slice ah h.length ch, .int .i64 v] w fun e w' => e = .returned (.bool (decide (v ∈ h))) ∧ w = w' := by
  have hl' : (h.length : Int) ≤ 1024 := by omega
  replace ho := hide ho
  go_enter Yba.func8, Yba.ntmps8
  go_wp2_with fail
  go_loop [9] (fun i => ∃ k : Nat, k ≤ h.length ∧ i = .int .i64 k ∧ Hid (v ∉ h.take k)) (fun i => h.length - (intOf i).toNat)
  case atStart => exact ⟨0, Nat.zero_le _, rfl, show v ∉ h.take 0 by simp⟩
  case round =>
    obtain ⟨k, hk, rfl, hn⟩ := hrel
    by_cases hlt : k < h.length
    · obtain ⟨x, hxk⟩ : ∃ x, h[k]? = some x := ⟨_, List.getElem?_eq_getElem hlt⟩
      obtain ⟨g, rfl, hcell⟩ := own_cell ho.out hxk
      have hlt' : (k : Int) < (h.length : Int) := by omega
      have hmem := hide (List.mem_of_getElem? hxk)
      replace hxk := hide hxk
      cases he : (x == v)
      · go_wp2
        refine ⟨⟨k + 1, by omega, by go_num, ?_⟩, by simp [intOf]; omega⟩
        show v ∉ h.take (k + 1)
        rw [take_snoc hxk.out]
        simp at he
        simp
        exact ⟨hn.out, fun e => he e.symm⟩
      · go_wp2
        go_ret
        simp at he
        subst he
        exact ⟨by simp [hmem.out], rfl⟩
    · have hlt' : ¬ (k : Int) < (h.length : Int) := by omega
      obtain rfl : k = h.length := by omega
      go_wp2
      go_ret
      have := hn.out
      rw [List.take_length] at this
      exact ⟨by simp [this], rfl⟩

theorem M_no {h : List Int} {m r limit : Int} {fb : Int → Bool} {top v : Int} (hv : v ≤ top) (hn : ¬ (v ∈ h ∧ v % m = r)) : M h m r limit fb top v = M h m r limit fb top (v + 1) := by rw [M_step hv, if_neg hn]
theorem M_lim {h : List Int} {m r limit : Int} {fb : Int → Bool} {top v : Int} (hv : v ≤ top) (hy : v ∈ h ∧ v % m = r) (hl : 0 < limit ∧ limit ≤ v) : M h m r limit fb top v = (0, false) := by rw [M_step hv, if_pos hy, if_pos hl]
theorem M_yes {h : List Int} {m r limit : Int} {fb : Int → Bool} {top v : Int} (hv : v ≤ top) (hy : v ∈ h ∧ v % m = r) (hl : ¬ (0 < limit ∧ limit ≤ v)) (hf : fb v = true) : M h m r limit fb top v = (v, true) := by rw [M_step hv, if_pos hy, if_neg hl, if_pos hf]
theorem M_on {h : List Int} {m r limit : Int} {fb : Int → Bool} {top v : Int} (hv : v ≤ top) (hy : v ∈ h ∧ v % m = r) (hl : ¬ (0 < limit ∧ limit ≤ v)) (hf : ¬ fb v = true) : M h m r limit fb top v = M h m r limit fb top (v + 1) := by rw [M_step hv, if_pos hy, if_neg hl, if_neg hf]

set_option maxRecDepth 100000 in
set_option maxHeartbeats 2000000 in
/-- zzs0733bmodel. -/
theorem model_walk (w : World) (B : Nat) (ah : Option Addr) (ch : Nat) (h : List Int) (f nx r m lim hb : Int) (ho : w.ownsRow B 3 1 (.slice ah h.length ch) h.length (ns h)) (hl : h.length ≤ 1024)
    (hm0 : 0 < m) (hm8 : m ≤ 8) (hf0 : 0 ≤ f) (hf1 : f ≤ 1000) (hn0 : f ≤ nx) (hn1 : nx ≤ f + 255) (hl0 : 0 ≤ lim) (hl1 : lim ≤ 2000) (hb0 : 0 ≤ hb) (hb1 : hb < 18446744073709551616) :
    Calls Yba.prog 6 #[.slice ah h.length ch, .int .i64 nx, .int .i64 f, .int .i64 m, .int .i64 r, .int .i64 lim, .int .u64 hb] w fun e w' =>
      e = .returned (.tuple #[.int .i64 (M h m r lim (fbit f m hb) (f + 255) nx).1, .bool (M h m r lim (fbit f m hb) (f + 255) nx).2]) ∧ w = w' := by
  have hhas := hide (fun v => has_walk w B ah ch h v ho hl)
  clear ho
  go_enter Yba.func6, Yba.ntmps6
  go_wp2_with fail
  go_loop [17] (fun i => ∃ v : Int, nx ≤ v ∧ v ≤ f + 256 ∧ i = .int .i64 v ∧ Hid (M h m r lim (fbit f m hb) (f + 255) v = M h m r lim (fbit f m hb) (f + 255) nx)) (fun i => (f + 300 - intOf i).toNat)
  case atStart => exact ⟨nx, by omega, by omega, rfl, rfl⟩
  case round =>
    obtain ⟨v, hv0, hv1, rfl, hM⟩ := hrel
    by_cases hle : v ≤ f + 255
    · have hvm := hide (hhas.out v)
      by_cases hin : v ∈ h
      · have hin' : decide (v ∈ h) = true := by simpa using hin
        rw [hin'] at hvm
        replace hin := hide hin
        clear hin'
        cases hmr : (v % m != r)
        · have hmr' := hide (show v % m = r by simpa using hmr)
          have hk0 : 0 ≤ (v - f) / m := Int.ediv_nonneg (by omega) (by omega)
          by_cases hlim : 0 < lim ∧ lim ≤ v
          · obtain ⟨hl2, hl3⟩ := hlim
            go_wp2_with (go_at_call 8; refine hvm.out.mono ?_; rintro e w' ⟨rfl, rfl⟩)
            go_ret2
            have e1 := hM.out.symm.trans (M_lim hle ⟨hin.out, hmr'.out⟩ ⟨hl2, hl3⟩)
            rw [e1]; exact ⟨rfl, rfl⟩
          · have hlm := hide hlim
            by_cases hlp : 0 < lim
            · have hlv : ¬ lim ≤ v := fun h => hlim ⟨hlp, h⟩
              have hlv' : decide (lim ≤ v) = false := by simpa using hlv
              clear hlim
              by_cases hk64 : 64 ≤ (v - f) / m
              · go_wp2_with (go_at_call 8; refine hvm.out.mono ?_; rintro e w' ⟨rfl, rfl⟩)
                go_ret2
                have e1 := hM.out.symm.trans (M_yes hle ⟨hin.out, hmr'.out⟩ hlm.out (by simp [fbit, hk64]))
                rw [e1]; exact ⟨rfl, rfl⟩
              · have hk64' : decide (64 ≤ (v - f) / m) = false := by simpa using hk64
                cases hbit : (bits BinOp.and IntKind.u64 hb (IntKind.u64.wrap (2 ^ ((v - f) / m).toNat)) == 0)
                · go_wp2_with (go_at_call 8; refine hvm.out.mono ?_; rintro e w' ⟨rfl, rfl⟩)
                  exact ⟨⟨v + 1, by omega, by omega, rfl, (M_on hle ⟨hin.out, hmr'.out⟩ hlm.out (by simp [fbit, hk64', hbit])).symm.trans hM.out⟩, by simp [intOf]; omega⟩
                · go_wp2_with (go_at_call 8; refine hvm.out.mono ?_; rintro e w' ⟨rfl, rfl⟩)
                  go_ret2
                  have e1 := hM.out.symm.trans (M_yes hle ⟨hin.out, hmr'.out⟩ hlm.out (by simp [fbit, hbit]))
                  rw [e1]; exact ⟨rfl, rfl⟩
            · have hlp' : decide (0 < lim) = false := by simpa using hlp
              clear hlim
              by_cases hk64 : 64 ≤ (v - f) / m
              · go_wp2_with (go_at_call 8; refine hvm.out.mono ?_; rintro e w' ⟨rfl, rfl⟩)
                go_ret2
                have e1 := hM.out.symm.trans (M_yes hle ⟨hin.out, hmr'.out⟩ hlm.out (by simp [fbit, hk64]))
                rw [e1]; exact ⟨rfl, rfl⟩
              · have hk64' : decide (64 ≤ (v - f) / m) = false := by simpa using hk64
                cases hbit : (bits BinOp.and IntKind.u64 hb (IntKind.u64.wrap (2 ^ ((v - f) / m).toNat)) == 0)
                · go_wp2_with (go_at_call 8; refine hvm.out.mono ?_; rintro e w' ⟨rfl, rfl⟩)
                  exact ⟨⟨v + 1, by omega, by omega, rfl, (M_on hle ⟨hin.out, hmr'.out⟩ hlm.out (by simp [fbit, hk64', hbit])).symm.trans hM.out⟩, by simp [intOf]; omega⟩
                · go_wp2_with (go_at_call 8; refine hvm.out.mono ?_; rintro e w' ⟨rfl, rfl⟩)
                  go_ret2
                  have e1 := hM.out.symm.trans (M_yes hle ⟨hin.out, hmr'.out⟩ hlm.out (by simp [fbit, hbit]))
                  rw [e1]; exact ⟨rfl, rfl⟩
        · go_wp2_with (go_at_call 8; refine hvm.out.mono ?_; rintro e w' ⟨rfl, rfl⟩)
          exact ⟨⟨v + 1, by omega, by omega, rfl, (M_no hle (fun hh => by simp at hmr; exact hmr hh.2)).symm.trans hM.out⟩, by simp [intOf]; omega⟩
      · have hin' : decide (v ∈ h) = false := by simpa using hin
        rw [hin'] at hvm
        replace hin := hide hin
        clear hin'
        go_wp2_with (go_at_call 8; refine hvm.out.mono ?_; rintro e w' ⟨rfl, rfl⟩)
        exact ⟨⟨v + 1, by omega, by omega, rfl, (M_no hle (fun hh => hin.out hh.1)).symm.trans hM.out⟩, by simp [intOf]; omega⟩
    · go_wp2
      go_ret2
      have e1 := hM.out.symm.trans (M_over (by omega))
      rw [e1]; exact ⟨rfl, rfl⟩
end Go.Proofs.Ybulkods
