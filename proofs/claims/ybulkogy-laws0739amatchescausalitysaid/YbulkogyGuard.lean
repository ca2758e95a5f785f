import Derived.Test.YbulkogyWords
namespace Go.Proofs.Ybulkogy
open Go.RowKit
set_option linter.unusedSimpArgs false
set_option linter.unusedVariables false

def GP (w w' : World) (R : List (Int × List Int)) (e : Ending) : Prop := (e = .returned (.bool true) ∨ (e = .returned (.bool false) ∧ R.length ≤ 256 ∧ ∀ x ∈ R, x.2.length ≤ 256)) ∧ Below w.heap.size w w'
set_option maxHeartbeats 1000000 in
theorem guard_any (w : World) (a1 : Option Addr) (n cap : Nat) (R : List (Int × List Int)) (hR : ArgSt w a1 R) (hl : R.length = n) (hn : (n : Int) ≤ 9223372036854775807) :
    Calls Yba.prog 5 #[.slice a1 n cap] w fun e w' => GP w w' R e := by
  replace hR := hide hR; replace hl := hide hl
  by_cases hn2 : (256 : Int) < (n : Int)
  · go_enter Yba.func5, Yba.ntmps5
    go_wp2
    go_ret
    exact ⟨.inl rfl, Below.refl _ _⟩
  · go_enter Yba.func5, Yba.ntmps5
    go_wp2_with fail
    go_loopw [10] (fun t wr => ∃ i : Nat, i ≤ n ∧ t = .int .i64 (i : Int) ∧ Hid (∀ x ∈ R.take i, x.2.length ≤ 256) ∧ Hid (Below w.heap.size w wr)) (fun t _ => n - (intOf t).toNat)
    case atStart => exact ⟨0, by omega, rfl, hide (by simp), hide (Below.refl _ _)⟩
    case round =>
      obtain ⟨i, hi, rfl, h1, hb⟩ := hrel
      by_cases hil : i < n
      · have hil' : (i : Int) < (n : Int) := by omega
        obtain ⟨⟨b, ms⟩, hx⟩ : ∃ x, R[i]? = some x := ⟨_, List.getElem?_eq_getElem (by rw [hl.out]; exact hil)⟩
        obtain ⟨g, off, am, cm, rfl, k1, k2, k3, k4, k5, k6⟩ := hR.out.move hb.out i b ms hx
        obtain ⟨lm, hlm⟩ : ∃ lm, lm = ms.length := ⟨_, rfl⟩
        rw [← hlm] at k5 k3
        have hsz := hb.out.size
        replace k6 := hide k6; replace hlm := hide hlm
        by_cases hg : (256 : Int) < (lm : Int)
        · go_wp2
          go_ret
          exact ⟨.inl rfl, hb.out.alloc hsz _⟩
        · have hnx : Hid (∀ x ∈ R.take (i + 1), x.2.length ≤ 256) := by
            intro x hx'
            rw [List.take_succ_eq_append_getElem (by rw [hl.out]; exact hil)] at hx'
            rcases List.mem_append.1 hx' with h | h
            · exact h1.out x h
            · rw [List.mem_singleton] at h
              rw [h, (List.getElem?_eq_some_iff.1 hx).2]
              have := hlm.out
              simp only []
              omega
          have hbn := hide (fun o => hb.out.alloc hsz o)
          replace hx := hide hx
          go_wp2
          exact ⟨⟨i + 1, by omega, by simp, hnx, hide (hbn.out _)⟩, by simp [intOf]; omega⟩
      · obtain rfl : i = n := by omega
        go_wp2
        go_ret
        refine ⟨.inr ⟨rfl, by rw [hl.out]; omega, fun x hx => h1.out x ?_⟩, hb.out⟩
        rwa [List.take_of_length_le (by rw [hl.out]; omega)]
end Go.Proofs.Ybulkogy
