import Derived.Test.YbulkogyFmtNew
namespace Go.Proofs.YbulkogyFmt
open Go.RowKit
set_option linter.unusedSimpArgs false
set_option linter.unusedVariables false

def smpl (ev k : Nat) : List Nat := (List.range k).map fun j => (j + 1) * ev - 1
theorem smpl_succ (ev k : Nat) : smpl ev (k + 1) = smpl ev k ++ [(k + 1) * ev - 1] := by simp [smpl, List.range_succ]
theorem smpl_len (ev k : Nat) : (smpl ev k).length = k := by simp [smpl]

/-- The sampled events while they are laid. -/
structure SI (w wr : World) (Rn X rc ev k : Nat) (smp : Value) : Prop where
  hR : wr.heap[Rn]? = some (.cells (runC X smp rc) 32 (0, 0))
  own : wr.ownsRow w.heap.size 3 1 smp k (ints .i64 (smpl ev k))
  hu : Upd [Rn] w wr
def SmP (w w' : World) (Rn X rc ev last : Nat) (e : Ending) : Prop := ∃ smp, e = .returned (.tuple #[]) ∧ SI w w' Rn X rc ev (last / ev) smp
set_option maxRecDepth 100000 in
set_option maxHeartbeats 2000000 in
theorem sample_any (w : World) (Rn X H n last ev rc sc : Nat) (sa : Option Addr) (msv : Value) (hRn : w.heap[Rn]? = some (.cells (runC X (.slice none 0 0) rc) 32 (0, 0))) (hX : w.heap[X]? = some (.cells (exC H n (.slice sa last sc) msv) 36 (0, 0))) (hl : last ≤ 1000) (he0 : 0 < ev) (he1 : ev ≤ 70000) :
    Calls Ybaf.prog 13 #[.pointer (some ⟨Rn, 0, none⟩), .int .i64 (ev : Int), .int .i64 (ev : Int)] w fun e w' => SmP w w' Rn X rc ev last e := by
  obtain ⟨i3, hi3, z0, z1, z2⟩ := info_parts Ybaf.info3
  have r0 : w.cell? ⟨Rn, 0, none⟩ = some (.pointer (some ⟨X, 0, none⟩)) := cell_blk hRn rfl
  have x1 : w.cell? ⟨X, 1, none⟩ = some (.slice sa last sc) := cell_blk hX rfl
  have hl' : (last : Int) ≤ 1000 := by omega
  have he0' : ¬ (ev : Int) < 1 := by omega
  have he1' : (ev : Int) ≤ 70000 := by omega
  have hRl := lt_of_block hRn
  have h0 : Hid (SI w w Rn X rc ev 0 (.slice none 0 0)) := ⟨hRn, World.ownsRow_nil _ _ _ _, Upd.refl _ _⟩
  replace hRn := hide hRn; replace hX := hide hX
  go_enter Ybaf.func13, Ybaf.ntmps13
  go_wp2_with fail
  go_loopw [7] (fun t wr => ∃ (k g : Nat) (smp : Value), Hid (g = (k + 1) * ev) ∧ k ≤ last / ev ∧ t = .int .i64 (g : Int) ∧ Hid (SI w wr Rn X rc ev k smp)) (fun t _ => last + ev + 1 - (intOf t).toNat)
  case atStart => exact ⟨0, ev, _, hide (by simp), Nat.zero_le _, rfl, h0⟩
  case round =>
    clear h0
    obtain ⟨k, g, smp, hg, hk, rfl, h1⟩ := hrel
    obtain ⟨ma, mc, rfl⟩ := own_form h1.out.own
    have hgk : g ≤ last ↔ k + 1 ≤ last / ev := by rw [Nat.le_div_iff_mul_le he0, hg.out]
    have hkl : k ≤ 1000 := Nat.le_trans hk (Nat.le_trans (Nat.div_le_self _ _) hl)
    by_cases hgl : g ≤ last
    · have hgl' : (g : Int) ≤ (last : Int) := by omega
      have hk1 := hgk.1 hgl
      have hg1 : 1 ≤ g := by
        rw [hg.out]
        exact Nat.succ_le_of_lt (Nat.mul_pos (by omega) he0)
      obtain ⟨gm, hgm⟩ : ∃ gm : Nat, (g : Int) - 1 = (gm : Int) := ⟨g - 1, by omega⟩
      have hnext : (k + 1 + 1) * ev = g + ev := by rw [Nat.succ_mul (k + 1) ev, ← hg.out]
      have hR1 := hide h1.out.hR
      have r1 : wr.cell? ⟨Rn, 1, none⟩ = some (.slice ma k mc) := cell_blk h1.out.hR rfl
      have hRm := hide (own_not h1.out.own h1.out.hR (by decide))
      have hsz := h1.out.hu.size
      have hgi : (g : Int) ≤ 1000 := by omega
      replace hgk := hide hgk; replace hnext := hide hnext
      go_wp2_with (at_builtin; refine wpList_append_own_at _ rfl _ _ 25 rfl w.heap.size 3 i3 (.int .i64 0) 1 8 Ybaf.underlying25 hi3 z0 z1 z2 rfl (by decide) _ k (ints .i64 (smpl ev k)) rfl (h1.out.own.alloc _) ⟨wr.heap.size, 0, none⟩ 1 1 (ints .i64 [gm]) rfl rfl ?h2 ?h6 ?h3 ?h4 ?h5 ?_)
      case h2 => intro j u hj; first | exact new_cells1 wr (ints .i64 [gm]) 3 hj | exact hj
      case h6 => exact ints_one _ _
      case h3 => unfold maxLen; omega
      case h4 => omega
      case h5 => first | omega | (simp; omega)
      intro v1 w1 hown1 hg1' hfr
      obtain ⟨a1, c1, rfl⟩ := own_form hown1
      have hu1 := hide (Upd.of_grown_alloc hg1')
      have hR2 := hide (hu1.out.blk hR1.out hRm.out)
      have q1 : w1.cell? ⟨Rn, 1, none⟩ = some (.slice ma k mc) := cell_blk hR2.out rfl
      have q2 : w1.frozen? ⟨Rn, 1, none⟩ = false := froz_blk hR2.out _
      have hnx : Hid (SI w (w1.setCell ⟨Rn, 1, none⟩ (.slice a1 (k + 1) c1)) Rn X rc ev (k + 1) (.slice a1 (k + 1) c1)) := by
        refine ⟨by rw [set_blk hR2.out]; rfl, ?_, ?_⟩
        · rw [smpl_succ, ints_append, ← hg.out, show g - 1 = gm by omega]
          refine own_move hown1 fun b c hb hc => set_blk_ne ?_
          rintro rfl
          have := hR2.out; rw [hc] at this; simp at this
        · have e1 : Upd [Rn] w w1 := ⟨hu1.out.os.trans h1.out.hu.os, hu1.out.tape.trans h1.out.hu.tape, hu1.out.output.trans h1.out.hu.output, Nat.le_trans h1.out.hu.size hu1.out.size, fun b hb hn => (hu1.out.block b (Nat.lt_of_lt_of_le hb h1.out.hu.size) (fun hm => by have := (h1.out.own.lt b (by simpa using hm)).1; omega)).trans (h1.out.hu.block b hb hn)⟩
          exact e1.setCell (p := ⟨Rn, 1, none⟩) (by simp) _
      clear hown1 hg1' hfr hu1
      by_cases hbr : last < g + ev
      · have hbr' : (last : Int) - (g : Int) < (ev : Int) := by omega
        have hke : k + 1 = last / ev := by
          have h2 : ¬ k + 1 + 1 ≤ last / ev := by rw [Nat.le_div_iff_mul_le he0, hnext.out]; omega
          omega
        replace hke := hide hke
        go_wp2_with fail
        go_end0
        exact ⟨_, rfl, by rw [← hke.out]; exact hnx.out⟩
      · have hbr' : ¬ (last : Int) - (g : Int) < (ev : Int) := by omega
        go_wp2_with fail
        exact ⟨⟨k + 1, g + ev, _, hide hnext.out.symm, hk1, by simp, hnx⟩, by simp [intOf]; omega⟩
    · have hgl' : ¬ (g : Int) ≤ (last : Int) := by omega
      have hke : k = last / ev := by
        have : ¬ k + 1 ≤ last / ev := fun h => hgl (hgk.2 h)
        omega
      replace hgk := hide hgk; replace hke := hide hke
      go_wp2
      go_end0
      exact ⟨_, rfl, by rw [← hke.out]; exact h1.out⟩
end Go.Proofs.YbulkogyFmt
