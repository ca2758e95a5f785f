import Derived.Test.YbulkoboFmtNextLe
import Derived.Test.YbulkoboFmtEpb
namespace Go.Proofs.YbulkoboFmt
open Go.RowKit
set_option linter.unusedSimpArgs false
set_option linter.unusedVariables false

/-- How much of the stream is yet to be read. -/
def left (R n : Nat) (w : World) : Nat := match w.cell? ⟨R, 1, none⟩ with | some (.int _ x) => (n + 1 - x).toNat | _ => 0
theorem St.left {w : World} {Pb R g n cap i : Nat} {T : TypeId} {cnt : Int} {ifv bufv : Value} {S : List Int} {B : Nat} (h : St w Pb R g n cap i T cnt ifv bufv S B) : YbulkoboFmt.left R n w = n + 1 - i := by
  have c : w.cell? ⟨R, 1, none⟩ = some (.int .i64 (i : Int)) := cell_blk h.hR rfl
  simp only [YbulkoboFmt.left, c]
  omega

theorem ni_skip {w wr w1 : World} {Pb R g n cap B i i' N2 j G cp k : Nat} {S lts : List Int} {T : TypeId} {ifv bufv : Value} (hst : St wr Pb R g n cap i T 0 ifv bufv S B) (hif : wr.ownsRow B 52 2 ifv j (ifs ((lts.take j).map fun x => (x, 0)))) (hres : wr.heap[N2]? = some (.cells pk0 42 (0, 0))) (hbB : ∀ G, bufv.ownBlock = some G → B ≤ G) (hBr : B ≤ wr.heap.size) (hbel : Below B w wr) (hj0 : j = 0 → ifv = .slice none 0 0)
    (hPB : B ≤ Pb) (hRB : B ≤ R) (hu : Upd (Pb :: R :: bufv.ownBlock.toList) wr w1) (hst1 : St w1 Pb R g n cap i' T 0 ifv (.slice (some ⟨G, 0, none⟩) k cp) S B) (hG : bufv.ownBlock = some G ∨ wr.heap.size ≤ G) : NI w w1 Pb R g n cap B S lts T j i' N2 := by
  obtain ⟨h1, h2, h3, h4⟩ := ni_read hst hif hres hbB hBr hbel hPB hRB hu
  refine ⟨_, _, hst1, h1, h2, ?_, h3, h4, hj0⟩
  intro G' h; cases h
  show B ≤ G
  rcases hG with h | h
  · exact hbB _ h
  · omega

theorem ifs_get {lts : List Int} {id : Nat} {lt : Int} (h : lts[id]? = some lt) : (ifs (lts.map fun x => (x, 0)))[id * 2]? = some (.int .u16 lt) := by
  induction lts generalizing id with
  | nil => simp at h
  | cons a l ih =>
    cases id with
    | zero => simp at h; subst h; simp [ifs]
    | succ id =>
      simp at h
      have := ih h
      have e : (id + 1) * 2 = id * 2 + 2 := by omega
      rw [e]
      simpa [ifs] using this

theorem nx_end {w2 : World} {N2 B : Nat} (hB : B ≤ N2) (v0 v1 v2 v3 : Value) :
    (∀ k, k ≠ N2 → ((((w2.setCell ⟨N2, 0, none⟩ v0).setCell ⟨N2, 1, none⟩ v1).setCell ⟨N2, 2, none⟩ v2).setCell ⟨N2, 3, none⟩ v3).heap[k]? = w2.heap[k]?) ∧ Below B w2 ((((w2.setCell ⟨N2, 0, none⟩ v0).setCell ⟨N2, 1, none⟩ v1).setCell ⟨N2, 2, none⟩ v2).setCell ⟨N2, 3, none⟩ v3) :=
  ⟨fun k hk => by rw [set_blk_ne hk, set_blk_ne hk, set_blk_ne hk, set_blk_ne hk], ((((Below.refl B w2).setCell (p := ⟨N2, 0, none⟩) hB _).setCell (p := ⟨N2, 1, none⟩) hB _).setCell (p := ⟨N2, 2, none⟩) hB _).setCell (p := ⟨N2, 3, none⟩) hB _⟩
theorem blk_ne {w : World} {k l : Nat} {c d : Array Value} {e f : TypeId} (h : w.heap[k]? = some (.cells c e (0, 0))) (h' : w.heap[l]? = some (.cells d f (0, 0))) (hne : e ≠ f) : k ≠ l := by
  rintro rfl; rw [h] at h'; simp at h'; exact hne h'.2

/-- What next hands back. -/
def NX (w w' : World) (Pb B L id k : Nat) (wl lt : Int) (data : List Int) (e : Ending) : Prop :=
  ∃ G cp gi ci, e = .returned (.tuple #[.agg #[.int .i64 1, .int .u16 lt, .slice (some ⟨G, 20, none⟩) k (cp - 20), .int .u32 (if wl < (k : Int) then (k : Int) else wl)], .nilIface]) ∧
    w'.cell? ⟨Pb, 4, none⟩ = some (.slice (some ⟨gi, 0, none⟩) L ci) ∧ (∀ j v, data[j]? = some v → w'.cell? ⟨G, 20 + j, none⟩ = some (.int .u8 v)) ∧ Below B w w'

theorem ni_close {w wr : World} {Pb R g n cap B N2 j nsk : Nat} {S lts : List Int} (hj : j < lts.length) (h : NI w wr Pb R g n cap B S lts 26 (j + 1) (20 * j + 20) N2) :
    Hid (∃ j q, ((j < lts.length ∧ q = 0) ∨ (j = lts.length ∧ q ≤ nsk)) ∧ NI w wr Pb R g n cap B S lts 26 j (20 * j + 16 * q) N2) := by
  refine ⟨j + 1, 0, by omega, ?_⟩
  rwa [show 20 * (j + 1) + 16 * 0 = 20 * j + 20 by omega]

def NXP (w w' : World) (Pb B id k : Nat) (wl : Int) (lts data : List Int) (e : Ending) : Prop :=
  (lts = [] ∧ ∃ p, e = .returned (.tuple #[.agg pk0, .iface 81 p]) ∧ Below B w w') ∨ (∃ lt, lts[id]? = some lt ∧ NX w w' Pb B lts.length id k wl lt data e)

set_option maxRecDepth 100000 in
set_option maxHeartbeats 40000000 in
theorem next_le (w : World) (Pb R g n cap B : Nat) (S lts : List Int) (hPB : B ≤ Pb) (hRB : B ≤ R) (hBw : B ≤ w.heap.size) (hst : St w Pb R g n cap 0 26 0 (.slice none 0 0) (.slice none 0 0) S B)
    (hlt : ∀ x ∈ lts, 0 ≤ x ∧ x < 65536) (hN : lts.length ≤ 300) (nsk : Nat) (hS1 : ∀ j x, lts[j]? = some x → ∃ tl, S.drop (20 * j) = idb x ++ tl) (hS2 : ∀ q, q < nsk → ∃ tl, S.drop (20 * lts.length + 16 * q) = skb ++ tl)
    (id k pd : Nat) (wl tot : Int) (data : List Int) (hS3 : ∃ tl, S.drop (20 * lts.length + 16 * nsk) = epb id k wl data tot ++ tl) (hpd : data.length = pd) (hpm : pd % 4 = 0) (htot : tot = 32 + (pd : Int)) (hpl : pd ≤ 2000) (hk : k ≤ pd) (hw0 : 0 ≤ wl) (hw1 : wl < 4294967296) (hid0 : lts = [] → id = 0) (hidl : 0 < lts.length → id < lts.length) :
    Calls Ybaf.prog 7 #[.pointer (some ⟨Pb, 0, none⟩)] w fun e w' => NXP w w' Pb B id k wl lts data e := by
  replace hst := hide hst; replace hS1 := hide hS1; replace hS2 := hide hS2; replace hS3 := hide hS3; replace hlt := hide hlt
  obtain ⟨i0, hi, hz0, hz1, hz2⟩ := info_parts Ybaf.info52
  have hme := method_leu32
  have hna := nil_leu32
  have hme2 := method_leu16
  have hna2 := nil_leu16
  go_enter Ybaf.func7, Ybaf.ntmps7
  go_wp2_with fail
  go_loopw [4] (fun t wr => Hid (∃ j q, ((j < lts.length ∧ q = 0) ∨ (j = lts.length ∧ q ≤ nsk)) ∧ NI w wr Pb R g n cap B S lts 26 j (20 * j + 16 * q) w.heap.size)) (fun _ wr => left R n wr)
  case atStart =>
    refine hide ⟨0, 0, ?_, ?_⟩
    · rcases Nat.eq_zero_or_pos lts.length with h | h
      · exact .inr ⟨h.symm, by omega⟩
      · exact .inl ⟨h, rfl⟩
    · exact ⟨_, _, hst.out.upd (Upd.of_below ((Below.refl _ w).alloc (Nat.le_refl _) _)), World.ownsRow_nil _ _ _ _, heap_alloc_new w _, by simp [Value.ownBlock], by simp; omega, (Below.refl _ w).alloc hBw _, fun _ => rfl⟩
  case round =>
    obtain ⟨j, q, hjq, bufv, ifv, hst, hif, hres, hbB, hBr, hbel, hj0⟩ := hrel.out
    have hsz := hide hst.left
    replace hst := hide hst; replace hif := hide hif; replace hres := hide hres; replace hbB := hide hbB; replace hbel := hide hbel; replace hj0 := hide hj0
    clear hrel
    by_cases hjl : j < lts.length
    · obtain ⟨lt, hlt'⟩ : ∃ lt, lts[j]? = some lt := ⟨_, List.getElem?_eq_getElem hjl⟩
      have hl2 := hide (hlt.out lt (List.mem_of_getElem? hlt'))
      obtain rfl : q = 0 := by omega
      obtain ⟨tl, hS⟩ := hS1.out j lt hlt'
      rw [Nat.mul_zero, Nat.add_zero] at hst hsz
      have hdl := drop_len hst.out.len hS (by rw [idb_eq]; simp)
      rw [idb_eq] at hdl; simp only [List.length_cons, List.length_nil] at hdl
      replace hlt' := hide hlt'; replace hS := hide hS
      go_wp2_with fail
      refine (block_idb wr Pb R g n cap (20 * j) 0 ifv bufv S tl B hst.out lt hS.out).mono ?_
      rintro e w1 ⟨G, cp, rest, rfl, hst1, hG, hcp, hcm, hGo, hu⟩
      have hP1 := hide hst1.hP
      have q1 : w1.cell? ⟨Pb, 1, none⟩ = some (.iface 26 (.agg #[])) := cell_blk hst1.hP rfl
      have q4 : w1.cell? ⟨Pb, 4, none⟩ = some ifv := cell_blk hst1.hP rfl
      obtain ⟨ao, ci, rfl⟩ := own_form hif.out
      have hcp4 : ¬ cp = 4 := by omega
      have hcp' : (cp : Int) ≤ 9223372036854775807 := by unfold maxLen at hcm; omega
      have hcp4' : (4 : Int) ≤ (cp : Int) := by omega
      have hme : left R n wr = n + 1 - 20 * j := hsz.out
      have hdec := hide (And.intro hme hdl)
      replace hst1 := hide hst1; replace hG := hide hG; replace hu := hide hu; replace hGo := hide hGo
      have hme := method_leu32
      clear hdl hsz
      go_wp2_with fail
      have hGd : Hid (∀ w', Below w1.heap.size w1 w' → w'.heap[G]? = some (.cells (bs [lt % 256, lt / 256, 0, 0, 0, 0, 0, 0, 20, 0, 0, 0] ++ rest).toArray 5 (0, 0))) := fun w' hb => (hb.block G (lt_of_block hG.out)).trans hG.out
      have hrd := hide (ni_read hst.out hif.out hres.out hbB.out hBr hbel.out hPB hRB hu.out)
      have hifd : Hid (∀ w', Below w1.heap.size w1 w' → w'.ownsRow B 52 2 (.slice ao j ci) j (ifs ((lts.take j).map fun x => (x, 0)))) := fun w' hb => (Upd.of_below (ks := []) hb).own hrd.out.1 (by simp)
      have hB1 : B ≤ w1.heap.size := hrd.out.2.2.1
      have hbB1 : Hid (∀ G', (Value.slice (some ⟨G, 0, none⟩) 12 cp).ownBlock = some G' → B ≤ G') := by
        intro G' h; cases h
        show B ≤ G
        rcases hGo.out with h | h
        · exact hbB.out _ h
        · omega
      have hbd : Below w1.heap.size w1 w1.drew := (Below.refl _ _).drew
      have hPd : Hid (∀ w', Below w1.heap.size w1 w' → w'.heap[Pb]? = some (.cells (prCells R 26 0 (.slice ao j ci) (.slice (some ⟨G, 0, none⟩) 12 cp)).toArray 40 (0, 0))) := fun w' hb => (hb.block Pb (lt_of_block hP1.out)).trans hP1.out
      have hkp := hide (And.intro hPB hjl)
      have hj9 : j ≤ 300 := by omega
      clear hst hif hres hbB hbel hBr hu hGo hcm hPB hRB hBw hN hlt hS hS1 hS2 hS3 hjl hjq hcp hpd hpm htot hpl hk hw0 hw1 hid0 hidl hj0
      go_region_law (first
        | (refine step_append_own rfl (.tmp 50) (.tmp 67) 38 rfl B 52 i0 (.agg #[.int .u16 0, .int .u32 0]) 2 8 Ybaf.underlying38 hi hz0 hz1 hz2 rfl (by decide) _ j (ifs ((lts.take j).map fun x => (x, 0))) rfl ((hifd.out _ hb3).alloc _) ⟨w3.heap.size, 0, none⟩ 1 1 [.int .u16 lt, .int .u32 0] rfl rfl (fun j' u hj' => new_cells1 w3 [.int .u16 lt, .int .u32 0] 52 hj') (by simp [Value.oneCell']) (by unfold maxLen; omega) (by omega) (by have := hb3.size; simp; omega) ?_; intro v6 w6 hown6 hg6 _; obtain ⟨ao6, ci6, rfl⟩ := own_form hown6; have hP6 := hide ((St.keep52 (hst1.out.below hb3) (hifd.out _ hb3) hg6).hP); replace hown6 := hide hown6; replace hg6 := hide hg6; have u4 : w6.cell? ⟨Pb, 4, none⟩ = some (.slice ao j ci) := cell_blk hP6.out rfl; have uf : w6.frozen? ⟨Pb, 4, none⟩ = false := froz_blk hP6.out _)
        | (go_simp; go_at_call 21; refine (idb_u32 w2 G (cp - 4) lt rest (hGd.out _ hb2)).mono ?_; rintro e w3 ⟨rfl, hb3⟩; replace hb3 := bnext hb2 hb3; have x4 : w3.cell? ⟨Pb, 4, none⟩ = some (.slice ao j ci) := cell_blk (hPd.out _ hb3) rfl; have x5 : Pb < w3.heap.size := lt_of_block (hPd.out _ hb3))
        | (go_simp; go_at_call 46; refine (idb_u16 w1.drew G cp lt rest hl2.out.1 hl2.out.2 (hGd.out _ hbd)).mono ?_; rintro e w2 ⟨rfl, hb2⟩; replace hb2 := bnext hbd hb2; have y1 : w2.cell? ⟨Pb, 1, none⟩ = some (.iface 26 (.agg #[])) := cell_blk (hPd.out _ hb2) rfl; have y4 : w2.cell? ⟨Pb, 4, none⟩ = some (.slice ao j ci) := cell_blk (hPd.out _ hb2) rfl))
      all_goals
        have hni := hide (ni_step (N2 := w.heap.size) hst1.out hrd.out.1 hrd.out.2.1 hB1 hrd.out.2.2.2 hkp.out.1 hbB1.out hb3 hown6.out hg6.out hlt'.out)
        go_wp2
        refine ⟨ni_close hkp.out.2 hni.out, ?_⟩
        obtain ⟨_, _, hs, _⟩ := hni.out
        rw [hs.left, hdec.out.1]
        have := hdec.out.2
        omega
    · obtain rfl : j = lts.length := by omega
      by_cases hq : q < nsk
      · obtain ⟨tl, hS⟩ := hS2.out q hq
        go_wp2_with fail
        refine (block_skb wr Pb R g n cap (20 * lts.length + 16 * q) 0 ifv bufv S tl B hst.out hS).mono ?_
        rintro e w1 ⟨G, cp, rfl, hst1, hGo, hu⟩
        go_wp2_with fail
        refine ⟨hide ⟨lts.length, q + 1, .inr ⟨rfl, by omega⟩, ?_⟩, ?_⟩
        · have := ni_skip hst.out hif.out hres.out hbB.out hBr hbel.out hj0.out hPB hRB hu hst1 hGo
          rwa [show 20 * lts.length + 16 * (q + 1) = 20 * lts.length + 16 * q + 16 by omega]
        · rw [hst1.left, hsz.out]
          have := drop_len hst.out.len hS (by rw [skb_eq]; simp)
          rw [skb_eq] at this; simp at this; omega
      · obtain rfl : q = nsk := by omega
        obtain ⟨tl, hS⟩ := hS3.out
        go_wp2_with fail
        refine (block_epb wr Pb R g n cap (20 * lts.length + 16 * q) 0 ifv bufv S tl B hst.out id k wl tot data pd hpd hpm htot hpl hS).mono ?_
        rintro e w1 ⟨G, cp, rest, rfl, hst1, hG, hcp, hcm, hGo, hu⟩
        obtain ⟨hif1, hres1, hB1, hbel1⟩ := ni_read hst.out hif.out hres.out hbB.out hBr hbel.out hPB hRB hu
        rw [List.take_length] at hif1
        clear hst hif hres hbB hBr hbel hu hS1 hS2 hS3 hlt hme hna hme2 hna2 hS
        replace hst1 := hide hst1; replace hif1 := hide hif1; replace hres1 := hide hres1; replace hbel1 := hide hbel1; replace hG := hide hG; replace hid0 := hide hid0
        clear hGo hsz hjq hjl hq htot hpm hpd
        have hN1 := hide (fun (w2 : World) (hu : Upd [Pb] w1 w2) => hu.blk hres1.out (by simpa using blk_ne hres1.out hst1.out.hP (by decide)))
        rcases Nat.eq_zero_or_pos lts.length with hL | hL
        · have hL0 : lts = [] := List.eq_nil_of_length_eq_zero hL
          obtain rfl := hj0.out hL
          have hid := hid0.out hL0
          subst hid
          have hpk := hide (packet_epb_err w1 Pb R g n cap _ _ S B hst1.out G pd cp rest k wl tot data hG.out hcp hcm hk hpl hw0 hw1)
          replace hL0 := hide hL0
          go_wp2_with fail
          refine hpk.out.mono ?_
          rintro e w2 ⟨p, rfl, hu2⟩
          have hr2 := hide (hN1.out w2 hu2)
          have r0 : w2.cell? ⟨w.heap.size, 0, none⟩ = some (.int .i64 0) := cell_blk hr2.out rfl
          have r1 : w2.cell? ⟨w.heap.size, 1, none⟩ = some (.int .u16 0) := cell_blk hr2.out rfl
          have r2 : w2.cell? ⟨w.heap.size, 2, none⟩ = some (.slice none 0 0) := cell_blk hr2.out rfl
          have r3 : w2.cell? ⟨w.heap.size, 3, none⟩ = some (.int .u32 0) := cell_blk hr2.out rfl
          have s0 : w2.frozen? ⟨w.heap.size, 0, none⟩ = false := froz_blk hr2.out _
          have s1 : w2.frozen? ⟨w.heap.size, 1, none⟩ = false := froz_blk hr2.out _
          have s2 : w2.frozen? ⟨w.heap.size, 2, none⟩ = false := froz_blk hr2.out _
          have s3 : w2.frozen? ⟨w.heap.size, 3, none⟩ = false := froz_blk hr2.out _
          replace hu2 := hide hu2
          go_wp2
          refine bodyPost_ret (v := .tuple #[.agg pk0, .iface 81 p]) (by simp [results, Ybaf.results7, go_sem, r0, r1, r2, r3, s0, s1, s2, s3, pk0]) rfl (.inl ⟨hL0.out, _, rfl, ?_⟩)
          exact (hbel1.out.trans (hu2.out.below hB1 (by simpa using hPB))).trans (nx_end hBw _ _ _ _).2
        · have hidL := hidl hL
          obtain ⟨lt, hlt'⟩ : ∃ lt, lts[id]? = some lt := ⟨_, List.getElem?_eq_getElem hidL⟩
          obtain ⟨gi, ci, rfl⟩ : ∃ gi ci, ifv = .slice (some ⟨gi, 0, none⟩) lts.length ci := by
            rcases hif1.out.2 with ⟨_, h⟩ | ⟨g', c', _, h, _⟩
            · omega
            · exact ⟨g', c', h⟩
          have hpk := hide (packet_epb w1 Pb R g n cap _ gi lts.length ci _ _ S B hst1.out hif1.out G pd cp rest id k wl tot data hG.out hcp hcm hidL (by omega) hk hpl hw0 hw1 lt (ifs_get hlt'))
          obtain ⟨mx, hmx⟩ : ∃ mx, mx = if wl < (k : Int) then (k : Int) else wl := ⟨_, rfl⟩
          rw [← hmx] at hpk
          replace hmx := hide hmx
          have hGN := hide (blk_ne hG.out hres1.out (by decide))
          have hPN := hide (blk_ne hst1.out.hP hres1.out (by decide))
          replace hlt' := hide hlt'
          clear hidl hL hj0
          go_wp2_with fail
          refine hpk.out.mono ?_
          rintro e w2 ⟨rfl, hP2, hG2, hu2⟩
          have hr2 := hide (hN1.out w2 hu2)
          have r0 : w2.cell? ⟨w.heap.size, 0, none⟩ = some (.int .i64 0) := cell_blk hr2.out rfl
          have r1 : w2.cell? ⟨w.heap.size, 1, none⟩ = some (.int .u16 0) := cell_blk hr2.out rfl
          have r2 : w2.cell? ⟨w.heap.size, 2, none⟩ = some (.slice none 0 0) := cell_blk hr2.out rfl
          have r3 : w2.cell? ⟨w.heap.size, 3, none⟩ = some (.int .u32 0) := cell_blk hr2.out rfl
          have s0 : w2.frozen? ⟨w.heap.size, 0, none⟩ = false := froz_blk hr2.out _
          have s1 : w2.frozen? ⟨w.heap.size, 1, none⟩ = false := froz_blk hr2.out _
          have s2 : w2.frozen? ⟨w.heap.size, 2, none⟩ = false := froz_blk hr2.out _
          have s3 : w2.frozen? ⟨w.heap.size, 3, none⟩ = false := froz_blk hr2.out _
          replace hu2 := hide hu2; replace hP2 := hide hP2; replace hG2 := hide hG2
          go_wp2
          refine bodyPost_ret (v := .tuple #[.agg #[.int .i64 1, .int .u16 lt, .slice (some ⟨G, 20, none⟩) k (cp - 20), .int .u32 mx], .nilIface]) (by simp [results, Ybaf.results7, go_sem, r0, r1, r2, r3, s0, s1, s2, s3]) rfl (.inr ⟨lt, hlt'.out, G, cp, gi, ci, by rw [hmx.out], ?_, ?_, ?_⟩)
          · exact cell_blk (((nx_end (B := B) hBw _ _ _ _).1 Pb hPN.out).trans hP2.out) rfl
          · intro j v hj
            exact cell_blk (((nx_end (B := B) hBw _ _ _ _).1 G hGN.out).trans hG2.out) (ycell rest (epY_data hj))
          · exact (hbel1.out.trans (hu2.out.below hB1 (by simpa using hPB))).trans (nx_end hBw _ _ _ _).2
end Go.Proofs.YbulkoboFmt
