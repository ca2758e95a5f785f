import Derived.Test.YbulkoboFmtPacketErr
import Derived.Test.YbulkoboFmtNext
namespace Go.Proofs.YbulkoboFmt
open Go.RowKit
set_option linter.unusedSimpArgs false
set_option linter.unusedVariables false

theorem leB4_back {x : Int} (h0 : 0 ≤ x) (h1 : x < 4294967296) : le4 (x % 256) (x / 256 % 256) (x / 65536 % 256) (x / 16777216) = x := by unfold le4; omega
theorem leB4_byte {x : Int} (h0 : 0 ≤ x) (h1 : x < 4294967296) : byte (x % 256) ∧ byte (x / 256 % 256) ∧ byte (x / 65536 % 256) ∧ byte (x / 16777216) := by unfold byte; omega

/-- The body of an Enhanced Packet Block with the trailer behind. -/
def epY (id len wl : Int) (data : List Int) (tot : Int) : List Int := leB4 id ++ (leB4 0 ++ (leB4 0 ++ (leB4 len ++ (leB4 wl ++ (data ++ leB4 tot)))))
def epb (id len wl : Int) (data : List Int) (tot : Int) : List Int := leB4 6 ++ (leB4 tot ++ epY id len wl data tot)
theorem epY_len (id len wl tot : Int) (data : List Int) : (epY id len wl data tot).length = 24 + data.length := by simp [epY, leB4]; omega
theorem epb_len (id len wl tot : Int) (data : List Int) : (epb id len wl data tot).length = 32 + data.length := by simp [epb, epY, leB4]; omega
theorem epY_data {id len wl tot : Int} {data : List Int} {j : Nat} {v : Int} (h : data[j]? = some v) : (epY id len wl data tot)[20 + j]? = some v := by
  have hj := (List.getElem?_eq_some_iff.1 h).1
  show (([_, _, _, _, _, _, _, _, _, _, _, _, _, _, _, _, _, _, _, _] : List Int) ++ (data ++ leB4 tot))[20 + j]? = some v
  rw [List.getElem?_append_right (by simp), List.getElem?_append_left (by simpa using hj)]
  simpa using h

theorem block_epb (w : World) (Pb R g n cap i : Nat) (cnt : Int) (ifv bufv : Value) (S tl : List Int) (B : Nat) (hst : St w Pb R g n cap i 26 cnt ifv bufv S B) (id len wl tot : Int) (data : List Int) (pd : Nat) (hpd : data.length = pd) (hpm : pd % 4 = 0) (htot : tot = 32 + (pd : Int)) (hpl : pd ≤ 2000)
    (hS : S.drop i = epb id len wl data tot ++ tl) :
    Calls Ybaf.prog 11 #[.pointer (some ⟨Pb, 0, none⟩)] w fun e w' => ∃ G cp rest, e = .returned (.tuple #[.int .u32 6, .slice (some ⟨G, 0, none⟩) (20 + pd) cp, .nilIface]) ∧
      St w' Pb R g n cap (i + (20 + pd + 12)) 26 cnt ifv (.slice (some ⟨G, 0, none⟩) (20 + pd + 4) cp) S B ∧ w'.heap[G]? = some (.cells (bs (epY id len wl data tot) ++ rest).toArray 5 (0, 0)) ∧ 20 + pd + 4 ≤ cp ∧ cp ≤ maxLen ∧ (bufv.ownBlock = some G ∨ w.heap.size ≤ G) ∧ Upd (Pb :: R :: bufv.ownBlock.toList) w w' := by
  have hl := drop_len hst.len hS (by rw [epb_len]; omega)
  have hlen := epb_len id len wl tot data
  have ht0 : 0 ≤ tot := by omega
  have ht1 : tot < 4294967296 := by omega
  have hb := leB4_byte ht0 ht1
  have h8 : (S.drop i).take 8 = [6, 0, 0, 0, tot % 256, tot / 256 % 256, tot / 65536 % 256, tot / 16777216] := by rw [hS]; rfl
  have e8 : (epb id len wl data tot).drop 8 = epY id len wl data tot := rfl
  have h12 : (S.drop (i + 8)).take (20 + pd + 4) = epY id len wl data tot := by
    rw [drop_more hS (by omega), e8, List.take_append_of_le_length (by rw [epY_len]; omega), List.take_of_length_le (by rw [epY_len]; omega)]
  have h4 : (S.drop (i + 8 + (20 + pd))).take 4 = [tot % 256, tot / 256 % 256, tot / 65536 % 256, tot / 16777216] := by
    rw [Nat.add_assoc, drop_more hS (by omega)]
    have : (epb id len wl data tot).drop (8 + (20 + pd)) = leB4 tot := by
      rw [← List.drop_drop, e8]
      have : (epY id len wl data tot).drop (20 + pd) = ((epY id len wl data tot).drop 20).drop pd := by rw [List.drop_drop]
      rw [this]
      have : (epY id len wl data tot).drop 20 = data ++ leB4 tot := rfl
      rw [this, List.drop_append_of_le_length (by omega), List.drop_of_length_le (by omega)]; rfl
    rw [this]; rfl
  refine (block_le w Pb R g n cap i cnt ifv bufv S B hst 6 0 0 0 _ _ _ _ h8 (by omega) ⟨by omega, by omega⟩ ⟨by omega, by omega⟩ ⟨by omega, by omega⟩ ⟨by omega, by omega⟩ hb.1 hb.2.1 hb.2.2.1 hb.2.2.2 (by decide) (20 + pd) (by rw [leB4_back ht0 ht1]; omega) (by omega) (by omega) _ _ _ _ h4 hb.1 hb.2.1 hb.2.2.1 hb.2.2.2 (by rw [leB4_back ht0 ht1]; omega)).mono ?_
  rintro e w' ⟨G, cp, rest, he, h1, h2, h3, h4, h5, h6⟩
  rw [h12] at h2
  exact ⟨G, cp, rest, he, h1, h2, h3, h4, h5, h6⟩

theorem packet_epb (w : World) (Pb R g n cap i : Nat) (gi ni ci : Nat) (I : List (Int × Int)) (bufv : Value) (S : List Int) (B : Nat)
    (hst : St w Pb R g n cap i 26 0 (.slice (some ⟨gi, 0, none⟩) ni ci) bufv S B)
    (hif : w.ownsRow B 52 2 (.slice (some ⟨gi, 0, none⟩) ni ci) ni (ifs I))
    (G pd cp : Nat) (rest : List Value) (id k : Nat) (wl tot : Int) (data : List Int) (hG : w.heap[G]? = some (.cells (bs (epY id k wl data tot) ++ rest).toArray 5 (0, 0))) (hmc : 20 + pd + 4 ≤ cp) (hcp : cp ≤ maxLen)
    (hidn : id < ni) (hni : ni ≤ 1000000) (hk : k ≤ pd) (hpd : pd ≤ 2000) (hw0 : 0 ≤ wl) (hw1 : wl < 4294967296)
    (lt : Int) (hlt : (ifs I)[id * 2]? = some (.int .u16 lt)) :
    Calls Ybaf.prog 14 #[.pointer (some ⟨Pb, 0, none⟩), .int .u32 6, .slice (some ⟨G, 0, none⟩) (20 + pd) cp] w fun e w' => e = .returned (.tuple #[.agg #[.int .i64 1, .int .u16 lt, .slice (some ⟨G, 20, none⟩) k (cp - 20), .int .u32 (if wl < (k : Int) then (k : Int) else wl)], .nilIface]) ∧
      w'.heap[Pb]? = some (.cells (prCells R 26 1 (.slice (some ⟨gi, 0, none⟩) ni ci) bufv).toArray 40 (0, 0)) ∧ w'.heap[G]? = some (.cells (bs (epY id k wl data tot) ++ rest).toArray 5 (0, 0)) ∧ Upd [Pb] w w' := by
  have b0 := leB4_byte (x := (id : Int)) (by omega) (by omega)
  have b1 := leB4_byte (x := (k : Int)) (by omega) (by omega)
  have b2 := leB4_byte (x := wl) hw0 hw1
  have := packet_le w Pb R g n cap i 0 gi ni ci I bufv S B (by simpa using hst) (by omega) hif G (20 + pd) cp (epY id k wl data tot) rest hG (by omega) (by omega) hcp _ _ _ _ _ _ _ _ _ _ _ _
    (hide rfl) b0.1 (hide rfl) b0.2.1 (hide rfl) b0.2.2.1 (hide rfl) b0.2.2.2 (hide rfl) b1.1 (hide rfl) b1.2.1 (hide rfl) b1.2.2.1 (hide rfl) b1.2.2.2 (hide rfl) b2.1 (hide rfl) b2.2.1 (hide rfl) b2.2.2.1 (hide rfl) b2.2.2.2
    id k wl (hide (leB4_back (by omega) (by omega))) (hide (leB4_back (by omega) (by omega))) (hide (leB4_back hw0 hw1)) hidn hni (by omega) (by omega) hw0 hw1 (if wl < (k : Int) then (k : Int) else wl) (hide (by split <;> simp_all)) lt (hide hlt)
  simpa using this

theorem packet_epb_err (w : World) (Pb R g n cap i : Nat) (bufv : Value) (S : List Int) (B : Nat)
    (hst : St w Pb R g n cap i 26 0 (.slice none 0 0) bufv S B)
    (G pd cp : Nat) (rest : List Value) (k : Nat) (wl tot : Int) (data : List Int) (hG : w.heap[G]? = some (.cells (bs (epY 0 k wl data tot) ++ rest).toArray 5 (0, 0))) (hmc : 20 + pd + 4 ≤ cp) (hcp : cp ≤ maxLen)
    (hk : k ≤ pd) (hpd : pd ≤ 2000) (hw0 : 0 ≤ wl) (hw1 : wl < 4294967296) :
    Calls Ybaf.prog 14 #[.pointer (some ⟨Pb, 0, none⟩), .int .u32 6, .slice (some ⟨G, 0, none⟩) (20 + pd) cp] w fun e w' => ∃ p, e = .returned (.tuple #[.agg #[.int .i64 0, .int .u16 0, .slice none 0 0, .int .u32 0], .iface 81 p]) ∧ Upd [Pb] w w' := by
  have b0 := leB4_byte (x := 0) (by omega) (by omega)
  have b1 := leB4_byte (x := (k : Int)) (by omega) (by omega)
  have b2 := leB4_byte (x := wl) hw0 hw1
  exact packet_le_err w Pb R g n cap i 0 bufv S B (by simpa using hst) (by omega) G (20 + pd) cp (epY 0 k wl data tot) rest hG (by omega) (by omega) hcp _ _ _ _ _ _ _ _ _ _ _ _
    (hide rfl) b0.1 (hide rfl) b0.2.1 (hide rfl) b0.2.2.1 (hide rfl) b0.2.2.2 (hide rfl) b1.1 (hide rfl) b1.2.1 (hide rfl) b1.2.2.1 (hide rfl) b1.2.2.2 (hide rfl) b2.1 (hide rfl) b2.2.1 (hide rfl) b2.2.2.1 (hide rfl) b2.2.2.2
    (hide (leB4_back (by omega) (by omega)))
end Go.Proofs.YbulkoboFmt
