import Derived.Test.YbulkoboFmtLawKit
import Derived.Test.YbulkoboFmtNextW
namespace Go.Proofs.YbulkoboFmt
open Go.RowKit
set_option linter.unusedSimpArgs false
set_option linter.unusedVariables false

/-- The reader is laid: its state is that of 'next'. -/
theorem st_start {w w1 : World} {g n cp : Nat} {S : List Int} (h : OW w w1 (.slice (some ⟨g, 0, none⟩) n cp) n S) (hn : n ≤ 1000000) (hcp : n ≤ cp) (hcm : cp ≤ maxLen) (T : TypeId) (ifv : Value) (W : World)
    (hW : W = (w1.alloc (.cells #[.slice (some ⟨g, 0, none⟩) n cp, .int .i64 0] 33)).alloc (.cells #[.iface 31 (.pointer (some ⟨w1.heap.size, 0, none⟩)), .iface T (.agg #[]), .bool false, .int .i64 0, ifv, .slice none 0 0] 40)) :
    St W (w1.heap.size + 1) w1.heap.size g n cp 0 T 0 ifv (.slice none 0 0) S w.heap.size ∧ Below w.heap.size w W := by
  subst hW
  have hs := h.2.size
  refine ⟨⟨?_, ?_, (h.1.alloc _).alloc _, .inl rfl, by simp [Value.ownBlock], hn, hcp, hcm⟩, (h.2.alloc hs _).alloc (by simp; omega) _⟩
  · rw [show w1.heap.size + 1 = (w1.alloc (.cells #[.slice (some ⟨g, 0, none⟩) n cp, .int .i64 0] 33)).heap.size by simp]
    exact heap_alloc_new _ _
  · rw [Below.heap_alloc _ _ _ (by simp)]
    exact heap_alloc_new w1 _

theorem enh_next {w w1 : World} {g j q idn len3 pd cp : Nat} {a4 : Int} {lts P : List Int} (hl0 : lts.length = j) (hg0 : j ≤ 300) (hw0 : ∀ x ∈ lts, 0 ≤ x ∧ x < 65536) (hq : q < 4)
    (h : OW w w1 (.slice (some ⟨g, 0, none⟩) (20 * j + 16 * q + 28 + pd + 4) cp) (20 * j + 16 * q + 28 + pd + 4) (strm lts q (epb idn len3 a4 P (28 + (pd : Int) + 4)))) (hcp : 20 * j + 16 * q + 28 + pd + 4 ≤ cp) (hcm : cp ≤ maxLen)
    (hPl : P.length = pd) (hpd1 : len3 ≤ pd) (hpd2 : pd ≤ 1030) (hpd4 : pd % 4 = 0) (h40 : 0 ≤ a4) (h41 : a4 < 4294967296) (hid0 : j = 0 → idn = 0) (hidj : 0 < j → idn < j) (W : World)
    (hW : W = (w1.alloc (.cells #[.slice (some ⟨g, 0, none⟩) (20 * j + 16 * q + 28 + pd + 4) cp, .int .i64 0] 33)).alloc (.cells #[.iface 31 (.pointer (some ⟨w1.heap.size, 0, none⟩)), .iface 26 (.agg #[]), .bool false, .int .i64 0, .slice none 0 0, .slice none 0 0] 40)) :
    Calls Ybaf.prog 7 #[.pointer (some ⟨w1.heap.size + 1, 0, none⟩)] W fun e w' => NXP W w' (w1.heap.size + 1) w.heap.size idn len3 a4 lts P e := by
  obtain ⟨hst, hb⟩ := st_start h (by omega) hcp hcm 26 (.slice none 0 0) W hW
  have hs := h.2.size
  exact next_le W (w1.heap.size + 1) w1.heap.size g _ cp w.heap.size _ lts (by omega) (by omega) hb.size hst hw0 (by omega) q (strm_idb lts q _) (fun q' hq' => strm_skb lts q _ q' hq') idn len3 pd a4 (28 + (pd : Int) + 4) P
    ⟨[], by rw [List.append_nil]; exact strm_end lts q _⟩ hPl hpd4 (by omega) (by omega) hpd1 h40 h41 (fun h0 => hid0 (by rw [← hl0, h0]; rfl)) (fun h0 => by rw [hl0] at h0 ⊢; exact hidj h0)
theorem enh_next0 {w w1 : World} {g q len3 pd cp : Nat} {a4 : Int} {lts P : List Int} (hl0 : lts.length = 0) (hq : q < 4)
    (h : OW w w1 (.slice (some ⟨g, 0, none⟩) (16 * q + 28 + pd + 4) cp) (16 * q + 28 + pd + 4) (strm lts q (epb ((0 : Nat) : Int) len3 a4 P (28 + (pd : Int) + 4)))) (hcp : 16 * q + 28 + pd + 4 ≤ cp) (hcm : cp ≤ maxLen)
    (hPl : P.length = pd) (hpd1 : len3 ≤ pd) (hpd2 : pd ≤ 1030) (hpd4 : pd % 4 = 0) (h40 : 0 ≤ a4) (h41 : a4 < 4294967296) (W : World)
    (hW : W = (w1.alloc (.cells #[.slice (some ⟨g, 0, none⟩) (16 * q + 28 + pd + 4) cp, .int .i64 0] 33)).alloc (.cells #[.iface 31 (.pointer (some ⟨w1.heap.size, 0, none⟩)), .iface 26 (.agg #[]), .bool false, .int .i64 0, .slice none 0 0, .slice none 0 0] 40)) :
    Calls Ybaf.prog 7 #[.pointer (some ⟨w1.heap.size + 1, 0, none⟩)] W fun e w' => NXP W w' (w1.heap.size + 1) w.heap.size 0 len3 a4 lts P e := by
  obtain ⟨n, hn⟩ : ∃ n, n = 16 * q + 28 + pd + 4 := ⟨_, rfl⟩
  have hn' : n = 20 * 0 + 16 * q + 28 + pd + 4 := by omega
  rw [← hn] at h hcp hW
  rw [hn'] at h hcp hW
  exact enh_next hl0 (by omega) (fun x hx => by rw [List.eq_nil_of_length_eq_zero hl0] at hx; simp at hx) hq h hcp hcm hPl hpd1 hpd2 hpd4 h40 h41 (fun _ => rfl) (by omega) W hW
end Go.Proofs.YbulkoboFmt
