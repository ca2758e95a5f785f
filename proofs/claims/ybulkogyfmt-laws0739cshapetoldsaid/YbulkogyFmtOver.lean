import Derived.Test.YbulkogyFmtMid
namespace Go.Proofs.YbulkogyFmt
open Go.RowKit
set_option linter.unusedSimpArgs false
set_option linter.unusedVariables false

/-! ### the callees, told over the whole memory -/
theorem BR.drawC {w wr : World} {C : Cx} {s : BS} {k rc c : Nat} {args l : List Nat} (h : BR w wr C s k rc args l) (hch : Ans w C.a2 C.len k c C.B) (hc5 : c ≤ 255) (hk : k ≤ 1000) (hl0 : 0 < l.length) (hl1 : C.n ≤ 1000) (hlen : C.len ≤ 5000) :
    Calls Ybaf.prog 8 #[.slice (some ⟨C.E, 0, none⟩) l.length C.n, .iface 24 (.pointer (some ⟨C.Rb, 0, none⟩))] wr fun e w' => e = .returned (.int .i64 ((l.getD (c % l.length) 0 : Nat) : Int)) ∧ BR w w' C s (k + 1) rc (args ++ [l.length]) l := by
  obtain ⟨argsv, stv, msv, cs, iv, tg, hA, hR, hS, hI, hE, r⟩ := h
  refine (draw_any wr C.Bx C.E C.n C.Rb k c C.len C.cap C.B C.a2 args l argsv hE.ea hA.rb hA.ar (hch.below r.1) r.2.2.1 hc5 hk hl0 hl1 r.2.1 hlen (fun he => ?_)).mono ?_
  · have := hA.tar _ he
    rw [hE.ten] at this
    cases this
  · rintro e w' ⟨argsv', rfl, d1, d2, d3, d4⟩
    exact ⟨rfl, BR.draw hA hR hS hI hE r d1 d2 d3 d4⟩
theorem BR.sendC {w wr : World} {C : Cx} {s : BS} {k rc p : Nat} {args l : List Nat} (h : BR w wr C s k rc args l) (hi : s.steps.length ≤ 1000) (hm : s.msgs.length ≤ 1000) :
    Calls Ybaf.prog 9 #[.pointer (some ⟨C.Rn, 0, none⟩), .int .i64 (p : Int)] wr fun e w' => e = .returned (.int .i64 (s.steps.length : Int)) ∧ BR w w' C { s with steps := s.steps ++ [(p, [])], msgs := s.msgs ++ [s.steps.length] } k rc args l := by
  obtain ⟨argsv, stv, msv, cs, iv, tg, hA, hR, hS, hI, hE, r⟩ := h
  refine (send_any wr C.Rn C.X C.H C.n s.steps.length p C.B rc s.msgs.length (.slice none 0 0) stv msv cs s.msgs hR.rn hR.x hR.st hR.ms hi hm r.2.1).mono ?_
  rintro e w' ⟨stv', msv', rfl, d1, d2, d3, d4, d5⟩
  exact ⟨rfl, BR.send hA hR hS hI hE r d1 d2 d3 d4 d5⟩
theorem BR.recvC {w wr : World} {C : Cx} {s : BS} {k rc p fr : Nat} {args l : List Nat} (h : BR w wr C s k rc args l) (hi : s.steps.length ≤ 1000) (hrc : rc ≤ 1000) :
    Calls Ybaf.prog 11 #[.pointer (some ⟨C.Rn, 0, none⟩), .int .i64 (p : Int), .int .i64 (fr : Int)] wr fun e w' => e = .returned (.tuple #[]) ∧ BR w w' C { s with steps := s.steps ++ [(p, [fr])] } k (rc + 1) args l := by
  obtain ⟨argsv, stv, msv, cs, iv, tg, hA, hR, hS, hI, hE, r⟩ := h
  refine (recv_any wr C.Rn C.X C.H C.n s.steps.length p C.B rc fr (.slice none 0 0) stv msv cs hR.rn hR.x hR.st hi hrc r.2.1).mono ?_
  rintro e w' ⟨stv', rfl, d0, d1, d2, d3, d4⟩
  exact ⟨rfl, BR.recv hA hR hS hI hE r d0 d1 d2 d3 d4⟩
theorem BR.addC {w wr : World} {C : Cx} {s : BS} {k rc q : Nat} {args l : List Nat} (h : BR w wr C s k rc args l) (hn : C.n ≤ 1000) (hs : ∀ a b, a ≤ b → b < l.length → l.getD a 0 ≤ l.getD b 0) (hlt : l.length < C.n) :
    Calls Ybaf.prog 10 #[.pointer (some ⟨C.Bx, 0, none⟩), .int .i64 (q : Int)] wr fun e w' => e = .returned (.tuple #[]) ∧ ∃ r, AtIdx l q r ∧ BR w w' C s k rc args (l.take r ++ q :: l.drop r) := by
  refine (add_any wr C.Bx C.E C.n q l h.eaOf hn hs hlt).mono ?_
  rintro e w' ⟨rfl, ⟨r, hr, he⟩, hu⟩
  exact ⟨rfl, r, hr, h.act he hu⟩
theorem BR.remC {w wr : World} {C : Cx} {s : BS} {k rc q : Nat} {args l : List Nat} (h : BR w wr C s k rc args l) (hn : C.n ≤ 1000) (hs : ∀ a b, a ≤ b → b < l.length → l.getD a 0 ≤ l.getD b 0) (hm : q ∈ l) :
    Calls Ybaf.prog 12 #[.pointer (some ⟨C.Bx, 0, none⟩), .int .i64 (q : Int)] wr fun e w' => e = .returned (.tuple #[]) ∧ ∃ r, AtIdx l q r ∧ BR w w' C s k rc args (l.take r ++ l.drop (r + 1)) := by
  refine (remove_any wr C.Bx C.E C.n q l h.eaOf hn hs hm).mono ?_
  rintro e w' ⟨rfl, ⟨r, hr, he⟩, hu⟩
  exact ⟨rfl, r, hr, h.act he hu⟩
theorem BR.que {w wr : World} {C : Cx} {s : BS} {k rc q : Nat} {args l : List Nat} (h : BR w wr C s k rc args l) (hq : q < C.n) (hsl : s.inbox.length = C.n) : ∃ v, wr.cell? ⟨C.Ib, q, none⟩ = some v ∧ wr.frozen? ⟨C.Ib, q, none⟩ = false ∧ IRow wr v (s.inbox.getD q []) ∧
    ∀ w1 v' xs, IRow w1 v' xs → Upd v.ownBlock.toList wr w1 → (v'.ownBlock = v.ownBlock ∨ ∃ g, v'.ownBlock = some g ∧ wr.heap.size ≤ g) → w1.cell? ⟨C.Ib, q, none⟩ = some v ∧ w1.frozen? ⟨C.Ib, q, none⟩ = false ∧ BR w (w1.setCell ⟨C.Ib, q, none⟩ v') C { s with inbox := s.inbox.set q xs } k rc args l := by
  obtain ⟨argsv, stv, msv, cs, iv, tg, hA, hR, hS, hI, hE, r⟩ := h
  have hl := hI.il
  have hc : iv.toArray[q]? = some (iv.getD q (.bool false)) := by simp [List.getD_eq_getElem?_getD, show q < iv.length by omega]
  refine ⟨iv.getD q (.bool false), cell_blk hI.ib hc, froz_blk hI.ib _, hI.iq q hq, fun w1 v' xs d1 d2 d3 => ?_⟩
  have hib : w1.heap[C.Ib]? = some (.cells iv.toArray 25 (0, 0)) := d2.blk hI.ib (fun hm => by
    obtain ⟨c, hc'⟩ := (hI.iq q hq).ty (by simpa using hm)
    exact blk_ne hI.ib hc' (by decide) rfl)
  exact ⟨cell_blk hib hc, froz_blk hib _, BR.queue hA hR hS hI hE r hq hsl d1 d2 d3⟩
end Go.Proofs.YbulkogyFmt
