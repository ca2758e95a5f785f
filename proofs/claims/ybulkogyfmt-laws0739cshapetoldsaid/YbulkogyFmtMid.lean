import Derived.Test.YbulkogyFmtStart
namespace Go.Proofs.YbulkogyFmt
set_option linter.unusedSimpArgs false
set_option linter.unusedVariables false

/-! ### a send, inbox by inbox -/
def rcN (s : BS) : Nat := (s.steps.filter fun x => !x.2.isEmpty).length
def argsOf (c : Nat → Nat) (n i : Nat) : List Nat := (List.range i).map fun j => (enOf n (runOf c n j)).length
theorem argsOf_succ (c : Nat → Nat) (n i : Nat) : argsOf c n (i + 1) = argsOf c n i ++ [(enOf n (runOf c n i)).length] := by simp [argsOf, List.range_succ]
theorem argsOf_len (c : Nat → Nat) (n i : Nat) : (argsOf c n i).length = i := by simp [argsOf]
theorem rcN_send (n p : Nat) (s : BS) : rcN (sendOf n p s) = rcN s := by simp [rcN, sendOf]
theorem rcN_recv (p : Nat) (s : BS) : rcN (recvOf p s) = rcN s + 1 := by simp [rcN, recvOf]
def midS (n p : Nat) (s : BS) (q : Nat) : BS :=
  { sent := s.sent.set p true, steps := s.steps ++ [(p, [])], msgs := s.msgs ++ [s.steps.length], inbox := (List.range n).map fun x => if x < q ∧ x ≠ p then s.inbox.getD x [] ++ [s.steps.length] else s.inbox.getD x [] }
theorem midS_zero {n p : Nat} {s : BS} (h : s.inbox.length = n) : midS n p s 0 = { s with sent := s.sent.set p true, steps := s.steps ++ [(p, [])], msgs := s.msgs ++ [s.steps.length] } := by
  simp only [midS, Nat.not_lt_zero, false_and, if_false]
  congr 1
  rw [← h]
  exact (list_eq_map s.inbox []).symm
theorem midS_end (n p : Nat) (s : BS) : midS n p s n = sendOf n p s := by
  simp only [midS, sendOf]
  congr 1
  apply List.map_congr_left
  intro x hx
  simp at hx
  by_cases e : x = p
  · simp [e]
  · simp [e, hx]
theorem midS_self (n p : Nat) (s : BS) : midS n p s (p + 1) = midS n p s p := by
  simp only [midS]
  congr 1
  apply List.map_congr_left
  intro x hx
  by_cases e : x = p
  · simp [e]
  · have : x < p + 1 ↔ x < p := by omega
    simp [e, this]
theorem midS_get {n p q : Nat} {s : BS} (h : q < n) : (midS n p s q).inbox.getD q [] = s.inbox.getD q [] := by
  simp [midS, List.getD_eq_getElem?_getD, h]
theorem midS_len (n p q : Nat) (s : BS) : (midS n p s q).inbox.length = n := by simp [midS]
theorem midS_next {n p q : Nat} {s : BS} (h : q < n) (hp : q ≠ p) : midS n p s (q + 1) = { midS n p s q with inbox := (midS n p s q).inbox.set q (s.inbox.getD q [] ++ [s.steps.length]) } := by
  simp only [midS]
  congr 1
  apply List.ext_getElem
  · simp
  · intro i h1 h2
    simp at h1
    rw [List.getElem_set]
    by_cases e : q = i
    · subst e
      simp [hp]
    · have : i < q + 1 ↔ i < q := by omega
      simp [e, this]
def enMid (n p : Nat) (s : BS) (q : Nat) : List Nat := fil n fun x => x == p || if x < q then can (sendOf n p s) x else can s x
theorem enMid_zero {n p : Nat} {s : BS} (h : can s p = true) : enMid n p s 0 = enOf n s := by
  rw [en_fil]
  refine fil_congr fun x hx => ?_
  by_cases e : x = p
  · subst e; simp [h]
  · simp [e]
theorem enMid_self (n p : Nat) (s : BS) : enMid n p s (p + 1) = enMid n p s p := by
  refine fil_congr fun x hx => ?_
  by_cases e : x = p
  · subst e; simp
  · have : x < p + 1 ↔ x < p := by omega
    simp [this]
theorem send_get {n p q : Nat} {s : BS} (hq : q < n) : (sendOf n p s).inbox.getD q [] = if q = p then s.inbox.getD q [] else s.inbox.getD q [] ++ [s.steps.length] := by
  simp [sendOf, List.getD_eq_getElem?_getD, hq]
theorem can_send {n p q : Nat} {s : BS} (hq : q < n) (hp : q ≠ p) : can (sendOf n p s) q = true := by
  simp only [can]
  rw [send_get hq, if_neg hp]
  simp
theorem enMid_keep {n p q : Nat} {s : BS} (hq : q < n) (h : can s q = true) : enMid n p s (q + 1) = enMid n p s q := by
  refine fil_congr fun x hx => ?_
  by_cases e : x = p
  · subst e; simp
  · by_cases e2 : x = q
    · subst e2; simp [e, h, can_send hq e]
    · have : x < q + 1 ↔ x < q := by omega
      simp [this]
theorem enMid_add {n p q r : Nat} {s : BS} (hq : q < n) (hp : q ≠ p) (h : can s q = false) (hr : AtIdx (enMid n p s q) q r) : (enMid n p s q).take r ++ q :: (enMid n p s q).drop r = enMid n p s (q + 1) := by
  refine fil_add hq ?_ ?_ ?_ hr
  · simp [h, hp]
  · simp [can_send hq hp]
  · intro x hx
    have : x < q + 1 ↔ x < q := by omega
    simp [this]
theorem enMid_lt {n p q : Nat} {s : BS} (hq : q < n) (hp : q ≠ p) (h : can s q = false) : (enMid n p s q).length < n := fil_len_lt hq (by simp [h, hp])
theorem enMid_sorted (n p q : Nat) (s : BS) : ∀ a b, a ≤ b → b < (enMid n p s q).length → (enMid n p s q).getD a 0 ≤ (enMid n p s q).getD b 0 := fil_sorted _ _
theorem en_sorted (n : Nat) (s : BS) : ∀ a b, a ≤ b → b < (enOf n s).length → (enOf n s).getD a 0 ≤ (enOf n s).getD b 0 := fil_sorted _ _
theorem can_send_self {n p : Nat} {s : BS} (hp : p < n) (hl : s.sent.length = n) : can (sendOf n p s) p = !(s.inbox.getD p []).isEmpty := by
  simp only [can]
  rw [send_get hp, if_pos rfl]
  simp [sendOf, List.getD_eq_getElem?_getD, hl, hp]
theorem enMid_end_keep {n p : Nat} {s : BS} (hp : p < n) (hl : s.sent.length = n) (h : s.inbox.getD p [] ≠ []) : enMid n p s n = enOf n (sendOf n p s) := by
  rw [en_fil]
  refine fil_congr fun x hx => ?_
  by_cases e : x = p
  · subst e
    rw [can_send_self hp hl]
    cases hi : s.inbox.getD x [] with
    | nil => exact absurd hi h
    | cons a l => simp
  · simp [e, hx]
theorem enMid_end_mem {n p : Nat} {s : BS} (hp : p < n) : p ∈ enMid n p s n := by simp [enMid, fil, hp]
theorem enMid_end_rem {n p r : Nat} {s : BS} (hp : p < n) (hl : s.sent.length = n) (h : s.inbox.getD p [] = []) (hr : AtIdx (enMid n p s n) p r) : (enMid n p s n).take r ++ (enMid n p s n).drop (r + 1) = enOf n (sendOf n p s) := by
  rw [en_fil]
  have e : fil n (can (sendOf n p s)) = fil n (fun x => if x = p then false else if x < n then can (sendOf n p s) x else can s x) := by
    refine fil_congr fun x hx => ?_
    by_cases e : x = p
    · subst e; rw [can_send_self hp hl, h]; simp
    · simp [e, hx]
  rw [e]
  refine fil_rem hp (by simp) (by simp) ?_ hr
  intro x hx
  simp [hx]
theorem can_recv {p x : Nat} {s : BS} (h : x ≠ p) : can (recvOf p s) x = can s x := by
  simp only [can, recvOf]
  rw [getD_set_ne (Ne.symm h)]
theorem can_recv_self {n p : Nat} {s : BS} (hp : p < n) (hl : s.inbox.length = n) (hs : s.sent.getD p false = true) : can (recvOf p s) p = !(s.inbox.getD p []).tail.isEmpty := by
  simp only [can, recvOf]
  rw [getD_set_self (by rw [hl]; exact hp), hs]
  simp
theorem enRecv_keep {n p : Nat} {s : BS} (hp : p < n) (hl : s.inbox.length = n) (hs : s.sent.getD p false = true) (hc : can s p = true) (h : (s.inbox.getD p []).tail ≠ []) : enOf n s = enOf n (recvOf p s) := by
  rw [en_fil, en_fil]
  refine fil_congr fun x hx => ?_
  by_cases e : x = p
  · subst e
    rw [can_recv_self hp hl hs, hc]
    cases hi : (s.inbox.getD x []).tail with
    | nil => exact absurd hi h
    | cons a l => simp
  · exact (can_recv e).symm
theorem enRecv_rem {n p r : Nat} {s : BS} (hp : p < n) (hl : s.inbox.length = n) (hs : s.sent.getD p false = true) (hc : can s p = true) (h : (s.inbox.getD p []).tail = []) (hr : AtIdx (enOf n s) p r) : (enOf n s).take r ++ (enOf n s).drop (r + 1) = enOf n (recvOf p s) := by
  rw [en_fil] at hr ⊢
  exact fil_rem hp hc (by rw [can_recv_self hp hl hs, h]; rfl) (fun x hx => (can_recv hx).symm) hr
/-- the draws counted so far, read off the memory -/
def kOf (w : World) (Rb : Nat) : Nat := match w.cell? ⟨Rb, 1, none⟩ with | some (.int _ k) => k.toNat | _ => 0
theorem BR.k {w wr : World} {C : Cx} {s : BS} {k rc : Nat} {args l : List Nat} (h : BR w wr C s k rc args l) : kOf wr C.Rb = k := by
  obtain ⟨argsv, stv, msv, cs, iv, tg, hA, _⟩ := h
  have : wr.cell? ⟨C.Rb, 1, none⟩ = some (.int .i64 (k : Int)) := cell_blk hA.rb rfl
  simp [kOf, this]
theorem BR.box {w wr : World} {C : Cx} {s : BS} {k rc : Nat} {args l : List Nat} (h : BR w wr C s k rc args l) : wr.cell? ⟨C.Bx, 0, none⟩ = some (.slice (some ⟨C.E, 0, none⟩) l.length C.n) := by
  obtain ⟨argsv, stv, msv, cs, iv, tg, hA, hR, hS, hI, hE, r⟩ := h
  exact hE.ea.bx.cell
theorem BR.sent {w wr : World} {C : Cx} {s : BS} {k rc p : Nat} {args l : List Nat} (h : BR w wr C s k rc args l) (hp : p < s.sent.length) : wr.cell? ⟨C.Sb, p, none⟩ = some (.bool (s.sent.getD p false)) ∧ wr.frozen? ⟨C.Sb, p, none⟩ = false := by
  obtain ⟨argsv, stv, msv, cs, iv, tg, hA, hR, hS, hI, hE, r⟩ := h
  exact ⟨cell_blk hS.se (by simp [List.getD_eq_getElem?_getD, hp]), froz_blk hS.se _⟩
theorem BR.eaOf {w wr : World} {C : Cx} {s : BS} {k rc : Nat} {args l : List Nat} (h : BR w wr C s k rc args l) : EA wr C.Bx C.E C.n l := by
  obtain ⟨argsv, stv, msv, cs, iv, tg, hA, hR, hS, hI, hE, r⟩ := h
  exact hE.ea
theorem BR.inb {w wr : World} {C : Cx} {s : BS} {k rc q : Nat} {args l : List Nat} (h : BR w wr C s k rc args l) (hq : q < C.n) : ∃ v, wr.cell? ⟨C.Ib, q, none⟩ = some v ∧ wr.frozen? ⟨C.Ib, q, none⟩ = false ∧ IRow wr v (s.inbox.getD q []) := by
  obtain ⟨argsv, stv, msv, cs, iv, tg, hA, hR, hS, hI, hE, r⟩ := h
  refine ⟨iv.getD q (.bool false), cell_blk hI.ib ?_, froz_blk hI.ib _, hI.iq q hq⟩
  have hl := hI.il
  simp [List.getD_eq_getElem?_getD, show q < iv.length by omega]
end Go.Proofs.YbulkogyFmt
