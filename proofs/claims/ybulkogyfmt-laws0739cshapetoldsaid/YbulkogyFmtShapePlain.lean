import Derived.Test.YbulkogyFmtDrawKit
namespace Go.Proofs.YbulkogyFmt
open Go.RowKit
set_option linter.unusedSimpArgs false
set_option linter.unusedVariables false

/-! ### the shape of the run, plainly -/
def msf (c : Nat → Nat) (n : Nat) : List Nat := (runOf c n (n * n)).msgs
def sdf (c : Nat → Nat) (n e : Nat) : Nat := ((runOf c n (n * n)).steps.getD e (0, [])).1

theorem run_succ (c : Nat → Nat) (n i : Nat) : runOf c n (i + 1) = stepOf c n (runOf c n i) := rfl
theorem step_msgs (c : Nat → Nat) (n : Nat) (s : BS) : ∃ t, (stepOf c n s).msgs = s.msgs ++ t ∧ ∀ e ∈ t, e = s.steps.length := by
  unfold stepOf
  split
  · exact ⟨[], by simp [recvOf], by simp⟩
  · exact ⟨[s.steps.length], by simp [sendOf], by simp⟩
theorem run_msgs_pre (c : Nat → Nat) (n : Nat) {i j : Nat} (hij : i ≤ j) : ∃ t, (runOf c n j).msgs = (runOf c n i).msgs ++ t := by
  induction j with
  | zero => obtain rfl : i = 0 := by omega
            exact ⟨[], by simp⟩
  | succ j ih =>
    by_cases e : i = j + 1
    · subst e; exact ⟨[], by simp⟩
    · obtain ⟨t, ht⟩ := ih (by omega)
      obtain ⟨t2, ht2, _⟩ := step_msgs c n (runOf c n j)
      refine ⟨t ++ t2, ?_⟩
      rw [run_succ, ht2, ht, List.append_assoc]
theorem run_take (c : Nat → Nat) {n i : Nat} (hi : i ≤ n * n) : (runOf c n i).msgs = (msf c n).take (runOf c n i).msgs.length := by
  obtain ⟨t, ht⟩ := run_msgs_pre c n hi
  unfold msf
  rw [ht, List.take_left]
theorem run_mlen (c : Nat → Nat) {n i : Nat} (hi : i ≤ n * n) : (runOf c n i).msgs.length ≤ (msf c n).length := by
  obtain ⟨t, ht⟩ := run_msgs_pre c n hi
  unfold msf
  rw [ht, List.length_append]
  omega
theorem run_msgs_lt (c : Nat → Nat) {n : Nat} (hn : 0 < n) {i : Nat} (hi : i ≤ n * n) : ∀ e ∈ (runOf c n i).msgs, e < i := by
  induction i with
  | zero => intro e he; simp [runOf, bs0] at he
  | succ i ih =>
    obtain ⟨t, ht, hl⟩ := step_msgs c n (runOf c n i)
    intro e he
    rw [run_succ, ht, List.mem_append] at he
    rcases he with he | he
    · have := ih (by omega) e he; omega
    · have := hl e he
      rw [(run_inv c hn i (by omega)).2] at this
      omega
theorem run_shape (c : Nat → Nat) {n : Nat} (hn : 0 < n) {i : Nat} (hi : i < n * n) : (runOf c n (n * n)).steps[i]? = some (pickOf c n (runOf c n i), if (runOf c n i).sent.getD (pickOf c n (runOf c n i)) false = true then [((runOf c n i).inbox.getD (pickOf c n (runOf c n i)) []).headD 0] else []) := by
  rw [run_steps c hn hi (Nat.le_refl _), run_succ]
  have hl := (run_inv c hn i (by omega)).2
  unfold stepOf
  split
  · rw [recvOf, List.getElem?_append_right (by omega), hl]; simp
  · rw [sendOf, List.getElem?_append_right (by omega), hl]; simp
theorem sdf_pick (c : Nat → Nat) {n : Nat} (hn : 0 < n) {i : Nat} (hi : i < n * n) : sdf c n i = pickOf c n (runOf c n i) := by
  unfold sdf
  rw [List.getD_eq_getElem?_getD, run_shape c hn hi]
  rfl
theorem msf_at (c : Nat → Nat) {n : Nat} (hn : 0 < n) {i : Nat} (hi : i < n * n) (hs : ¬ (runOf c n i).sent.getD (pickOf c n (runOf c n i)) false = true) : (msf c n)[(runOf c n i).msgs.length]? = some i := by
  obtain ⟨t, ht⟩ := run_msgs_pre c n (i := i + 1) (j := n * n) (by omega)
  unfold msf
  rw [ht, run_succ, stepOf, if_neg hs, sendOf]
  simp only
  rw [List.getElem?_append_left (by simp), List.getElem?_append_right (Nat.le_refl _), (run_inv c hn i (by omega)).2]
  simp
theorem run_fin (c : Nat → Nat) {n : Nat} (hn : 0 < n) : (msf c n).length = n := by
  obtain ⟨hinv, hlen⟩ := run_inv c hn (n * n) (Nat.le_refl _)
  unfold msf
  rw [hinv.lm]; exact (hinv.done (run_end hn)).2

structure SInv (c : Nat → Nat) (n i : Nat) (cnt nx : List Nat) : Prop where
  lc : cnt.length = n
  ln : nx.length = n
  sn : ∀ p, p < n → (runOf c n i).sent.getD p false = true → 1 ≤ cnt.getD p 0 ∧ cnt.getD p 0 + ((runOf c n i).inbox.getD p []).length = (runOf c n i).msgs.length
  un : ∀ p, p < n → (runOf c n i).sent.getD p false = false → cnt.getD p 0 = 0 ∧ ((runOf c n i).inbox.getD p []).length = (runOf c n i).msgs.length
  nl : ∀ p, p < n → nx.getD p 0 ≤ (runOf c n i).msgs.length
  ib : ∀ p, p < n → (runOf c n i).inbox.getD p [] = (((msf c n).take (runOf c n i).msgs.length).drop (nx.getD p 0)).filter (fun e => sdf c n e != p)
def Seek (c : Nat → Nat) (n i p j : Nat) : Prop := (runOf c n i).inbox.getD p [] = (((msf c n).take (runOf c n i).msgs.length).drop j).filter (fun e => sdf c n e != p)

theorem SInv.zero (c : Nat → Nat) (n : Nat) : SInv c n 0 (List.replicate n 0) (List.replicate n 0) := by
  refine ⟨by simp, by simp, ?_, ?_, ?_, ?_⟩
  · intro p hp h; simp [runOf, bs0, List.getD_eq_getElem?_getD, hp] at h
  · intro p hp h; simp [runOf, bs0, List.getD_eq_getElem?_getD, hp]
  · intro p hp; simp [runOf, bs0, List.getD_eq_getElem?_getD, hp]
  · intro p hp; simp [runOf, bs0, List.getD_eq_getElem?_getD, hp]
theorem sgD_self {α : Type} {l : List α} {p : Nat} {x d : α} (h : p < l.length) : (l.set p x).getD p d = x := by simp [List.getD_eq_getElem?_getD, h]
theorem sgD_ne {α : Type} {l : List α} {p q : Nat} {x d : α} (h : q ≠ p) : (l.set p x).getD q d = l.getD q d := by simp [List.getD_eq_getElem?_getD, List.getElem?_set_ne (Ne.symm h)]
theorem run_send (c : Nat → Nat) {n i : Nat} (hs : ¬ (runOf c n i).sent.getD (pickOf c n (runOf c n i)) false = true) : runOf c n (i + 1) = sendOf n (pickOf c n (runOf c n i)) (runOf c n i) := by
  rw [run_succ, stepOf, if_neg hs]
theorem run_recv (c : Nat → Nat) {n i : Nat} (hs : (runOf c n i).sent.getD (pickOf c n (runOf c n i)) false = true) : runOf c n (i + 1) = recvOf (pickOf c n (runOf c n i)) (runOf c n i) := by
  rw [run_succ, stepOf, if_pos hs]
theorem send_inbox {n p q : Nat} {s : BS} (hq : q < n) : (sendOf n p s).inbox.getD q [] = if q = p then s.inbox.getD q [] else s.inbox.getD q [] ++ [s.steps.length] := by
  simp [sendOf, List.getD_eq_getElem?_getD, hq]
theorem SInv.send {c : Nat → Nat} {n i p : Nat} {cnt nx : List Nat} (h : SInv c n i cnt nx) (hn : 0 < n) (hi : i < n * n) (hpk : pickOf c n (runOf c n i) = p) (hp : p < n) (hs : ¬ (runOf c n i).sent.getD p false = true) : SInv c n (i + 1) (cnt.set p 1) nx := by
  subst hpk
  have hat := msf_at c hn hi hs
  have hsd := sdf_pick c hn hi
  obtain ⟨hinv, hsl⟩ := run_inv c hn i (by omega)
  have hstep := run_send c hs
  generalize hpe : pickOf c n (runOf c n i) = p at *
  have hml : (runOf c n (i + 1)).msgs.length = (runOf c n i).msgs.length + 1 := by rw [hstep]; simp [sendOf]
  have hsent : ∀ q, (runOf c n (i + 1)).sent.getD q false = ((runOf c n i).sent.set p true).getD q false := by intro q; rw [hstep]; rfl
  have hib : ∀ q, q < n → (runOf c n (i + 1)).inbox.getD q [] = if q = p then (runOf c n i).inbox.getD q [] else (runOf c n i).inbox.getD q [] ++ [i] := by
    intro q hq; rw [hstep, send_inbox hq, hsl]
  have hs' : (runOf c n i).sent.getD p false = false := by simpa using hs
  refine ⟨by simp [h.lc], h.ln, ?_, ?_, ?_, ?_⟩
  · intro q hq hqs
    rw [hsent] at hqs
    rw [hib q hq, hml]
    by_cases e : q = p
    · subst e
      rw [sgD_self (by rw [h.lc]; exact hq), if_pos rfl, (h.un q hq hs').2]
      omega
    · rw [sgD_ne e] at hqs
      rw [sgD_ne e, if_neg e, List.length_append, List.length_singleton]
      have := h.sn q hq hqs
      omega
  · intro q hq hqs
    rw [hsent] at hqs
    rw [hib q hq, hml]
    by_cases e : q = p
    · subst e
      rw [sgD_self (by rw [hinv.ls]; exact hq)] at hqs
      cases hqs
    · rw [sgD_ne e] at hqs
      rw [sgD_ne e, if_neg e, List.length_append, List.length_singleton]
      have := h.un q hq hqs
      omega
  · intro q hq
    rw [hml]
    have := h.nl q hq
    omega
  · intro q hq
    have hlt := (List.getElem?_eq_some_iff.1 hat).1
    have hnl := h.nl q hq
    rw [hib q hq, hml, List.take_add_one, hat, List.drop_append_of_le_length (by rw [List.length_take]; omega), List.filter_append, ← h.ib q hq]
    by_cases e : q = p
    · rw [if_pos e, List.filter_eq_nil_iff.2, List.append_nil]
      intro a ha
      simp only [Option.toList, List.mem_singleton] at ha
      subst ha
      rw [hsd, e]; simp
    · rw [if_neg e]
      congr 1
      show [i] = List.filter _ [i]
      rw [List.filter_cons_of_pos (by rw [hsd]; simpa using Ne.symm e)]
      rfl
theorem msf_get {c : Nat → Nat} {n i j : Nat} (hi : i ≤ n * n) (hj : j < (runOf c n i).msgs.length) : ((msf c n).take (runOf c n i).msgs.length).drop j = (msf c n).getD j 0 :: ((msf c n).take (runOf c n i).msgs.length).drop (j + 1) := by
  have hl := run_mlen c hi
  rw [List.drop_eq_getElem_cons (by rw [List.length_take]; omega)]
  congr 1
  simp [List.getD_eq_getElem?_getD, show j < (msf c n).length by omega]
theorem Seek.lt {c : Nat → Nat} {n i p j : Nat} (h : Seek c n i p j) (hne : (runOf c n i).inbox.getD p [] ≠ []) : j < (runOf c n i).msgs.length := by
  rcases Nat.lt_or_ge j (runOf c n i).msgs.length with hlt | hge
  · exact hlt
  · refine absurd ?_ hne
    rw [h, List.drop_eq_nil_of_le (by rw [List.length_take]; omega)]
    rfl
theorem Seek.next {c : Nat → Nat} {n i p j : Nat} (h : Seek c n i p j) (hi : i ≤ n * n) (hj : j < (runOf c n i).msgs.length) (he : sdf c n ((msf c n).getD j 0) = p) : Seek c n i p (j + 1) := by
  unfold Seek at h ⊢
  rw [h, msf_get hi hj, List.filter_cons_of_neg (by rw [he]; simp)]
theorem Seek.found {c : Nat → Nat} {n i p j : Nat} (h : Seek c n i p j) (hi : i ≤ n * n) (hj : j < (runOf c n i).msgs.length) (he : sdf c n ((msf c n).getD j 0) ≠ p) : (runOf c n i).inbox.getD p [] = (msf c n).getD j 0 :: (((msf c n).take (runOf c n i).msgs.length).drop (j + 1)).filter (fun e => sdf c n e != p) := by
  unfold Seek at h
  rw [h, msf_get hi hj, List.filter_cons_of_pos (by simpa using he)]
theorem SInv.recv {c : Nat → Nat} {n i p j : Nat} {cnt nx : List Nat} (h : SInv c n i cnt nx) (hn : 0 < n) (hi : i < n * n) (hpk : pickOf c n (runOf c n i) = p) (hp : p < n) (hs : (runOf c n i).sent.getD p false = true) (hk : Seek c n i p j) (hj : j < (runOf c n i).msgs.length) (he : sdf c n ((msf c n).getD j 0) ≠ p) : SInv c n (i + 1) (cnt.set p (cnt.getD p 0 + 1)) (nx.set p (j + 1)) := by
  have hf := hk.found (by omega) hj he
  obtain ⟨hinv, hsl⟩ := run_inv c hn i (by omega)
  subst hpk
  have hstep := run_recv c hs
  generalize hpe : pickOf c n (runOf c n i) = p at *
  have hm : (runOf c n (i + 1)).msgs = (runOf c n i).msgs := by rw [hstep]; rfl
  have hse : (runOf c n (i + 1)).sent = (runOf c n i).sent := by rw [hstep]; rfl
  have hib : (runOf c n (i + 1)).inbox = (runOf c n i).inbox.set p ((runOf c n i).inbox.getD p []).tail := by rw [hstep]; rfl
  have hpl : p < (runOf c n i).inbox.length := by rw [hinv.li]; exact hp
  refine ⟨by simp [h.lc], by simp [h.ln], ?_, ?_, ?_, ?_⟩
  · intro q hq hqs
    rw [hse] at hqs
    rw [hm, hib]
    by_cases e : q = p
    · subst e
      rw [sgD_self (by rw [h.lc]; exact hq), sgD_self hpl]
      have := h.sn q hq hqs
      rw [hf] at this ⊢
      rw [List.length_cons] at this
      rw [List.tail_cons]
      omega
    · rw [sgD_ne e, sgD_ne e]
      exact h.sn q hq hqs
  · intro q hq hqs
    rw [hse] at hqs
    rw [hm, hib]
    by_cases e : q = p
    · subst e
      rw [hs] at hqs; cases hqs
    · rw [sgD_ne e, sgD_ne e]
      exact h.un q hq hqs
  · intro q hq
    rw [hm]
    by_cases e : q = p
    · subst e
      rw [sgD_self (by rw [h.ln]; exact hq)]
      omega
    · rw [sgD_ne e]
      exact h.nl q hq
  · intro q hq
    rw [hm, hib]
    by_cases e : q = p
    · subst e
      rw [sgD_self hpl, sgD_self (by rw [h.ln]; exact hq), hf, List.tail_cons]
    · rw [sgD_ne e, sgD_ne e]
      exact h.ib q hq
theorem SInv.last {c : Nat → Nat} {n p : Nat} {cnt nx : List Nat} (h : SInv c n (n * n) cnt nx) (hn : 0 < n) (hp : p < n) : cnt.getD p 0 = n := by
  obtain ⟨h1, h2⟩ := en_nil (run_end (c := c) hn) p hp
  have := (h.sn p hp h1).2
  rw [h2] at this
  have hl := run_fin c hn
  unfold msf at hl
  rw [hl] at this
  simpa using this
theorem SInv.le {c : Nat → Nat} {n i p : Nat} {cnt nx : List Nat} (h : SInv c n i cnt nx) (hp : p < n) : cnt.getD p 0 ≤ (runOf c n i).msgs.length := by
  cases hs : (runOf c n i).sent.getD p false with
  | true => have := (h.sn p hp hs).2; omega
  | false => have := (h.un p hp hs).1; omega
theorem rcN_sum (c : Nat → Nat) {n : Nat} (hn : 0 < n) {i : Nat} (hi : i ≤ n * n) : rcN (runOf c n i) + (runOf c n i).msgs.length = i := by
  induction i with
  | zero => rfl
  | succ i ih =>
    have h := ih (by omega)
    rw [run_succ, stepOf]
    split
    · rw [rcN_recv]
      show rcN (runOf c n i) + 1 + (runOf c n i).msgs.length = i + 1
      omega
    · rw [rcN_send]
      show rcN (runOf c n i) + ((runOf c n i).msgs ++ [_]).length = i + 1
      rw [List.length_append, List.length_singleton]
      omega
theorem rcN_end (c : Nat → Nat) {n : Nat} (hn : 0 < n) : rcN (runOf c n (n * n)) = n * (n - 1) := by
  have h := rcN_sum c hn (Nat.le_refl (n * n))
  have hl := run_fin c hn
  unfold msf at hl
  rw [hl] at h
  rw [Nat.mul_sub]
  omega
/-- The memory of the law's own loop. -/
structure DS (w1 wr : World) (Cb Nb : Nat) (cnt nx : List Nat) : Prop where
  cb : wr.heap[Cb]? = some (.cells (ints .i64 cnt).toArray 3 (0, 0))
  nb : wr.heap[Nb]? = some (.cells (ints .i64 nx).toArray 3 (0, 0))
  bl : Below w1.heap.size w1 wr
  nC : w1.heap.size ≤ Cb
  nN : w1.heap.size ≤ Nb
  CN : Cb ≠ Nb
theorem DS.cnt {w1 wr : World} {Cb Nb p : Nat} {cnt nx : List Nat} (h : DS w1 wr Cb Nb cnt nx) (hp : p < cnt.length) : wr.cell? ⟨Cb, p, none⟩ = some (.int .i64 ((cnt.getD p 0 : Nat) : Int)) := cell_blk h.cb (by rw [List.getElem?_toArray]; exact ints_get hp)
theorem DS.nx {w1 wr : World} {Cb Nb p : Nat} {cnt nx : List Nat} (h : DS w1 wr Cb Nb cnt nx) (hp : p < nx.length) : wr.cell? ⟨Nb, p, none⟩ = some (.int .i64 ((nx.getD p 0 : Nat) : Int)) := cell_blk h.nb (by rw [List.getElem?_toArray]; exact ints_get hp)
theorem DS.putC {w1 wr : World} {Cb Nb p v : Nat} {cnt nx : List Nat} (h : DS w1 wr Cb Nb cnt nx) : DS w1 (wr.setCell ⟨Cb, p, none⟩ (.int .i64 (v : Int))) Cb Nb (cnt.set p v) nx :=
  ⟨by rw [set_blk h.cb]; simp [ints, List.map_set], by rw [set_blk_ne (Ne.symm h.CN)]; exact h.nb, h.bl.setCell (p := ⟨Cb, p, none⟩) h.nC _, h.nC, h.nN, h.CN⟩
theorem DS.putN {w1 wr : World} {Cb Nb p v : Nat} {cnt nx : List Nat} (h : DS w1 wr Cb Nb cnt nx) : DS w1 (wr.setCell ⟨Nb, p, none⟩ (.int .i64 (v : Int))) Cb Nb cnt (nx.set p v) :=
  ⟨by rw [set_blk_ne h.CN]; exact h.cb, by rw [set_blk h.nb]; simp [ints, List.map_set], h.bl.setCell (p := ⟨Nb, p, none⟩) h.nN _, h.nC, h.nN, h.CN⟩
theorem DS.go {w1 wr w2 : World} {Cb Nb : Nat} {cnt nx : List Nat} (h : DS w1 wr Cb Nb cnt nx) (hb : Below wr.heap.size wr w2) : DS w1 w2 Cb Nb cnt nx :=
  ⟨(hb.block _ (lt_of_block h.cb)).trans h.cb, (hb.block _ (lt_of_block h.nb)).trans h.nb, h.bl.trans (hb.mono h.bl.size), h.nC, h.nN, h.CN⟩
theorem DS.drewN {w1 wr : World} {Cb Nb : Nat} {cnt nx : List Nat} (h : DS w1 wr Cb Nb cnt nx) (k : Nat) : DS w1 (wr.drewN k) Cb Nb cnt nx :=
  ⟨h.cb, h.nb, ⟨h.bl.os, h.bl.tape, h.bl.output, h.bl.size, h.bl.block⟩, h.nC, h.nN, h.CN⟩
theorem DS.start {w1 : World} {n : Nat} {z : Array Value} (hz : z.toList = List.replicate n (.int .i64 0)) :
    DS w1 ((w1.alloc (.cells z 3)).alloc (.cells z 3)) w1.heap.size (w1.heap.size + 1) (List.replicate n 0) (List.replicate n 0) := by
  have s1 : (w1.alloc (.cells z 3)).heap.size = w1.heap.size + 1 := by simp
  have ea : z = (ints .i64 (List.replicate n 0)).toArray := by rw [← Array.toList_inj]; simp [hz, ints]
  refine ⟨?_, ?_, ((Below.refl _ w1).alloc (Nat.le_refl _) _).alloc (by simp) _, by omega, by omega, by omega⟩
  · rw [Below.heap_alloc _ _ _ (by rw [s1]; omega), ← ea]
    exact heap_alloc_new w1 (.cells z 3)
  · rw [← ea]
    have := heap_alloc_new (w1.alloc (.cells z 3)) (.cells z 3)
    rw [s1] at this; exact this
end Go.Proofs.YbulkogyFmt
