import Derived.Test.YbulkogyFmtEn
namespace Go.Proofs.YbulkogyFmt
open Go.RowKit
set_option linter.unusedSimpArgs false
set_option linter.unusedVariables false

/-! ### whose a block is -/
structure Tg where
  k : Nat
  q : Nat
def Tg.arg : Tg := ⟨0, 0⟩
def Tg.rb : Tg := ⟨1, 0⟩
def Tg.ar : Tg := ⟨2, 0⟩
def Tg.rn : Tg := ⟨3, 0⟩
def Tg.x : Tg := ⟨4, 0⟩
def Tg.hosts : Tg := ⟨5, 0⟩
def Tg.st : Tg := ⟨6, 0⟩
def Tg.ms : Tg := ⟨7, 0⟩
def Tg.se : Tg := ⟨8, 0⟩
def Tg.ib : Tg := ⟨9, 0⟩
def Tg.bx : Tg := ⟨10, 0⟩
def Tg.en : Tg := ⟨11, 0⟩
def Tg.mg : Tg := ⟨12, 0⟩
def Tg.inq (q : Nat) : Tg := ⟨13, q⟩
structure Cx where
  Rb : Nat
  len : Nat
  cap : Nat
  Rn : Nat
  X : Nat
  H : Nat
  Sb : Nat
  Ib : Nat
  Bx : Nat
  E : Nat
  n : Nat
  B : Nat
  a2 : Option Addr
def newTg (tg : Nat → Tg) (N : Nat) (t : Tg) : Nat → Tg := fun k => if k < N then tg k else t
theorem newTg_old {tg : Nat → Tg} {N k : Nat} {t : Tg} (h : k < N) : newTg tg N t k = tg k := by simp [newTg, h]
theorem newTg_new {tg : Nat → Tg} {N k : Nat} {t : Tg} (h : N ≤ k) : newTg tg N t k = t := by simp [newTg]; omega
/-- Only blocks of the owners in K have turned (blocks of steps are known by their type). -/
structure TU (B : Nat) (K : Tg → Bool) (tg : Nat → Tg) (w w' : World) : Prop where
  bl : Below B w w'
  blk : ∀ k c e, w.heap[k]? = some (.cells c e (0, 0)) → K (if e = 38 then .st else tg k) = false → w'.heap[k]? = w.heap[k]?
def Touch (w : World) (B : Nat) (K : Tg → Bool) (tg : Nat → Tg) (x : Nat) : Prop := B ≤ x ∧ ∀ c e, w.heap[x]? = some (.cells c e (0, 0)) → K (if e = 38 then .st else tg x) = true
theorem TU.of {B : Nat} {K : Tg → Bool} {tg : Nat → Tg} {w w' : World} {ks : List Nat} (hu : Upd ks w w') (hB : B ≤ w.heap.size) (hk : ∀ x ∈ ks, Touch w B K tg x) : TU B K tg w w' :=
  ⟨hu.below hB fun k h => (hk k h).1, fun k c e hc hK => hu.block k (lt_of_block hc) fun hm => by have := (hk k hm).2 c e hc; rw [hK] at this; cases this⟩
theorem touch_blk {w : World} {B : Nat} {K : Tg → Bool} {tg : Nat → Tg} {x : Nat} {c : Array Value} {e : TypeId} {t : Tg} (hB : B ≤ x) (hx : w.heap[x]? = some (.cells c e (0, 0))) (he : e ≠ 38) (ht : tg x = t) (hK : K t = true) : Touch w B K tg x :=
  ⟨hB, fun c' e' h => by rw [hx] at h; simp at h; obtain ⟨_, rfl⟩ := h; rw [if_neg he, ht]; exact hK⟩
theorem touch_st {w : World} {B : Nat} {K : Tg → Bool} {tg : Nat → Tg} {x : Nat} {v : Value} {s n : Nat} {xs : List Value} (h : w.ownsRow B 38 s v n xs) (hx : x ∈ v.ownBlock.toList) (hK : K .st = true) : Touch w B K tg x := by
  have hg : v.ownBlock = some x := by simpa using hx
  obtain ⟨c, hc⟩ := own_blk h hg
  refine ⟨(h.lt x hg).1, fun c' e' h' => by rw [hc] at h'; simp at h'; obtain ⟨_, rfl⟩ := h'; simpa using hK⟩
theorem touch_own {w : World} {B : Nat} {K : Tg → Bool} {tg : Nat → Tg} {x : Nat} {v : Value} {s n : Nat} {xs : List Value} {t : Tg} (h : w.ownsRow B 3 s v n xs) (hx : x ∈ v.ownBlock.toList) (ht : ∀ g, v.ownBlock = some g → tg g = t) (hK : K t = true) : Touch w B K tg x := by
  have hg : v.ownBlock = some x := by simpa using hx
  obtain ⟨c, hc⟩ := own_blk h hg
  exact touch_blk (h.lt x hg).1 hc (by decide) (ht x hg) hK
theorem TU.keep {B : Nat} {K : Tg → Bool} {tg : Nat → Tg} {w w' : World} (h : TU B K tg w w') {k : Nat} {c : Array Value} {e : TypeId} {t : Tg} (hb : w.heap[k]? = some (.cells c e (0, 0))) (he : e ≠ 38) (ht : tg k = t) (hK : K t = false) : w'.heap[k]? = some (.cells c e (0, 0)) :=
  (h.blk k c e hb (by rw [if_neg he, ht]; exact hK)).trans hb
theorem TU.own3 {B b : Nat} {K : Tg → Bool} {tg : Nat → Tg} {w w' : World} (h : TU B K tg w w') {v : Value} {s n : Nat} {xs : List Value} {t : Tg} (ho : w.ownsRow b 3 s v n xs) (ht : ∀ g, v.ownBlock = some g → tg g = t) (hK : K t = false) : w'.ownsRow b 3 s v n xs :=
  own_move ho fun g c hg hc => h.blk g c 3 hc (by rw [if_neg (by decide), ht g hg]; exact hK)
theorem TU.own38 {B b : Nat} {K : Tg → Bool} {tg : Nat → Tg} {w w' : World} (h : TU B K tg w w') {v : Value} {s n : Nat} {xs : List Value} (ho : w.ownsRow b 38 s v n xs) (hK : K .st = false) : w'.ownsRow b 38 s v n xs :=
  own_move ho fun g c hg hc => h.blk g c 38 hc (by simpa using hK)
theorem TU.irow {B : Nat} {K : Tg → Bool} {tg : Nat → Tg} {w w' : World} (h : TU B K tg w w') {v : Value} {xs : List Nat} {t : Tg} (ho : IRow w v xs) (ht : ∀ g, v.ownBlock = some g → tg g = t) (hK : K t = false) : IRow w' v xs := by
  rcases ho with h' | ⟨g, off, cap, cur, rfl, h1, h2⟩
  · exact .inl h'
  · exact .inr ⟨g, off, cap, cur, rfl, h.keep h1 (by decide) (ht g rfl) hK, h2⟩
theorem TU.size {B : Nat} {K : Tg → Bool} {tg : Nat → Tg} {w w' : World} (h : TU B K tg w w') : w.heap.size ≤ w'.heap.size := h.bl.size

/-! ### the parts of the memory at the broadcast's loop -/
structure PA (wr : World) (C : Cx) (tg : Nat → Tg) (argsv : Value) (k : Nat) (args : List Nat) : Prop where
  rb : wr.heap[C.Rb]? = some (.cells (rdCells C.a2 C.len C.cap k argsv) 27 (0, 0))
  ar : wr.ownsRow C.B 3 1 argsv k (ints .i64 args)
  trb : tg C.Rb = .rb
  tar : ∀ g, argsv.ownBlock = some g → tg g = .ar
theorem PA.move {wr w1 : World} {C : Cx} {tg tg' : Nat → Tg} {argsv : Value} {k : Nat} {args : List Nat} {K : Tg → Bool} (h : PA wr C tg argsv k args) (hu : TU C.B K tg wr w1) (h1 : K .rb = false) (h2 : K .ar = false) (ht : ∀ k, k < wr.heap.size → tg' k = tg k) : PA w1 C tg' argsv k args :=
  ⟨hu.keep h.rb (by decide) h.trb h1, hu.own3 h.ar h.tar h2, by rw [ht _ (lt_of_block h.rb)]; exact h.trb, fun g hg => by rw [ht g (h.ar.lt g hg).2]; exact h.tar g hg⟩
def StepC (wr : World) (tg : Nat → Tg) (cs : List Value) (j p : Nat) (m : List Nat) : Prop := cs[j * 3]? = some (.int .i64 (j : Int)) ∧ cs[j * 3 + 1]? = some (.int .i64 (p : Int)) ∧ ((m = [] ∧ cs[j * 3 + 2]? = some (.slice none 0 0)) ∨
  ∃ (x b : Nat), m = [x] ∧ cs[j * 3 + 2]? = some (.slice (some ⟨b, 0, none⟩) 1 1) ∧ wr.heap[b]? = some (.cells #[.int .i64 (x : Int)] 3 (0, 0)) ∧ tg b = .mg)
structure PR (wr : World) (C : Cx) (tg : Nat → Tg) (stv msv : Value) (cs : List Value) (rc : Nat) (steps : List (Nat × List Nat)) (msgs : List Nat) : Prop where
  rn : wr.heap[C.Rn]? = some (.cells (runC C.X (.slice none 0 0) rc) 32 (0, 0))
  x : wr.heap[C.X]? = some (.cells (exC C.H C.n stv msv) 36 (0, 0))
  hh : Strs wr C.H C.n
  st : wr.ownsRow C.B 38 3 stv steps.length cs
  ms : wr.ownsRow C.B 3 1 msv msgs.length (ints .i64 msgs)
  sc : ∀ j p m, steps[j]? = some (p, m) → StepC wr tg cs j p m
  trn : tg C.Rn = .rn
  tx : tg C.X = .x
  th : tg C.H = .hosts
  tms : ∀ g, msv.ownBlock = some g → tg g = .ms
theorem Strs.tu {B : Nat} {K : Tg → Bool} {tg : Nat → Tg} {w w' : World} {H n : Nat} (h : Strs w H n) (hu : TU B K tg w w') (ht : tg H = .hosts) (hK : K .hosts = false) : Strs w' H n := by
  obtain ⟨l, h1, h2, h3⟩ := h
  exact ⟨l, h1, h2, hu.keep h3 (by decide) ht hK⟩
theorem Strs.lt {w : World} {H n : Nat} (h : Strs w H n) : H < w.heap.size := by obtain ⟨l, h1, h2, h3⟩ := h; exact lt_of_block h3
theorem StepC.move {wr w1 : World} {tg tg' : Nat → Tg} {cs cs2 : List Value} {j p : Nat} {m : List Nat} {B : Nat} {K : Tg → Bool} (h : StepC wr tg cs j p m) (hu : TU B K tg wr w1) (h1 : K .mg = false) (ht : ∀ k, k < wr.heap.size → tg' k = tg k) : StepC w1 tg' (cs ++ cs2) j p m := by
  obtain ⟨a, b, c⟩ := h
  have app : ∀ i v, cs[i]? = some v → (cs ++ cs2)[i]? = some v := fun i v hv => by rw [List.getElem?_append_left (List.getElem?_eq_some_iff.1 hv).1]; exact hv
  refine ⟨app _ _ a, app _ _ b, ?_⟩
  rcases c with ⟨c1, c2⟩ | ⟨x, g, c1, c2, c3, c4⟩
  · exact .inl ⟨c1, app _ _ c2⟩
  · exact .inr ⟨x, g, c1, app _ _ c2, hu.keep c3 (by decide) c4 h1, by rw [ht g (lt_of_block c3)]; exact c4⟩
theorem PR.move {wr w1 : World} {C : Cx} {tg tg' : Nat → Tg} {stv msv : Value} {cs : List Value} {rc : Nat} {steps : List (Nat × List Nat)} {msgs : List Nat} {K : Tg → Bool} (h : PR wr C tg stv msv cs rc steps msgs) (hu : TU C.B K tg wr w1) (h1 : K .rn = false) (h2 : K .x = false) (h3 : K .hosts = false) (h4 : K .st = false) (h5 : K .ms = false) (h6 : K .mg = false) (ht : ∀ k, k < wr.heap.size → tg' k = tg k) : PR w1 C tg' stv msv cs rc steps msgs :=
  ⟨hu.keep h.rn (by decide) h.trn h1, hu.keep h.x (by decide) h.tx h2, h.hh.tu hu h.th h3, hu.own38 h.st h4, hu.own3 h.ms h.tms h5, fun j p m hj => by have := (h.sc j p m hj).move (cs2 := []) hu h6 ht; rwa [List.append_nil] at this,
    by rw [ht _ (lt_of_block h.rn)]; exact h.trn, by rw [ht _ (lt_of_block h.x)]; exact h.tx, by rw [ht _ h.hh.lt]; exact h.th, fun g hg => by rw [ht g (h.ms.lt g hg).2]; exact h.tms g hg⟩
structure PS (wr : World) (C : Cx) (tg : Nat → Tg) (sent : List Bool) : Prop where
  se : wr.heap[C.Sb]? = some (.cells (sent.map Value.bool).toArray 4 (0, 0))
  tse : tg C.Sb = .se
theorem PS.move {wr w1 : World} {C : Cx} {tg tg' : Nat → Tg} {sent : List Bool} {K : Tg → Bool} (h : PS wr C tg sent) (hu : TU C.B K tg wr w1) (h1 : K .se = false) (ht : ∀ k, k < wr.heap.size → tg' k = tg k) : PS w1 C tg' sent :=
  ⟨hu.keep h.se (by decide) h.tse h1, by rw [ht _ (lt_of_block h.se)]; exact h.tse⟩
structure PI (wr : World) (C : Cx) (tg : Nat → Tg) (iv : List Value) (inbox : List (List Nat)) : Prop where
  ib : wr.heap[C.Ib]? = some (.cells iv.toArray 25 (0, 0))
  il : iv.length = C.n
  iq : ∀ q, q < C.n → IRow wr (iv.getD q (.bool false)) (inbox.getD q [])
  tib : tg C.Ib = .ib
  tiq : ∀ q g, q < C.n → (iv.getD q (.bool false)).ownBlock = some g → tg g = .inq q ∧ C.B ≤ g
theorem PI.move {wr w1 : World} {C : Cx} {tg tg' : Nat → Tg} {iv : List Value} {inbox : List (List Nat)} {K : Tg → Bool} (h : PI wr C tg iv inbox) (hu : TU C.B K tg wr w1) (h1 : K .ib = false) (h2 : ∀ q, K (.inq q) = false) (ht : ∀ k, k < wr.heap.size → tg' k = tg k) : PI w1 C tg' iv inbox :=
  ⟨hu.keep h.ib (by decide) h.tib h1, h.il, fun q hq => hu.irow (h.iq q hq) (fun g hg => (h.tiq q g hq hg).1) (h2 q), by rw [ht _ (lt_of_block h.ib)]; exact h.tib, fun q g hq hg => by rw [ht g ((h.iq q hq).lt hg)]; exact h.tiq q g hq hg⟩
structure PE (wr : World) (C : Cx) (tg : Nat → Tg) (l : List Nat) : Prop where
  ea : EA wr C.Bx C.E C.n l
  tbx : tg C.Bx = .bx
  ten : tg C.E = .en
theorem PE.move {wr w1 : World} {C : Cx} {tg tg' : Nat → Tg} {l : List Nat} {K : Tg → Bool} (h : PE wr C tg l) (hu : TU C.B K tg wr w1) (h1 : K .bx = false) (h2 : K .en = false) (ht : ∀ k, k < wr.heap.size → tg' k = tg k) : PE w1 C tg' l := by
  obtain ⟨rest, hE, _⟩ := h.ea.blk
  exact ⟨⟨hu.keep h.ea.bx (by decide) h.tbx h1, hu.own3 h.ea.own (by intro g hg; cases hg; exact h.ten) h2⟩, by rw [ht _ (lt_of_block h.ea.bx)]; exact h.tbx, by rw [ht _ (lt_of_block hE)]; exact h.ten⟩
/-- The whole: k draws, rc receives, the state s, the draws' bounds and the actors. -/
def BR (w wr : World) (C : Cx) (s : BS) (k rc : Nat) (args l : List Nat) : Prop := ∃ (argsv stv msv : Value) (cs iv : List Value) (tg : Nat → Tg), PA wr C tg argsv k args ∧ PR wr C tg stv msv cs rc s.steps s.msgs ∧ PS wr C tg s.sent ∧ PI wr C tg iv s.inbox ∧ PE wr C tg l ∧
  Below C.B w wr ∧ C.B ≤ wr.heap.size ∧ C.B ≤ C.Rb ∧ C.B ≤ C.Rn ∧ C.B ≤ C.X ∧ C.B ≤ C.Sb ∧ C.B ≤ C.Ib ∧ C.B ≤ C.Bx ∧ C.B ≤ C.E
def none' : Tg → Bool := fun _ => false
theorem BR.calm {w wr w1 : World} {C : Cx} {s : BS} {k rc : Nat} {args l : List Nat} (h : BR w wr C s k rc args l) (hu : Upd [] wr w1) : BR w w1 C s k rc args l := by
  obtain ⟨argsv, stv, msv, cs, iv, tg, hA, hR, hS, hI, hE, hb, hB, r⟩ := h
  have tu : TU C.B none' tg wr w1 := TU.of hu hB (by simp)
  exact ⟨argsv, stv, msv, cs, iv, tg, hA.move tu rfl rfl (fun _ _ => rfl), hR.move tu rfl rfl rfl rfl rfl rfl (fun _ _ => rfl), hS.move tu rfl (fun _ _ => rfl), hI.move tu rfl (fun _ => rfl) (fun _ _ => rfl), hE.move tu rfl rfl (fun _ _ => rfl), hb.trans tu.bl, Nat.le_trans hB tu.size, r⟩
/-- after a draw -/
theorem BR.draw {w wr w1 : World} {C : Cx} {s : BS} {k rc N : Nat} {args l : List Nat} {argsv argsv' stv msv : Value} {cs iv : List Value} {tg : Nat → Tg} (hA : PA wr C tg argsv k args) (hR : PR wr C tg stv msv cs rc s.steps s.msgs) (hS : PS wr C tg s.sent) (hI : PI wr C tg iv s.inbox) (hE : PE wr C tg l)
    (r : Below C.B w wr ∧ C.B ≤ wr.heap.size ∧ C.B ≤ C.Rb ∧ C.B ≤ C.Rn ∧ C.B ≤ C.X ∧ C.B ≤ C.Sb ∧ C.B ≤ C.Ib ∧ C.B ≤ C.Bx ∧ C.B ≤ C.E)
    (d1 : w1.heap[C.Rb]? = some (.cells (rdCells C.a2 C.len C.cap (k + 1) argsv') 27 (0, 0))) (d2 : w1.ownsRow C.B 3 1 argsv' (k + 1) (ints .i64 (args ++ [N]))) (d3 : Upd (C.Rb :: argsv.ownBlock.toList) wr w1) (d4 : argsv'.ownBlock = argsv.ownBlock ∨ ∃ g, argsv'.ownBlock = some g ∧ wr.heap.size ≤ g) :
    BR w w1 C s (k + 1) rc (args ++ [N]) l := by
  obtain ⟨hb, hB, r1, r⟩ := r
  have tu : TU C.B (fun t => t.k == 1 || t.k == 2) tg wr w1 := TU.of d3 hB (by
    intro x hx
    simp only [List.mem_cons] at hx
    rcases hx with rfl | hx
    · exact touch_blk r1 hA.rb (by decide) hA.trb rfl
    · exact touch_own hA.ar hx hA.tar rfl)
  have ht : ∀ k, k < wr.heap.size → newTg tg wr.heap.size .ar k = tg k := fun k hk => newTg_old hk
  refine ⟨argsv', stv, msv, cs, iv, newTg tg wr.heap.size .ar, ⟨d1, d2, ?_, ?_⟩, hR.move tu rfl rfl rfl rfl rfl rfl ht, hS.move tu rfl ht, hI.move tu rfl (fun _ => rfl) ht, hE.move tu rfl rfl ht, hb.trans tu.bl, Nat.le_trans hB tu.size, r1, r⟩
  · rw [ht _ (lt_of_block hA.rb)]; exact hA.trb
  · intro g hg
    rcases d4 with e | ⟨g', e, hl⟩
    · rw [e] at hg; rw [ht g (hA.ar.lt g hg).2]; exact hA.tar g hg
    · rw [e] at hg; cases hg; exact newTg_new hl
/-- one process marked as having sent -/
theorem BR.mark {w wr : World} {C : Cx} {s : BS} {k rc p : Nat} {args l : List Nat} (h : BR w wr C s k rc args l) : BR w (wr.setCell ⟨C.Sb, p, none⟩ (.bool true)) C { s with sent := s.sent.set p true } k rc args l := by
  obtain ⟨argsv, stv, msv, cs, iv, tg, hA, hR, hS, hI, hE, hb, hB, r1, r2, r3, r4, r⟩ := h
  have hu : Upd [C.Sb] wr (wr.setCell ⟨C.Sb, p, none⟩ (.bool true)) := (Upd.refl _ wr).setCell (p := ⟨C.Sb, p, none⟩) (by simp) _
  have tu : TU C.B (fun t => t.k == 8) tg wr (wr.setCell ⟨C.Sb, p, none⟩ (.bool true)) := TU.of hu hB (by
    intro x hx
    simp only [List.mem_singleton] at hx
    subst hx
    exact touch_blk r4 hS.se (by decide) hS.tse rfl)
  exact ⟨argsv, stv, msv, cs, iv, tg, hA.move tu rfl rfl (fun _ _ => rfl), hR.move tu rfl rfl rfl rfl rfl rfl (fun _ _ => rfl), ⟨by rw [set_blk hS.se]; simp [List.map_set], hS.tse⟩, hI.move tu rfl (fun _ => rfl) (fun _ _ => rfl), hE.move tu rfl rfl (fun _ _ => rfl), hb.trans tu.bl, Nat.le_trans hB tu.size, r1, r2, r3, r4, r⟩
/-- the actors turned -/
theorem BR.act {w wr w1 : World} {C : Cx} {s : BS} {k rc : Nat} {args l l' : List Nat} (h : BR w wr C s k rc args l) (he : EA w1 C.Bx C.E C.n l') (hu : Upd [C.Bx, C.E] wr w1) : BR w w1 C s k rc args l' := by
  obtain ⟨argsv, stv, msv, cs, iv, tg, hA, hR, hS, hI, hE, hb, hB, r1, r2, r3, r4, r5, r6, r7⟩ := h
  have tu : TU C.B (fun t => t.k == 10 || t.k == 11) tg wr w1 := TU.of hu hB (by
    obtain ⟨rest, hEb, _⟩ := hE.ea.blk
    intro x hx
    simp only [List.mem_cons, List.mem_nil_iff, or_false] at hx
    rcases hx with rfl | rfl
    · exact touch_blk r6 hE.ea.bx (by decide) hE.tbx rfl
    · exact touch_blk r7 hEb (by decide) hE.ten rfl)
  exact ⟨argsv, stv, msv, cs, iv, tg, hA.move tu rfl rfl (fun _ _ => rfl), hR.move tu rfl rfl rfl rfl rfl rfl (fun _ _ => rfl), hS.move tu rfl (fun _ _ => rfl), hI.move tu rfl (fun _ => rfl) (fun _ _ => rfl), ⟨he, hE.tbx, hE.ten⟩, hb.trans tu.bl, Nat.le_trans hB tu.size, r1, r2, r3, r4, r5, r6, r7⟩
theorem getD_set_self {α : Type} {l : List α} {q : Nat} {v d : α} (h : q < l.length) : (l.set q v).getD q d = v := by simp [List.getD_eq_getElem?_getD, h]
theorem getD_set_ne {α : Type} {l : List α} {q r : Nat} {v d : α} (h : q ≠ r) : (l.set q v).getD r d = l.getD r d := by simp [List.getD_eq_getElem?_getD, List.getElem?_set_ne h]
/-- a queue turned: first its row, then its header -/
theorem BR.queue {w wr w1 : World} {C : Cx} {s : BS} {k rc q : Nat} {args l xs : List Nat} {argsv stv msv v' : Value} {cs iv : List Value} {tg : Nat → Tg} (hA : PA wr C tg argsv k args) (hR : PR wr C tg stv msv cs rc s.steps s.msgs) (hS : PS wr C tg s.sent) (hI : PI wr C tg iv s.inbox) (hE : PE wr C tg l)
    (r : Below C.B w wr ∧ C.B ≤ wr.heap.size ∧ C.B ≤ C.Rb ∧ C.B ≤ C.Rn ∧ C.B ≤ C.X ∧ C.B ≤ C.Sb ∧ C.B ≤ C.Ib ∧ C.B ≤ C.Bx ∧ C.B ≤ C.E) (hq : q < C.n) (hsl : s.inbox.length = C.n)
    (d1 : IRow w1 v' xs) (d2 : Upd (iv.getD q (.bool false)).ownBlock.toList wr w1) (d3 : v'.ownBlock = (iv.getD q (.bool false)).ownBlock ∨ ∃ g, v'.ownBlock = some g ∧ wr.heap.size ≤ g) :
    BR w (w1.setCell ⟨C.Ib, q, none⟩ v') C { s with inbox := s.inbox.set q xs } k rc args l := by
  obtain ⟨hb, hB, r1, r2, r3, r4, r5, r6, r7⟩ := r
  have tu1 : TU C.B (fun t => t.k == 13 && decide (t.q = q)) tg wr w1 := TU.of d2 hB (by
    intro x hx
    have hg : (iv.getD q (.bool false)).ownBlock = some x := by simpa using hx
    obtain ⟨c, hc⟩ := (hI.iq q hq).ty hg
    exact touch_blk (hI.tiq q x hq hg).2 hc (by decide) (hI.tiq q x hq hg).1 (by simp [Tg.inq]))
  have hib1 := tu1.keep hI.ib (by decide) hI.tib rfl
  have ht : ∀ k, k < wr.heap.size → newTg tg wr.heap.size (.inq q) k = tg k := fun k hk => newTg_old hk
  have hA1 := hA.move tu1 rfl rfl ht
  have hR1 := hR.move tu1 rfl rfl rfl rfl rfl rfl ht
  have hS1 := hS.move tu1 rfl ht
  have hE1 := hE.move tu1 rfl rfl ht
  have hu2 : Upd [C.Ib] w1 (w1.setCell ⟨C.Ib, q, none⟩ v') := (Upd.refl _ w1).setCell (p := ⟨C.Ib, q, none⟩) (by simp) _
  have tib : newTg tg wr.heap.size (.inq q) C.Ib = .ib := by rw [ht _ (lt_of_block hI.ib)]; exact hI.tib
  have tu2 : TU C.B (fun t => t.k == 9) (newTg tg wr.heap.size (.inq q)) w1 (w1.setCell ⟨C.Ib, q, none⟩ v') := TU.of hu2 (Nat.le_trans hB tu1.size) (by
    intro x hx
    simp only [List.mem_singleton] at hx
    subst hx
    exact touch_blk r5 hib1 (by decide) tib rfl)
  have hv't : ∀ g, v'.ownBlock = some g → newTg tg wr.heap.size (.inq q) g = .inq q ∧ C.B ≤ g := by
    intro g hg
    rcases d3 with e | ⟨g', e, hl⟩
    · rw [e] at hg; rw [ht g ((hI.iq q hq).lt hg)]; exact hI.tiq q g hq hg
    · rw [e] at hg; cases hg; exact ⟨newTg_new hl, by omega⟩
  refine ⟨argsv, stv, msv, cs, iv.set q v', newTg tg wr.heap.size (.inq q), hA1.move tu2 rfl rfl (fun _ _ => rfl), hR1.move tu2 rfl rfl rfl rfl rfl rfl (fun _ _ => rfl), hS1.move tu2 rfl (fun _ _ => rfl), ⟨?_, ?_, ?_, tib, ?_⟩, hE1.move tu2 rfl rfl (fun _ _ => rfl), (hb.trans tu1.bl).trans tu2.bl, Nat.le_trans (Nat.le_trans hB tu1.size) tu2.size, r1, r2, r3, r4, r5, r6, r7⟩
  · rw [set_blk hib1]; simp
  · simp [hI.il]
  · intro x hx
    by_cases e : q = x
    · subst e
      show IRow _ _ ((s.inbox.set q xs).getD q [])
      rw [getD_set_self (by rw [hI.il]; exact hq), getD_set_self (by rw [hsl]; exact hq)]
      exact tu2.irow d1 (fun g hg => (hv't g hg).1) rfl
    · show IRow _ _ ((s.inbox.set q xs).getD x [])
      rw [getD_set_ne e, getD_set_ne e]
      have h1 := tu1.irow (t := .inq x) (hI.iq x hx) (fun g hg => (hI.tiq x g hx hg).1) (by show ((13 : Nat) == 13 && decide (x = q)) = false; rw [decide_eq_false (fun h => e h.symm)]; rfl)
      exact tu2.irow (t := .inq x) h1 (fun g hg => by rw [ht g ((hI.iq x hx).lt hg)]; exact (hI.tiq x g hx hg).1) rfl
  · intro x g hx hg
    by_cases e : q = x
    · subst e
      rw [getD_set_self (by rw [hI.il]; exact hq)] at hg
      exact hv't g hg
    · rw [getD_set_ne e] at hg
      rw [ht g ((hI.iq x hx).lt hg)]
      exact hI.tiq x g hx hg
end Go.Proofs.YbulkogyFmt
