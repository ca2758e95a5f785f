import Derived.Test.YbulkoboFmtPacket
namespace Go.Proofs.YbulkoboFmt
open Go.RowKit
set_option linter.unusedSimpArgs false
set_option linter.unusedVariables false

/-- What an Interface Description Block of LE bytes is; a block that is skipped. -/
def idb (lt : Int) : List Int := leB4 1 ++ leB4 20 ++ leB2 lt ++ leB2 0 ++ leB4 0 ++ leB4 20
def skb : List Int := leB4 5 ++ leB4 16 ++ leB4 0 ++ leB4 16
theorem idb_eq (lt : Int) : idb lt = [1, 0, 0, 0, 20, 0, 0, 0, lt % 256, lt / 256, 0, 0, 0, 0, 0, 0, 20, 0, 0, 0] := rfl
theorem skb_eq : skb = [5, 0, 0, 0, 16, 0, 0, 0, 0, 0, 0, 0, 16, 0, 0, 0] := rfl

theorem Ybaf.info52 : (Ybaf.prog.info? 52).map (fun i => (i.zero, i.size, i.bytes)) = some (some (.agg #[.int .u16 0, .int .u32 0]), 2, 8) := by kernel_rfl

theorem byte_lit {x : Int} (h : 0 ≤ x) (h' : x < 256) : byte x := ⟨h, h'⟩
theorem drop_more {S tl : List Int} {i k : Nat} {X : List Int} (h : S.drop i = X ++ tl) (hk : k ≤ X.length) : S.drop (i + k) = X.drop k ++ tl := by
  rw [← List.drop_drop, h, List.drop_append_of_le_length hk]
theorem St.len {w : World} {Pb R g n cap i : Nat} {T : TypeId} {cnt : Int} {ifv bufv : Value} {S : List Int} {B : Nat} (h : St w Pb R g n cap i T cnt ifv bufv S B) : S.length = n := by have := h.hown.1; simpa [bs_length] using this
theorem drop_len {S X tl : List Int} {i n : Nat} (hS : S.length = n) (h : S.drop i = X ++ tl) (hX : 0 < X.length) : i + X.length ≤ n := by
  have := congrArg List.length h
  simp at this
  omega

theorem block_idb (w : World) (Pb R g n cap i : Nat) (cnt : Int) (ifv bufv : Value) (S tl : List Int) (B : Nat) (hst : St w Pb R g n cap i 26 cnt ifv bufv S B) (lt : Int) (hS : S.drop i = idb lt ++ tl) :
    Calls Ybaf.prog 11 #[.pointer (some ⟨Pb, 0, none⟩)] w fun e w' => ∃ G cp rest, e = .returned (.tuple #[.int .u32 1, .slice (some ⟨G, 0, none⟩) 8 cp, .nilIface]) ∧
      St w' Pb R g n cap (i + 20) 26 cnt ifv (.slice (some ⟨G, 0, none⟩) 12 cp) S B ∧ w'.heap[G]? = some (.cells (bs [lt % 256, lt / 256, 0, 0, 0, 0, 0, 0, 20, 0, 0, 0] ++ rest).toArray 5 (0, 0)) ∧ 12 ≤ cp ∧ cp ≤ maxLen ∧ (bufv.ownBlock = some G ∨ w.heap.size ≤ G) ∧ Upd (Pb :: R :: bufv.ownBlock.toList) w w' := by
  have hl := drop_len hst.len hS (by rw [idb_eq]; simp)
  have hlen : (idb lt).length = 20 := rfl
  have h8 : (S.drop i).take 8 = [1, 0, 0, 0, 20, 0, 0, 0] := by rw [hS, idb_eq]; rfl
  have h12 : (S.drop (i + 8)).take (8 + 4) = [lt % 256, lt / 256, 0, 0, 0, 0, 0, 0, 20, 0, 0, 0] := by rw [drop_more hS (by omega), idb_eq]; rfl
  have h4 : (S.drop (i + 8 + 8)).take 4 = [20, 0, 0, 0] := by rw [Nat.add_assoc, drop_more hS (by omega), idb_eq]; rfl
  refine (block_le w Pb R g n cap i cnt ifv bufv S B hst 1 0 0 0 20 0 0 0 h8 (by omega) ⟨by omega, by omega⟩ ⟨by omega, by omega⟩ ⟨by omega, by omega⟩ ⟨by omega, by omega⟩ ⟨by omega, by omega⟩ ⟨by omega, by omega⟩ ⟨by omega, by omega⟩ ⟨by omega, by omega⟩ (by decide) 8 (by decide) (by decide) (by omega) 20 0 0 0 h4 ⟨by omega, by omega⟩ ⟨by omega, by omega⟩ ⟨by omega, by omega⟩ ⟨by omega, by omega⟩ (by decide)).mono ?_
  rintro e w' ⟨G, cp, rest, he, h1, h2, h3, h4, h5, h6⟩
  rw [h12] at h2
  exact ⟨G, cp, rest, he, h1, h2, h3, h4, h5, h6⟩

theorem block_skb (w : World) (Pb R g n cap i : Nat) (cnt : Int) (ifv bufv : Value) (S tl : List Int) (B : Nat) (hst : St w Pb R g n cap i 26 cnt ifv bufv S B) (hS : S.drop i = skb ++ tl) :
    Calls Ybaf.prog 11 #[.pointer (some ⟨Pb, 0, none⟩)] w fun e w' => ∃ G cp, e = .returned (.tuple #[.int .u32 5, .slice (some ⟨G, 0, none⟩) 4 cp, .nilIface]) ∧
      St w' Pb R g n cap (i + 16) 26 cnt ifv (.slice (some ⟨G, 0, none⟩) 8 cp) S B ∧ (bufv.ownBlock = some G ∨ w.heap.size ≤ G) ∧ Upd (Pb :: R :: bufv.ownBlock.toList) w w' := by
  have hl := drop_len hst.len hS (by rw [skb_eq]; simp)
  have hlen : skb.length = 16 := rfl
  have h8 : (S.drop i).take 8 = [5, 0, 0, 0, 16, 0, 0, 0] := by rw [hS, skb_eq]; rfl
  have h4 : (S.drop (i + 8 + 4)).take 4 = [16, 0, 0, 0] := by rw [Nat.add_assoc, drop_more hS (by omega), skb_eq]; rfl
  refine (block_le w Pb R g n cap i cnt ifv bufv S B hst 5 0 0 0 16 0 0 0 h8 (by omega) ⟨by omega, by omega⟩ ⟨by omega, by omega⟩ ⟨by omega, by omega⟩ ⟨by omega, by omega⟩ ⟨by omega, by omega⟩ ⟨by omega, by omega⟩ ⟨by omega, by omega⟩ ⟨by omega, by omega⟩ (by decide) 4 (by decide) (by decide) (by omega) 16 0 0 0 h4 ⟨by omega, by omega⟩ ⟨by omega, by omega⟩ ⟨by omega, by omega⟩ ⟨by omega, by omega⟩ (by decide)).mono ?_
  rintro e w' ⟨G, cp, rest, he, h1, h2, h3, h4, h5, h6⟩
  exact ⟨G, cp, he, h1, h5, h6⟩

/-- append as one step of a region that draws its order. -/
theorem step_append_own {P : Program} {ops : Array Oper} {o : Oper} {a : Act} {w : World} {K : Act → World → Prop} {Q : Exit → Act → World → Prop} {E : Prop} (hgd : o.guard = none) (s x : Operand) (t : TypeId)
    (ho : o.op = .call { callee := .builtin .append, args := #[s, x], argTypes := #[t, t] })
    (base : Nat) (e : TypeId) (i : TypeInfo) (z : Value) (size bytes : Nat) (ht : P.underlying t = some (.slice e)) (hi : P.info? e = some i) (hz : i.zero = some z)
    (hsize : i.size = size) (hby : i.bytes = bytes) (hzs : z.cells.size = size) (hsz : 0 < size)
    (v : Value) (n : Nat) (xs : List Value) (hs : a.eval s = v) (hown : w.ownsRow base e size v n xs)
    (ad : Addr) (m c : Nat) (news : List Value) (hx : a.eval x = .slice (some ad) m c) (hl : news.length = m * size) (hnews : ∀ j u, news[j]? = some u → w.cell? (ad.add j) = some u) (h1 : ∀ u ∈ news, u.oneCell' = true)
    (h63 : n + m ≤ maxLen) (hbytes : (n + m) * bytes ≤ 140737488355328) (hbase : base ≤ w.heap.size)
    (h : ∀ v' w', w'.ownsRow base e size v' (n + m) (xs ++ news) → w.grownBy w' v.ownBlock → (v' = .slice none 0 0 ↔ v = .slice none 0 0 ∧ m = 0) → K (a.put o.dst v') w') :
    if Region.wanted o (yielded ops a.tmps) = true then Oper.wp P o a w K Q else E := by
  have hw : Region.wanted o (yielded ops a.tmps) = true := by simp [Region.wanted, hgd]
  rw [if_pos hw]
  exact wp_append_own w s x t ho base e i z size bytes ht hi hz hsize hby hzs hsz v n xs hs hown ad m c news hx hl hnews h1 h63 hbytes hbase h
end Go.Proofs.YbulkoboFmt
