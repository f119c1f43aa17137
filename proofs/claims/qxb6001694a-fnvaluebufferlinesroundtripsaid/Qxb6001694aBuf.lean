import Derived.Test.Qxb6001694aRows
import Derived.Test.Qxb6001694aLaws
import Derived.Test.Qxb6001694aOnly
import Derived.Laws.CopyOwn
import Derived.Maps.AppendAt
import Derived.Deep.QuietTactic
import Derived.BigQuiet
namespace Go.Proofs.Qxb6001694a
open Go.RowKit

theorem Try.info5b : (Try.prog.info? 5).map (fun i => (i.zero, i.size, i.bytes)) = some (some (.int .u8 0), 1, 1) := by kernel_rfl
theorem Try.info22b : (Try.prog.info? 22).map (fun i => (i.zero, i.size, i.bytes)) = some (some (.slice none 0 0), 1, 24) := by kernel_rfl
theorem Try.size5b : (Try.prog.info? 5).map (·.size) = some 1 := by kernel_rfl

/-! ### laws -/

/-- 'copy(dst, src)', dst a row of the call's own that is as long as src. -/
theorem wpList_copy_all {P : Program} {w : World} {ops : Array Oper} {rest : List Oper} {o : Oper} {a : Act} {Q : Exit → Act → World → Prop} (hgd : o.guard = none) (d s : Operand) (dT sT : TypeId)
    (ho : o.op = .call { callee := .builtin .copy, args := #[d, s], argTypes := #[dT, sT] }) (elem : TypeId) (hu : P.underlying dT = some (.slice elem)) (hsz : (P.info? elem).map (·.size) = some 1)
    (base g n c : Nat) (xs : List Value) (sp : Option Addr) (sCap : Nat) (hd : a.eval d = .slice (some ⟨g, 0, none⟩) n c) (hs : a.eval s = .slice sp n sCap)
    (hown : w.ownsRow base elem 1 (.slice (some ⟨g, 0, none⟩) n c) n xs) (cs : List Value) (hn : cs.length = n)
    (hsrc : 0 < n → ∃ ad, sp = some ad ∧ ∀ j v, cs[j]? = some v → w.cell? (ad.add j) = some v) (h1 : ∀ v ∈ cs, v.oneCell' = true)
    (h : ∀ w' v, w'.ownsRow base elem 1 (.slice (some ⟨g, 0, none⟩) n c) n cs → w.grownBy w' (some g) → wpList P ops Q rest (a.put o.dst v) w') : wpList P ops Q (o :: rest) a w := by
  by_cases h0 : n = 0
  · subst h0
    obtain rfl : cs = [] := List.eq_nil_of_length_eq_zero hn
    obtain rfl : xs = [] := List.eq_nil_of_length_eq_zero (by simpa using hown.1)
    refine wpList_copy_nothing hgd d s dT sT ho elem hu hsz _ _ 0 c 0 sCap hd hs (by simp) ?_
    exact h _ _ hown (World.grownBy.refl _ _)
  · obtain ⟨ad, rfl, hcells⟩ := hsrc (by omega)
    rcases hown.2 with ⟨h', _⟩ | ⟨g', cap', cur, h', hb, hg, hnc, hcm, hcs, htake⟩
    · simp at h'
    · simp only [Value.slice.injEq, Option.some.injEq, Addr.mk.injEq, and_true, true_and] at h'
      obtain ⟨rfl, rfl⟩ := h'
      have hcur : cur.size = c := by simpa using hcs
      refine wpList_copy_own hgd d s dT sT ho elem hu hsz g 0 n c ad n sCap hd hs cur elem hg cs (by rw [hn]; simp) hcells (by omega) h1 ?_
      refine h _ _ ⟨by simpa using hn, .inr ⟨g, c, _, rfl, hb, setRow_heap w g cur _ elem _ hg, hnc, hcm, ?_, ?_⟩⟩ ⟨rfl, rfl, rfl, by simp, fun k _ hk => setRow_other w g k _ (fun e => hk (by simp [e]))⟩
      · simp only [List.size_toArray, List.length_append, List.length_take, List.length_drop, Array.length_toList]
        omega
      · simp [← hn]

/-- 'append' WITHIN THE CAPACITY (or of nothing), as one step of a region that draws its order. -/
theorem step_append_fits_any {P : Program} {ops : Array Oper} {o : Oper} {a : Act} {w : World} {K : Act → World → Prop} {Q : Exit → Act → World → Prop} {E : Prop}
    (hg : o.guard = none) (s x : Operand) (t : TypeId) (hop : o.op = Op.call { callee := Callee.builtin Builtin.append, args := #[s, x], argTypes := #[t, t] })
    (base : Nat) (e : TypeId) (i : TypeInfo) (size : Nat) (h1 : P.underlying t = some (.slice e)) (h2 : P.info? e = some i) (h4 : i.size = size)
    (g k cap : Nat) (xs : List Value) (hs : a.eval s = .slice (some ⟨g, 0, none⟩) k cap) (hown : w.ownsRow base e size (.slice (some ⟨g, 0, none⟩) k cap) k xs) (ao : Option Addr) (m c : Nat) (news : List Value) (hx : a.eval x = .slice ao m c) (hn : news.length = m * size)
    (hnone : ao = none → m = 0 ∧ c = 0) (hc : ∀ ad, ao = some ad → ∀ j u, news[j]? = some u → w.cell? (ad.add j) = some u) (h1c : ∀ u ∈ news, u.oneCell' = true) (b1 : k + m ≤ cap)
    (hK : ∀ w', w'.ownsRow base e size (.slice (some ⟨g, 0, none⟩) (k + m) cap) (k + m) (xs ++ news) → w.grownBy w' (some g) → K (a.put o.dst (.slice (some ⟨g, 0, none⟩) (k + m) cap)) w') :
    if Region.wanted o (yielded ops a.tmps) = true then Oper.wp P o a w K Q else E := by
  have hw : Region.wanted o (yielded ops a.tmps) = true := by simp [Region.wanted, hg]
  rw [if_pos hw]
  cases ao with
  | some ad =>
    obtain ⟨w', hrun, r1, r2⟩ := run_append_fits (P := P) w base t o.type e i size h1 h2 h4 g k cap xs hown ad m c news hn (hc ad rfl) h1c b1
    unfold Oper.wp
    simp [execOp, hop, resolve, invoke, builtin, hs, hx, hrun, Result.andThen]
    exact hK w' r1 r2
  | none =>
    obtain ⟨rfl, rfl⟩ := hnone rfl
    have hnews : news = [] := List.eq_nil_of_length_eq_zero (by simpa using hn)
    subst hnews
    have hrun := run_append_owned_none (P := P) w base t o.type e i size h1 h2 _ k xs hown
    unfold Oper.wp
    simp [execOp, hop, resolve, invoke, builtin, hs, hx, hrun, Result.andThen]
    have h := hK w (by simpa using hown) (World.grownBy.refl _ _)
    simp only [Nat.add_zero] at h
    exact h

/-- 'append' THAT MAY GROW, as one step of a region that draws its order. -/
theorem step_append_own {P : Program} {ops : Array Oper} {o : Oper} {a : Act} {w : World} {K : Act → World → Prop} {Q : Exit → Act → World → Prop} {E : Prop} (hgd : o.guard = none) (s x : Operand) (t : TypeId)
    (ho : o.op = .call { callee := .builtin .append, args := #[s, x], argTypes := #[t, t] })
    (base : Nat) (e : TypeId) (i : TypeInfo) (z : Value) (size bytes : Nat) (ht : P.underlying t = some (.slice e)) (hi : P.info? e = some i) (hz : i.zero = some z)
    (hsize : i.size = size) (hby : i.bytes = bytes) (hzs : z.cells.size = size) (hsz : 0 < size)
    (v : Value) (n : Nat) (xs : List Value) (hs : a.eval s = v) (hown : w.ownsRow base e size v n xs)
    (ad : Addr) (m c : Nat) (news : List Value) (hx : a.eval x = .slice (some ad) m c) (hl : news.length = m * size) (hnews : ∀ j u, news[j]? = some u → w.cell? (ad.add j) = some u) (h1 : ∀ u ∈ news, u.oneCell' = true)
    (h63 : n + m ≤ maxLen) (hbytes : (n + m) * bytes ≤ 140737488355328) (hbase : base ≤ w.heap.size) (hm : 0 < m)
    (h : ∀ g' cap' w', w'.ownsRow base e size (.slice (some ⟨g', 0, none⟩) (n + m) cap') (n + m) (xs ++ news) → w.grownBy w' v.ownBlock → (v.ownBlock = some g' ∨ w.heap.size ≤ g') → K (a.put o.dst (.slice (some ⟨g', 0, none⟩) (n + m) cap')) w') :
    if Region.wanted o (yielded ops a.tmps) = true then Oper.wp P o a w K Q else E := by
  have hw : Region.wanted o (yielded ops a.tmps) = true := by simp [Region.wanted, hgd]
  rw [if_pos hw]
  obtain ⟨v', w', hr, h2, h3, h4, h5⟩ := run_append_own_at (P := P) w base t o.type e i z size bytes ht hi hz hsize hby hzs hsz v n xs hown ad m c news hl hnews h1 h63 hbytes hbase
  obtain ⟨g', cap', hv⟩ : ∃ g' cap', v' = .slice (some ⟨g', 0, none⟩) (n + m) cap' := by
    rcases h2.2 with ⟨_, h0⟩ | ⟨g, cap, cur, hv, _⟩
    · omega
    · exact ⟨g, cap, hv⟩
  subst hv
  have h6 : v.ownBlock = some g' ∨ w.heap.size ≤ g' := by
    rcases h5 with h5 | h5
    · exact .inl h5.symm
    · simp only [Value.ownBlock, Option.some.injEq] at h5; exact .inr (by omega)
  unfold Oper.wp execOp
  simp only [ho, resolve, invoke, builtin, Sem.run_bind, Sem.run_pure, Result.andThen_ok, List.map_toArray, List.map_cons, List.map_nil, hs, hx, hr]
  exact h g' cap' w' h2 h3 h6

/-! ### the block list in memory -/

/-- Bytes as cells. -/
def vals (l : List UInt8) : List Value := l.map fun c => .int .u8 c.toNat
theorem vals_length (l : List UInt8) : (vals l).length = l.length := by simp [vals]
theorem vals_append (a b : List UInt8) : vals (a ++ b) = vals a ++ vals b := by simp [vals]
theorem vals_one (l : List UInt8) : ∀ v ∈ vals l, v.oneCell' = true := by
  intro v hv
  obtain ⟨_, _, rfl⟩ := List.mem_map.1 hv
  rfl
theorem vals_at {l : List UInt8} {i : Nat} (h : i < l.length) : (vals l)[i]? = some (.int .u8 ((l.getD i 0).toNat : Int)) := by
  unfold vals
  rw [List.getElem?_map, List.getElem?_eq_getElem h, List.getD_eq_getElem?_getD, List.getElem?_eq_getElem h]
  rfl

/-- A filled block. -/
def fullV (g : Nat) : Value := .slice (some ⟨g, 0, none⟩) 65536 65536

/-- The blocks of a buffer. -/
def fpt (B : Nat) (fo lo : Option Addr) (gs : List Nat) (k : Nat) : Prop := k = B ∨ (∃ a, fo = some a ∧ a.block = k) ∨ (∃ a, lo = some a ∧ a.block = k) ∨ k ∈ gs

/-- A value buffer lies at block B: its bytes are bs. -/
structure BufX (w : World) (B : Nat) (lines : Bool) (ls : Int) (trim : Bool) (fo : Option Addr) (capf : Nat) (gs : List Nat) (lo : Option Addr) (n cap : Nat) (bs : List UInt8) : Prop where
  c0 : w.cell? ⟨B, 0, none⟩ = some (.slice fo gs.length capf)
  c1 : w.cell? ⟨B, 1, none⟩ = some (.slice lo n cap)
  c2 : w.cell? ⟨B, 2, none⟩ = some (.bool lines)
  c3 : w.cell? ⟨B, 3, none⟩ = some (.int .i64 ls)
  c4 : w.cell? ⟨B, 4, none⟩ = some (.bool trim)
  soft : ∀ o, w.frozen? ⟨B, o, none⟩ = false
  full : w.ownsRow (B + 1) 22 1 (.slice fo gs.length capf) gs.length (gs.map fullV)
  last : w.ownsRow (B + 1) 5 1 (.slice lo n cap) n (vals (bs.drop (gs.length * 65536)))
  chunk : ∀ i, i < gs.length → w.ownsRow (B + 1) 5 1 (fullV (gs.getD i 0)) 65536 (vals ((bs.drop (i * 65536)).take 65536))
  len : bs.length = gs.length * 65536 + n
  room : n ≤ cap
  capb : cap ≤ 65536
  apart : ∀ g, g ∈ gs → ∀ a, lo = some a → a.block ≠ g

/-- What is kept of a buffer while other blocks turn. -/
theorem BufX.only {w w' : World} {B : Nat} {lines : Bool} {ls : Int} {trim : Bool} {fo : Option Addr} {capf : Nat} {gs : List Nat} {lo : Option Addr} {n cap : Nat} {bs : List UInt8} {T : Nat → Prop}
    (X : BufX w B lines ls trim fo capf gs lo n cap bs) (h : Only T w w') (hT : ∀ k, fpt B fo lo gs k → ¬ T k) : BufX w' B lines ls trim fo capf gs lo n cap bs := by
  have hB : ¬ T B := hT B (.inl rfl)
  have hlt := World.block_lt_of_cell? w _ X.c0
  have hblk := h.block B hlt hB
  refine ⟨h.cell X.c0 hB, h.cell X.c1 hB, h.cell X.c2 hB, h.cell X.c3 hB, h.cell X.c4 hB, fun o => (World.frozen?_of_block (a := ⟨B, o, none⟩) hblk).trans (X.soft o), h.owns X.full (fun k hk => ?_), h.owns X.last (fun k hk => ?_), fun i hi => h.owns (X.chunk i hi) (fun k hk => ?_), X.len, X.room, X.capb, X.apart⟩
  · cases fo with
    | none => simp [Value.ownBlock] at hk
    | some a => exact hT k (.inr (.inl ⟨a, rfl, by simpa [Value.ownBlock] using hk⟩))
  · cases lo with
    | none => simp [Value.ownBlock] at hk
    | some a => exact hT k (.inr (.inr (.inl ⟨a, rfl, by simpa [Value.ownBlock] using hk⟩)))
  · have hk' : gs.getD i 0 = k := by simpa [Value.ownBlock, fullV] using hk
    refine hT k (.inr (.inr (.inr ?_)))
    rw [← hk', List.getD_eq_getElem?_getD, List.getElem?_eq_getElem hi]
    exact List.getElem_mem _

end Go.Proofs.Qxb6001694a
