import Derived.Test.Qxb6001694aBuf
import Derived.Deep.RegionLaw
namespace Go.Proofs.Qxb6001694a
open Go.RowKit

theorem owns_ne {w : World} {b1 b2 : Nat} {e1 e2 : TypeId} {s1 s2 n1 n2 c1 c2 : Nat} {a1 a2 : Addr} {x1 x2 : List Value} (h1 : w.ownsRow b1 e1 s1 (.slice (some a1) n1 c1) n1 x1) (h2 : w.ownsRow b2 e2 s2 (.slice (some a2) n2 c2) n2 x2) (he : e1 ≠ e2) : a1.block ≠ a2.block := by
  intro e
  rcases h1.2 with ⟨h, _⟩ | ⟨g, c, cur, h, _, hg, _⟩
  · simp at h
  rcases h2.2 with ⟨h', _⟩ | ⟨g', c', cur', h', _, hg', _⟩
  · simp at h'
  simp only [Value.slice.injEq, Option.some.injEq] at h h'
  obtain ⟨rfl, _⟩ := h
  obtain ⟨rfl, _⟩ := h'
  simp only at e
  subst e
  rw [hg] at hg'
  simp only [Option.some.injEq, Obj.cells.injEq] at hg'
  exact he hg'.2.1

theorem owns_addr {w : World} {b : Nat} {e : TypeId} {s n c : Nat} {a : Addr} {x : List Value} (h : w.ownsRow b e s (.slice (some a) n c) n x) : ∃ g, a = ⟨g, 0, none⟩ ∧ b ≤ g ∧ g < w.heap.size := by
  have hl := h.lt
  rcases h.2 with ⟨h, _⟩ | ⟨g, c', cur, h, hb, hg, _⟩
  · simp at h
  · simp only [Value.slice.injEq, Option.some.injEq] at h
    obtain ⟨rfl, _⟩ := h
    exact ⟨g, rfl, hb, (hl g rfl).2⟩

section
variable {w : World} {B : Nat} {lines : Bool} {ls : Int} {trim : Bool} {fo : Option Addr} {capf : Nat} {gs : List Nat} {lo : Option Addr} {n cap : Nat} {bs : List UInt8}

theorem BufX.Blt (X : BufX w B lines ls trim fo capf gs lo n cap bs) : B < w.heap.size := World.block_lt_of_cell? w _ X.c0

theorem BufX.lt (X : BufX w B lines ls trim fo capf gs lo n cap bs) : ∀ k, fpt B fo lo gs k → k < w.heap.size ∧ B ≤ k := by
  intro k hk
  rcases hk with rfl | ⟨a, rfl, rfl⟩ | ⟨a, rfl, rfl⟩ | hk
  · exact ⟨X.Blt, Nat.le_refl _⟩
  · obtain ⟨g, rfl, hb, hl⟩ := owns_addr X.full
    exact ⟨hl, by show B ≤ g; omega⟩
  · obtain ⟨g, rfl, hb, hl⟩ := owns_addr X.last
    exact ⟨hl, by show B ≤ g; omega⟩
  · obtain ⟨i, hi, rfl⟩ := List.mem_iff_getElem.1 hk
    have hc := X.chunk i hi
    rw [List.getD_eq_getElem?_getD, List.getElem?_eq_getElem hi] at hc
    have := hc.lt gs[i] rfl
    exact ⟨this.2, by omega⟩

/-- A NEW LAST BLOCK, or the old one with more in it: behind a step that turned the old last block alone, and the store of the new slice. -/
theorem BufX.relast (X : BufX w B lines ls trim fo capf gs lo n cap bs) {w1 : World} {lo' : Option Addr} {n' cap' : Nat} {bs' : List UInt8}
    (hO : Only (fun k => ∃ a, lo = some a ∧ a.block = k) w w1) (hlast : w1.ownsRow (B + 1) 5 1 (.slice lo' n' cap') n' (vals (bs'.drop (gs.length * 65536))))
    (hlen : bs'.length = gs.length * 65536 + n') (hroom : n' ≤ cap') (hcap : cap' ≤ 65536) (hap : ∀ g, g ∈ gs → ∀ a, lo' = some a → a.block ≠ g)
    (hpre : ∀ i, i < gs.length → (bs'.drop (i * 65536)).take 65536 = (bs.drop (i * 65536)).take 65536) :
    BufX (w1.setCell ⟨B, 1, none⟩ (.slice lo' n' cap')) B lines ls trim fo capf gs lo' n' cap' bs' := by
  have hBlo : ¬ ∃ a, lo = some a ∧ a.block = B := by
    rintro ⟨a, rfl, rfl⟩
    obtain ⟨g, rfl, hb, _⟩ := owns_addr X.last
    simp at hb
    omega
  have hblk := hO.block B X.Blt hBlo
  have d0 := hO.cell X.c0 hBlo
  have d1 := hO.cell X.c1 hBlo
  have d2 := hO.cell X.c2 hBlo
  have d3 := hO.cell X.c3 hBlo
  have d4 := hO.cell X.c4 hBlo
  have hset : Only (fun k => k = B) w1 (w1.setCell ⟨B, 1, none⟩ (.slice lo' n' cap')) := only_setCell (S := fun k => k = B) (p := ⟨B, 1, none⟩) rfl _
  refine ⟨?_, World.cell?_setCell_same _ _ _ d1, ?_, ?_, ?_, ?_, ?_, ?_, ?_, hlen, hroom, hcap, hap⟩
  · rw [World.cell?_setCell_other _ _ _ _ (by simp)]; exact d0
  · rw [World.cell?_setCell_other _ _ _ _ (by simp)]; exact d2
  · rw [World.cell?_setCell_other _ _ _ _ (by simp)]; exact d3
  · rw [World.cell?_setCell_other _ _ _ _ (by simp)]; exact d4
  · intro o
    rw [World.frozen?_setCell, World.frozen?_of_block (a := ⟨B, o, none⟩) hblk]
    exact X.soft o
  · refine hset.owns (hO.owns X.full (fun k hk => ?_)) (fun k hk => ?_)
    · cases fo with
      | none => simp [Value.ownBlock] at hk
      | some f =>
        rintro ⟨a, rfl, rfl⟩
        have := owns_ne X.full X.last (by decide)
        exact this (by simpa [Value.ownBlock] using hk)
    · cases fo with
      | none => simp [Value.ownBlock] at hk
      | some f =>
        obtain ⟨g, rfl, hb, _⟩ := owns_addr X.full
        have : g = k := by simpa [Value.ownBlock] using hk
        omega
  · refine hset.owns hlast (fun k hk => ?_)
    cases lo' with
    | none => simp [Value.ownBlock] at hk
    | some f =>
      obtain ⟨g, rfl, hb, _⟩ := owns_addr hlast
      have : g = k := by simpa [Value.ownBlock] using hk
      omega
  · intro i hi
    rw [hpre i hi]
    have hm : gs.getD i 0 ∈ gs := by
      rw [List.getD_eq_getElem?_getD, List.getElem?_eq_getElem hi]
      exact List.getElem_mem _
    have hge := (X.chunk i hi).lt (gs.getD i 0) rfl
    refine hset.owns (hO.owns (X.chunk i hi) (fun k hk => ?_)) (fun k hk => ?_)
    · have hk' : gs.getD i 0 = k := by simpa [Value.ownBlock, fullV] using hk
      rintro ⟨a, ha, hab⟩
      exact X.apart _ hm a ha (hab.trans hk'.symm)
    · have hk' : gs.getD i 0 = k := by simpa [Value.ownBlock, fullV] using hk
      omega

/-- The last block as a source of cells. -/
theorem BufX.last_src (X : BufX w B lines ls trim fo capf gs lo n cap bs) : 0 < n → ∃ ad, lo = some ad ∧ ∀ j v, (vals (bs.drop (gs.length * 65536)))[j]? = some v → w.cell? (ad.add j) = some v := by
  intro h0
  cases lo with
  | none =>
    rcases X.last.2 with ⟨_, h⟩ | ⟨g, c, cur, h, _⟩
    · omega
    · simp at h
  | some a =>
    obtain ⟨g, rfl, _, _⟩ := owns_addr X.last
    exact ⟨_, rfl, X.last.cells rfl⟩

end

/-- What a step on a buffer leaves. -/
def Stepped (w : World) (B : Nat) (lines : Bool) (ls : Int) (trim : Bool) (fo lo : Option Addr) (gs : List Nat) (bs' : List UInt8) (w' : World) : Prop :=
  ∃ fo' capf' gs' lo' n' cap', BufX w' B lines ls trim fo' capf' gs' lo' n' cap' bs' ∧ Only (fpt B fo lo gs) w w' ∧ ∀ k, fpt B fo' lo' gs' k → fpt B fo lo gs k ∨ w.heap.size ≤ k

/-- What grow leaves: room. -/
def Grew (w : World) (B : Nat) (lines : Bool) (ls : Int) (trim : Bool) (fo lo : Option Addr) (gs : List Nat) (bs : List UInt8) (e : Ending) (w' : World) : Prop :=
  e = .returned (.tuple #[]) ∧ ∃ fo' capf' gs' lo' n' cap', (BufX w' B lines ls trim fo' capf' gs' lo' n' cap' bs ∧ n' < cap') ∧ Only (fpt B fo lo gs) w w' ∧ ∀ k, fpt B fo' lo' gs' k → fpt B fo lo gs k ∨ w.heap.size ≤ k

/-- A last block that has been copied into a new one. -/
theorem BufX.moved {w w1 w2 : World} {B : Nat} {lines : Bool} {ls : Int} {trim : Bool} {fo : Option Addr} {capf : Nat} {gs : List Nat} {lo : Option Addr} {n c : Nat} {bs : List UInt8} (X : BufX w B lines ls trim fo capf gs lo n n bs)
    (hg1 : w.grownBy w1 none) (hg2 : w1.grownBy w2 (some w.heap.size)) (hown : w2.ownsRow (B + 1) 5 1 (.slice (some ⟨w.heap.size, 0, none⟩) n c) n (vals (bs.drop (gs.length * 65536)))) (hnc : n < c) (hc : c ≤ 65536) :
    BufX w2 B lines ls trim fo capf gs lo n n bs ∧
    ∃ fo' capf' gs' lo' n' cap', (BufX (w2.setCell ⟨B, 1, none⟩ (.slice (some ⟨w.heap.size, 0, none⟩) n c)) B lines ls trim fo' capf' gs' lo' n' cap' bs ∧ n' < cap') ∧ Only (fpt B fo lo gs) w (w2.setCell ⟨B, 1, none⟩ (.slice (some ⟨w.heap.size, 0, none⟩) n c)) ∧ ∀ k, fpt B fo' lo' gs' k → fpt B fo lo gs k ∨ w.heap.size ≤ k := by
  have hO : ∀ S : Nat → Prop, Only S w w2 := fun S => (only_grown (S := S) hg1 (fun k hk => by simp at hk)).after (T := fun k => k = w.heap.size) (only_grown hg2 (fun k hk => (Option.some.inj hk).symm)) (fun i hi ht => by omega)
  refine ⟨X.only (hO (fun _ => False)) (fun _ _ h => h), fo, capf, gs, some ⟨w.heap.size, 0, none⟩, n, c, ⟨X.relast (hO _) hown X.len (by omega) hc (fun g hg a ha => ?_) (fun _ _ => rfl), hnc⟩, (hO _).trans (only_setCell (S := fpt B fo lo gs) (p := ⟨B, 1, none⟩) (.inl rfl) _), fun k hk => ?_⟩
  · have hl := (X.lt g (.inr (.inr (.inr hg)))).1
    obtain rfl := Option.some.inj ha
    show w.heap.size ≠ g
    omega
  · rcases hk with hk | hk | ⟨a, ha, rfl⟩ | hk
    · exact .inl (.inl hk)
    · exact .inl (.inr (.inl hk))
    · obtain rfl := Option.some.inj ha
      exact .inr (Nat.le_refl _)
    · exact .inl (.inr (.inr (.inr hk)))

set_option maxHeartbeats 400000 in
theorem grow_small (w : World) (B : Nat) (lines : Bool) (ls : Int) (trim : Bool) (fo : Option Addr) (capf : Nat) (gs : List Nat) (lo : Option Addr) (n : Nat) (bs : List UInt8) (X : BufX w B lines ls trim fo capf gs lo n n bs) (hn : (n : Int) < 65536) :
    Calls Try.prog 53 #[.pointer (some ⟨B, 0, none⟩)] w (Grew w B lines ls trim fo lo gs bs) := by
  have h1 := X.c1
  obtain ⟨i0, hi, hz0, hz1, hz2⟩ := info_parts Try.info5b
  obtain ⟨c, hc⟩ : ∃ c, (n < 8 ∧ c = 16) ∨ (8 ≤ n ∧ n ≤ 32768 ∧ c = 2 * n) ∨ (32768 < n ∧ c = 65536) := by
    by_cases h8 : n < 8
    · exact ⟨16, .inl ⟨h8, rfl⟩⟩
    · by_cases h9 : n ≤ 32768
      · exact ⟨2 * n, .inr (.inl ⟨by omega, h9, rfl⟩)⟩
      · exact ⟨65536, .inr (.inr ⟨by omega, rfl⟩)⟩
  have hnc : n < c := by omega
  have hcb : (c : Int) ≤ 65536 := by omega
  have hc : ((n : Int) < 8 ∧ c = 16) ∨ ((8 : Int) ≤ n ∧ (n : Int) ≤ 32768 ∧ c = 2 * n) ∨ ((32768 : Int) < n ∧ c = 65536) := by omega
  rcases hc with ⟨ha, hcc⟩ | ⟨ha, hb, hcc⟩ | ⟨ha, hcc⟩
  all_goals
    have HC : Hid (c = _) := hcc
    clear hcc
    go_enter Try.func53, Try.ntmps53
    go_wp2_with (at_make; refine wpList_make_room _ rfl _ _ 22 rfl (B + 1) 5 i0 (.int .u8 0) 1 Try.underlying22 hi hz0 hz1 .i64 .i64 _ _ n c rfl rfl (by omega) (by rw [HC.out]; omega) (by omega) (by rw [hz2]; omega) (by unfold maxLen; omega) (by have := X.Blt; omega) ?_)
    intro w1 hown1 hg1
    have X1 := X.only (only_grown (S := fun _ => False) hg1 (fun k hk => by simp at hk)) (fun _ _ h => h)
    have d1 := X1.c1
    have hsrc := X1.last_src
    have hcl : (vals (bs.drop (gs.length * 65536))).length = n := by have := X1.last.1; omega
    have HCL : Hid _ := hcl
    have hone := vals_one (bs.drop (gs.length * 65536))
    clear h1 hi hz0 hz1 hz2 hcl
    go_wp2_with (refine wpList_copy_all rfl (.tmp 17) (.tmp 21) 22 22 rfl 5 Try.underlying22 Try.size5b (B + 1) w.heap.size n c _ lo n rfl rfl hown1 (vals (bs.drop (gs.length * 65536))) HCL.out hsrc hone ?_)
    intro w2 v hown2 hg2
    have E := X.moved hg1 hg2 hown2 (by omega) (by omega)
    have e1 := E.1.c1
    have ef := E.1.soft 1
    have EX : Hid _ := E.2
    clear X1 d1 hsrc hone hown1 hown2 hg1 hg2 E
    go_wp2
    go_end0
    exact ⟨rfl, EX.out⟩

theorem BufX.fo_ne {w : World} {B : Nat} {lines : Bool} {ls : Int} {trim : Bool} {fo : Option Addr} {capf : Nat} {gs : List Nat} {lo : Option Addr} {n cap : Nat} {bs : List UInt8} (X : BufX w B lines ls trim fo capf gs lo n cap bs) {k : Nat}
    (h : (Value.slice fo gs.length capf).ownBlock = some k) : B < k ∧ k < w.heap.size := by
  have := X.full.lt k h
  omega

theorem BufX.pushed_cells {w w1 : World} {B : Nat} {lines : Bool} {ls : Int} {trim : Bool} {fo : Option Addr} {capf : Nat} {gs : List Nat} {lo : Option Addr} {n cap q : Nat} {bs : List UInt8} {o : Obj} (X : BufX w B lines ls trim fo capf gs lo n cap bs)
    (hg : ((w.alloc o).drewN q).grownBy w1 (Value.slice fo gs.length capf).ownBlock) : w1.cell? ⟨B, 0, none⟩ = some (.slice fo gs.length capf) ∧ w1.frozen? ⟨B, 0, none⟩ = false := by
  have hblk : w1.heap[B]? = w.heap[B]? := (hg.block B (by have := X.Blt; simp; omega) (fun e => by have := (X.fo_ne e.symm).1; omega)).trans (Below.heap_alloc w o B X.Blt)
  exact ⟨(World.cell?_of_block (a := ⟨B, 0, none⟩) hblk).trans X.c0, (World.frozen?_of_block (a := ⟨B, 0, none⟩) hblk).trans (X.soft 0)⟩

theorem len_push {L q n : Nat} (h : L = q * 65536 + n) (hn : n = 65536) : L = (q + 1) * 65536 + 0 := by rw [Nat.add_zero]; omega

/-- Behind the push of a full block (world w1, the list of blocks stored) and the making of a new one (world w2). -/
theorem BufX.pushed {w w1 w2 : World} {B : Nat} {lines : Bool} {ls : Int} {trim : Bool} {fo : Option Addr} {capf : Nat} {gs : List Nat} {g n q : Nat} {bs : List UInt8} {o : Obj} (X : BufX w B lines ls trim fo capf gs (some ⟨g, 0, none⟩) n n bs) {g' cap' : Nat}
    (hg : ((w.alloc o).drewN q).grownBy w1 (Value.slice fo gs.length capf).ownBlock) (hown : w1.ownsRow (B + 1) 22 1 (.slice (some ⟨g', 0, none⟩) (gs.length + 1) cap') (gs.length + 1) (gs.map fullV ++ [.slice (some ⟨g, 0, none⟩) n n]))
    (hloc : (Value.slice fo gs.length capf).ownBlock = some g' ∨ ((w.alloc o).drewN q).heap.size ≤ g') (hn : n = 65536)
    (hown2 : w2.ownsRow (B + 1) 5 1 (.slice (some ⟨w1.heap.size, 0, none⟩) 0 n) 0 []) (hg2 : (w1.setCell ⟨B, 0, none⟩ (.slice (some ⟨g', 0, none⟩) (gs.length + 1) cap')).grownBy w2 none) :
    (w2.cell? ⟨B, 1, none⟩ = some (.slice (some ⟨g, 0, none⟩) n n) ∧ w2.frozen? ⟨B, 1, none⟩ = false) ∧
    ∃ fo' capf' gs' lo' n' cap'', (BufX (w2.setCell ⟨B, 1, none⟩ (.slice (some ⟨w1.heap.size, 0, none⟩) 0 n)) B lines ls trim fo' capf' gs' lo' n' cap'' bs ∧ n' < cap'') ∧ Only (fpt B fo (some ⟨g, 0, none⟩) gs) w (w2.setCell ⟨B, 1, none⟩ (.slice (some ⟨w1.heap.size, 0, none⟩) 0 n)) ∧ ∀ k, fpt B fo' lo' gs' k → fpt B fo (some ⟨g, 0, none⟩) gs k ∨ w.heap.size ≤ k := by
  have hBlt := X.Blt
  have O0 : ∀ S : Nat → Prop, Only S w ((w.alloc o).drewN q) := fun S => (only_alloc S w o).trans (only_drewN S _ q)
  have hz : ((w.alloc o).drewN q).heap.size = w.heap.size + 1 := by simp
  have O1 : Only (fun k => (Value.slice fo gs.length capf).ownBlock = some k) w w1 := (O0 _).trans (only_grown hg (fun k hk => hk))
  have O2 : Only (fun k => k = B) w1 (w1.setCell ⟨B, 0, none⟩ (.slice (some ⟨g', 0, none⟩) (gs.length + 1) cap')) := only_setCell (S := fun k => k = B) (p := ⟨B, 0, none⟩) rfl _
  have O3 : ∀ S : Nat → Prop, Only S (w1.setCell ⟨B, 0, none⟩ (.slice (some ⟨g', 0, none⟩) (gs.length + 1) cap')) w2 := fun S => only_grown hg2 (fun k hk => by simp at hk)
  have O4 : Only (fun k => k = B) w2 (w2.setCell ⟨B, 1, none⟩ (.slice (some ⟨w1.heap.size, 0, none⟩) 0 n)) := only_setCell (S := fun k => k = B) (p := ⟨B, 1, none⟩) rfl _
  have O24 : Only (fun k => k = B) w1 (w2.setCell ⟨B, 1, none⟩ (.slice (some ⟨w1.heap.size, 0, none⟩) 0 n)) := (O2.trans (O3 _)).trans O4
  have hBf : ¬ (Value.slice fo gs.length capf).ownBlock = some B := fun h => by have := (X.fo_ne h).1; omega
  have hblk := O1.block B hBlt hBf
  have hw1 : w.heap.size + 1 ≤ w1.heap.size := by have := hg.size; omega
  -- the cells of B
  have d0 := O1.cell X.c0 hBf
  have mid : ∀ (off : Nat) (v : Value), off ≠ 0 → w1.cell? ⟨B, off, none⟩ = some v → w2.cell? ⟨B, off, none⟩ = some v := fun off v ho h => by
    have h' : (w1.setCell ⟨B, 0, none⟩ (.slice (some ⟨g', 0, none⟩) (gs.length + 1) cap')).cell? ⟨B, off, none⟩ = some v := by
      rw [World.cell?_setCell_other _ _ _ _ (fun e => ho (congrArg Addr.off e).symm)]; exact h
    exact (O3 (fun _ => False)).cell h' (fun h => h)
  have e0 : w2.cell? ⟨B, 0, none⟩ = some (.slice (some ⟨g', 0, none⟩) (gs.length + 1) cap') := (O3 (fun _ => False)).cell (World.cell?_setCell_same _ _ _ d0) (fun h => h)
  have e1 := mid 1 _ (by decide) (O1.cell X.c1 hBf)
  have e2 := mid 2 _ (by decide) (O1.cell X.c2 hBf)
  have e3 := mid 3 _ (by decide) (O1.cell X.c3 hBf)
  have e4 := mid 4 _ (by decide) (O1.cell X.c4 hBf)
  have soft2 : ∀ off, w2.frozen? ⟨B, off, none⟩ = false := fun off => by
    have hb2 := (O3 (fun _ => False)).block B (by simp; have := O1.size; omega) (fun h => h)
    rw [World.frozen?_of_block (a := ⟨B, off, none⟩) hb2, World.frozen?_setCell, World.frozen?_of_block (a := ⟨B, off, none⟩) hblk]
    exact X.soft off
  have hlt := X.lt
  have hgl := hlt g (.inr (.inr (.inl ⟨_, rfl, rfl⟩)))
  have hg'ge : B + 1 ≤ g' := (hown.lt g' rfl).1
  have lenq : (gs ++ [g]).length = gs.length + 1 := by simp
  have Xlen := X.len
  refine ⟨⟨e1, soft2 1⟩, some ⟨g', 0, none⟩, cap', gs ++ [g], some ⟨w1.heap.size, 0, none⟩, 0, n, ⟨⟨?_, World.cell?_setCell_same _ _ _ e1, ?_, ?_, ?_, ?_, ?_, ?_, ?_, ?_, Nat.zero_le _, Nat.le_of_eq hn, ?_⟩, by omega⟩, ?_, ?_⟩
  · rw [World.cell?_setCell_other _ _ _ _ (by simp), lenq]; exact e0
  · rw [World.cell?_setCell_other _ _ _ _ (by simp)]; exact e2
  · rw [World.cell?_setCell_other _ _ _ _ (by simp)]; exact e3
  · rw [World.cell?_setCell_other _ _ _ _ (by simp)]; exact e4
  · intro off
    rw [World.frozen?_setCell]
    exact soft2 off
  · rw [lenq]
    have hf : (gs ++ [g]).map fullV = gs.map fullV ++ [.slice (some ⟨g, 0, none⟩) n n] := by rw [List.map_append, hn]; rfl
    rw [hf]
    refine O24.owns hown (fun k hk => ?_)
    have : g' = k := by simpa [Value.ownBlock] using hk
    omega
  · have hnil : bs.drop ((gs ++ [g]).length * 65536) = [] := by
      rw [lenq]
      apply List.drop_eq_nil_of_le
      omega
    rw [hnil]
    refine O4.owns hown2 (fun k hk => ?_)
    have : w1.heap.size = k := by simpa [Value.ownBlock] using hk
    omega
  · intro i hi
    rw [lenq] at hi
    by_cases hiq : i < gs.length
    · have hgi : (gs ++ [g]).getD i 0 = gs.getD i 0 := by rw [List.getD_eq_getElem?_getD, List.getElem?_append_left hiq, List.getD_eq_getElem?_getD]
      rw [hgi]
      have hge := (X.chunk i hiq).lt (gs.getD i 0) rfl
      refine O24.owns (O1.owns (X.chunk i hiq) (fun k hk => ?_)) (fun k hk => ?_)
      · have hk' : gs.getD i 0 = k := by simpa [Value.ownBlock, fullV] using hk
        intro hf
        cases fo with
        | none => simp [Value.ownBlock] at hf
        | some f =>
          have hne := owns_ne X.full (X.chunk i hiq) (by decide)
          apply hne
          have : f.block = k := by simpa [Value.ownBlock] using hf
          rw [this]
          exact hk'.symm
      · have hk' : gs.getD i 0 = k := by simpa [Value.ownBlock, fullV] using hk
        omega
    · obtain rfl : i = gs.length := by omega
      have hgi : (gs ++ [g]).getD gs.length 0 = g := by simp
      rw [hgi]
      have htk : (bs.drop (gs.length * 65536)).take 65536 = bs.drop (gs.length * 65536) := List.take_of_length_le (by rw [List.length_drop]; omega)
      rw [htk]
      have hl := X.last
      rw [hn] at hl
      refine O24.owns (O1.owns hl (fun k hk => ?_)) (fun k hk => ?_)
      · have hk' : g = k := by simpa [Value.ownBlock, fullV] using hk
        intro hf
        cases fo with
        | none => simp [Value.ownBlock] at hf
        | some f =>
          have hne := owns_ne X.full X.last (by decide)
          apply hne
          have : f.block = k := by simpa [Value.ownBlock] using hf
          rw [this]
          exact hk'.symm
      · have hk' : g = k := by simpa [Value.ownBlock, fullV] using hk
        have := (X.last.lt g rfl).1
        omega
  · have h : bs.length = (gs.length + 1) * 65536 + 0 := len_push Xlen hn
    rw [← lenq] at h
    exact h
  · intro g0 hg0 a ha
    obtain rfl := Option.some.inj ha
    show w1.heap.size ≠ g0
    rcases List.mem_append.1 hg0 with h | h
    · have := (hlt g0 (.inr (.inr (.inr h)))).1
      omega
    · have : g0 = g := by simpa using h
      omega
  · refine (O1.mono (fun k hk => ?_)).trans (O24.mono (fun k hk => .inl hk))
    cases fo with
    | none => simp [Value.ownBlock] at hk
    | some f => exact .inr (.inl ⟨f, rfl, by simpa [Value.ownBlock] using hk⟩)
  · intro k hk
    rcases hk with hk | ⟨a, ha, rfl⟩ | ⟨a, ha, rfl⟩ | hk
    · exact .inl (.inl hk)
    · obtain rfl := Option.some.inj ha
      rcases hloc with h | h
      · cases fo with
        | none => simp [Value.ownBlock] at h
        | some f => exact .inl (.inr (.inl ⟨f, rfl, by simpa [Value.ownBlock] using h⟩))
      · right; show w.heap.size ≤ g'; omega
    · obtain rfl := Option.some.inj ha
      right; show w.heap.size ≤ w1.heap.size; omega
    · rcases List.mem_append.1 hk with h | h
      · exact .inl (.inr (.inr (.inr h)))
      · have : k = g := by simpa using h
        exact .inl (.inr (.inr (.inl ⟨_, rfl, this.symm⟩)))

set_option maxHeartbeats 400000 in
theorem grow_big (w : World) (B : Nat) (lines : Bool) (ls : Int) (trim : Bool) (fo : Option Addr) (capf : Nat) (gs : List Nat) (g n : Nat) (bs : List UInt8) (X : BufX w B lines ls trim fo capf gs (some ⟨g, 0, none⟩) n n bs) (hn : ¬ (n : Int) < 65536) (hbs : bs.length ≤ 4194304) :
    Calls Try.prog 53 #[.pointer (some ⟨B, 0, none⟩)] w (Grew w B lines ls trim fo (some ⟨g, 0, none⟩) gs bs) := by
  have h0 := X.c0
  have h1 := X.c1
  have hq : gs.length ≤ 64 := by have := X.len; omega
  have HNB : Hid (n = 65536) := by have := X.capb; unfold Hid; omega
  obtain ⟨i0, hi, hz0, hz1, hz2⟩ := info_parts Try.info22b
  have HF := X.full
  have HB := X.Blt
  clear hbs
  go_enter Try.func53, Try.ntmps53
  go_wp2_with fail
  go_region_law (refine step_append_own rfl (.tmp 31) (.tmp 36) 55 rfl (B + 1) 22 i0 (.slice none 0 0) 1 24 Try.underlying55 hi hz0 hz1 hz2 rfl (by decide) (.slice fo gs.length capf) gs.length (gs.map fullV) rfl (by exact HF.alloc _) ⟨w.heap.size, 0, none⟩ 1 1 [.slice (some ⟨g, 0, none⟩) n n] rfl rfl (by exact cell_one_new _ _ _) (by intro u hu; simp at hu; subst hu; rfl) (by unfold maxLen; omega) (by omega) (by simp; omega) (by decide) ?_; intro g' cap' w1 hown1 hg1 hloc; have E := X.pushed_cells (q := 1) hg1; have e0 := E.1; have ef := E.2)
  all_goals
    have HP : Hid (∀ w2 : World, _ → _ → _) := fun w2 h1 h2 => X.pushed (q := 1) (w2 := w2) hg1 hown1 hloc HNB.out h1 h2
    have hws : B + 1 ≤ w1.heap.size := by have := hg1.size; simp at this; omega
    obtain ⟨i1, hi1, hy0, hy1, hy2⟩ := info_parts Try.info5b
    clear E hg1 hown1 hloc hi hz0 hz1 hz2 HF h0 h1
    go_wp2_with (at_make; refine wpList_make_own _ rfl _ _ 22 rfl (B + 1) 5 i1 (.int .u8 0) 1 Try.underlying22 hi1 hy0 hy1 .i64 .i64 _ n rfl rfl (by have := HNB.out; omega) (by rw [hy2]; have := HNB.out; omega) (by unfold maxLen; have := HNB.out; omega) (by simp; omega) ?_)
    intro w2 hown2 hg2
    have P := HP.out w2 (by simpa using hown2) hg2
    have p1 := P.1.1
    have p2 := P.1.2
    have HQ : Hid _ := P.2
    clear P HP hown2 hg2
    go_wp2
    go_end0
    exact ⟨rfl, HQ.out⟩

/-- The whole of grow. -/
theorem grow_any (w : World) (B : Nat) (lines : Bool) (ls : Int) (trim : Bool) (fo : Option Addr) (capf : Nat) (gs : List Nat) (lo : Option Addr) (n : Nat) (bs : List UInt8) (X : BufX w B lines ls trim fo capf gs lo n n bs) (hbs : bs.length ≤ 4194304) :
    Calls Try.prog 53 #[.pointer (some ⟨B, 0, none⟩)] w (Grew w B lines ls trim fo lo gs bs) := by
  by_cases hn : (n : Int) < 65536
  · exact grow_small w B lines ls trim fo capf gs lo n bs X hn
  · cases lo with
    | none =>
      exfalso
      rcases X.last.2 with ⟨_, h⟩ | ⟨g, c, cur, h, _⟩
      · omega
      · simp at h
    | some a =>
      obtain ⟨g, rfl, _, _⟩ := owns_addr X.last
      exact grow_big w B lines ls trim fo capf gs g n bs X hn hbs

end Go.Proofs.Qxb6001694a
