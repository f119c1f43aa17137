import Derived.WalkKit
import Derived.WalkSpells
import Derived.WalkLawsBesides
namespace Go.Proofs.Qxb6001694a
open Go.RowKit

/-- ONLY THE BLOCKS IN S HAVE TURNED (and new ones have come). -/
structure Only (S : Nat → Prop) (w w' : World) : Prop where
  os : w'.os = w.os
  tape : w'.tape = w.tape
  output : w'.output = w.output
  size : w.heap.size ≤ w'.heap.size
  block : ∀ k, k < w.heap.size → ¬ S k → w'.heap[k]? = w.heap[k]?

theorem Only.refl (S : Nat → Prop) (w : World) : Only S w w := ⟨rfl, rfl, rfl, Nat.le_refl _, fun _ _ _ => rfl⟩
theorem Only.trans {S : Nat → Prop} {a b c : World} (h : Only S a b) (k : Only S b c) : Only S a c :=
  ⟨k.os.trans h.os, k.tape.trans h.tape, k.output.trans h.output, Nat.le_trans h.size k.size, fun i hi hs => (k.block i (Nat.lt_of_lt_of_le hi h.size) hs).trans (h.block i hi hs)⟩
/-- What the second step writes may also be what the first one has made. -/
theorem Only.after {S T : Nat → Prop} {a b c : World} (h : Only S a b) (k : Only T b c) (hT : ∀ i, i < a.heap.size → T i → S i) : Only S a c :=
  ⟨k.os.trans h.os, k.tape.trans h.tape, k.output.trans h.output, Nat.le_trans h.size k.size, fun i hi hs => (k.block i (Nat.lt_of_lt_of_le hi h.size) (fun t => hs (hT i hi t))).trans (h.block i hi hs)⟩
theorem Only.mono {S T : Nat → Prop} {a b : World} (h : Only S a b) (hT : ∀ i, S i → T i) : Only T a b := ⟨h.os, h.tape, h.output, h.size, fun k hk hs => h.block k hk (fun s => hs (hT k s))⟩
theorem Only.below {S : Nat → Prop} {a b : World} (h : Only S a b) {B : Nat} (hB : B ≤ a.heap.size) (hS : ∀ k, k < B → ¬ S k) : Below B a b :=
  ⟨h.os, h.tape, h.output, h.size, fun k hk => h.block k (by omega) (hS k hk)⟩
theorem Below.only {a b : World} (h : Below a.heap.size a b) (S : Nat → Prop) : Only S a b := ⟨h.os, h.tape, h.output, h.size, fun k hk _ => h.block k hk⟩
theorem only_grown {S : Nat → Prop} {a b : World} {row : Option Nat} (h : a.grownBy b row) (hr : ∀ k, row = some k → S k) : Only S a b :=
  ⟨h.os, h.tape, h.output, h.size, fun k hk hs => h.block k hk (fun e => hs (hr k e.symm))⟩
theorem only_alloc (S : Nat → Prop) (w : World) (o : Obj) : Only S w (w.alloc o) := Below.only ((RowKit.Below.refl _ w).alloc (Nat.le_refl _) o) S
theorem only_drewN (S : Nat → Prop) (w : World) (n : Nat) : Only S w (w.drewN n) := ⟨rfl, rfl, rfl, Nat.le_refl _, fun _ _ _ => rfl⟩
theorem only_setCell {S : Nat → Prop} {w : World} {p : Addr} (hp : S p.block) (u : Value) : Only S w (w.setCell p u) :=
  ⟨rfl, rfl, rfl, by simp [World.setCell], fun k _ hs => RowKit.Below.heap_setCell _ _ _ _ (fun e => hs (e ▸ hp))⟩
theorem Only.cell {S : Nat → Prop} {w w' : World} (h : Only S w w') {p : Addr} {v : Value} (hc : w.cell? p = some v) (hp : ¬ S p.block) : w'.cell? p = some v :=
  (World.cell?_of_block (w := w) (h.block p.block (World.block_lt_of_cell? w _ hc) hp)).trans hc
theorem Only.owns {S : Nat → Prop} {w w' : World} (h : Only S w w') {base : Nat} {e : TypeId} {size n : Nat} {v : Value} {xs : List Value} (ho : w.ownsRow base e size v n xs) (hp : ∀ k, v.ownBlock = some k → ¬ S k) : w'.ownsRow base e size v n xs := by
  refine ⟨ho.1, ?_⟩
  rcases ho.2 with hn | ⟨g, cap, cur, rfl, hb, hgg, rest⟩
  · exact .inl hn
  · refine .inr ⟨g, cap, cur, rfl, hb, ?_, rest⟩
    rw [h.block g (Array.getElem?_eq_some_iff.1 hgg).1 (hp g rfl)]
    exact hgg

end Go.Proofs.Qxb6001694a
