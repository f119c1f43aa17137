import Derived.WalkKit
import Derived.WalkSpells
import Derived.WalkLawsBesides
namespace Go.Proofs.Qxb6001694a
open Go.RowKit

/-- 'make([]T, n, c)', n and c variables: n zero elements are owned, there is room for c. -/
theorem run_make_room {P : Program} (w : World) (base : Nat) (t e : TypeId) (i : TypeInfo) (z : Value) (size : Nat) (ht : P.underlying t = some (.slice e)) (hi : P.info? e = some i) (hz : i.zero = some z) (hsize : i.size = size)
    (kl kc : IntKind) (n c : Nat) (hnc : n ≤ c) (hbytes : i.bytes * c ≤ 281474976710656) (h63 : c ≤ maxLen) (hbase : base ≤ w.heap.size) :
    ∃ w', (Instr.makeSlice t (.int kl (n : Int)) (.int kc (c : Int))).run P w = .ok (.slice (some ⟨w.heap.size, 0, none⟩) n c) w' ∧
      w'.ownsRow base e size (.slice (some ⟨w.heap.size, 0, none⟩) n c) n ((madeCells z.cells (c * size)).toList.take (n * size)) ∧ w.grownBy w' none := by
  subst hsize
  have h63' : (c : Int) ≤ 9223372036854775807 := by
    have h := h63
    simp [maxLen] at h
    omega
  have hb' : (i.bytes : Int) * (c : Int) ≤ 281474976710656 := by
    have h : ((i.bytes * c : Nat) : Int) ≤ 281474976710656 := by omega
    rwa [Int.natCast_mul] at h
  have hr := run_make (P := P) w t e i z ht hi hz kl kc n c (by omega) (by omega) hb' h63'
  simp only [Int.toNat_natCast] at hr
  have hle : n * i.size ≤ c * i.size := Nat.mul_le_mul_right _ hnc
  refine ⟨_, hr, ⟨?_, .inr ⟨w.heap.size, c, _, rfl, hbase, heap_alloc_new w _, hnc, h63, size_madeCells _ _, rfl⟩⟩, World.grownBy_alloc w _ none⟩
  rw [List.length_take, Array.length_toList, size_madeCells]
  omega

theorem wpList_make_room {P : Program} (w : World) {ops : Array Oper} {rest : List Oper} {o : Oper} {a : Act} {Q : Exit → Act → World → Prop}
    (hg : o.guard = none) (l c : Operand) (t : TypeId) (hop : o.op = Op.makeSlice t l c)
    (base : Nat) (e : TypeId) (i : TypeInfo) (z : Value) (size : Nat) (h1 : P.underlying t = some (.slice e)) (h2 : P.info? e = some i) (h3 : i.zero = some z) (h4 : i.size = size)
    (kl kc : IntKind) (L C : Int) (n m : Nat) (hl : a.eval l = .int kl L) (hc : a.eval c = .int kc C) (hL : L = (n : Int)) (hC : C = (m : Int)) (hnm : n ≤ m) (b2 : i.bytes * m ≤ 281474976710656) (b3 : m ≤ maxLen) (b4 : base ≤ w.heap.size)
    (hK : ∀ w', w'.ownsRow base e size (.slice (some ⟨w.heap.size, 0, none⟩) n m) n ((madeCells z.cells (m * size)).toList.take (n * size)) → w.grownBy w' none → wpList P ops Q rest (a.put o.dst (.slice (some ⟨w.heap.size, 0, none⟩) n m)) w') :
    wpList P ops Q (o :: rest) a w := by
  refine wpList_plain hg fun K hK' => ?_
  obtain ⟨w', hrun, r1, r2⟩ := run_make_room (P := P) w base t e i z size h1 h2 h3 h4 kl kc n m hnm b2 b3 b4
  subst hL
  subst hC
  unfold Oper.wp
  simp [execOp, hop, hl, hc, hrun, Result.andThen]
  exact hK' _ _ (hK w' r1 r2)

end Go.Proofs.Qxb6001694a
