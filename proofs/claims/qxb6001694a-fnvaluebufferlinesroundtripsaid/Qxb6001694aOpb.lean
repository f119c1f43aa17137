import Derived.Test.Qxb6001694aRows
import Derived.Test.Qxb6001694aBy
import Derived.ProofKit
import Derived.OpenShut
import Derived.ShutString
import Derived.ChangeOld
namespace Go.Proofs.Qxb6001694a
open Go.ChangeShapes Go.WideShapes Go.ChangeAt Go.RowKit

theorem own : ownKnob Try.prog.godebug = none := by kernel_rfl
theorem laidOut : laidOutB Try.prog = true := by kernel_rfl

/-- Numbers that fit a byte, as bytes. -/
def bytesOf (zs : List Int) : List UInt8 := zs.map fun n => UInt8.ofNat n.toNat

theorem bytesOf_at {zs : List Int} {i : Nat} (h : i < zs.length) (hw : ∀ n ∈ zs, (Lit.int .u8 n).wf = true) : (((bytesOf zs).getD i 0).toNat : Int) = zs.getD i 0 := by
  unfold bytesOf
  rw [List.getD_eq_getElem?_getD, List.getElem?_map, List.getElem?_eq_getElem h, List.getD_eq_getElem?_getD, List.getElem?_eq_getElem h]
  have hb := bounds_u8 (hw _ (List.getElem_mem h))
  simp only [Option.map_some, Option.getD_some]
  rw [UInt8.toNat_ofNat']
  omega

/-- A slice of bytes among the arguments, opened. -/
theorem byts_open {H : Type} {enc : TypeId × Value → H} {w : World} {fuel : Nat} {ao : Option Addr} {len cap : Nat} {x : DataW H × List MemPlace}
    (h : DataW.trod enc Try.prog w 0 (fun _ => true) true fuel 22 (Value.slice ao len cap).cells.toList = some x) : ∃ bs, Byts w w.heap.size ao len cap bs := by
  rcases open_ints Try.underlying22 Try.underlying5 (by kernel_rfl) h with ⟨hcs, _⟩ | ⟨a, l, c, zs, hcs, _, hl, hm, hz, _, hcell, hwz⟩
  · simp [Value.cells] at hcs
    obtain ⟨rfl, rfl, rfl⟩ := hcs
    exact ⟨[], rfl, Nat.le_refl _, by simp [maxLen], fun _ => rfl, fun h => by omega⟩
  · simp [Value.cells] at hcs
    obtain ⟨rfl, rfl, rfl⟩ := hcs
    have hz' : zs.length = cap := by simpa using hz
    refine ⟨(bytesOf zs).take len, by simp [bytesOf]; omega, hl, hm, fun h => by simp at h, fun h0 => ?_⟩
    obtain ⟨b, off, spot⟩ := a
    have hspot : spot = none := by simpa [Addr.add] using World.cell?_spot (hcell 0 (by omega))
    subst hspot
    have hc : ∀ j, j < len → w.cell? ⟨b, off + j, none⟩ = some (.int .u8 (zs.getD j 0)) := fun j hj => by rw [← Go.WideShapes.add_plain]; exact hcell j (by omega)
    refine ⟨b, off, rfl, World.block_lt_of_cell? w _ (hc 0 h0), fun j hj => ?_⟩
    rw [hc j hj, ← bytesOf_at (by omega) hwz, List.getD_eq_getElem?_getD, List.getD_eq_getElem?_getD, List.getElem?_take, if_pos hj]

end Go.Proofs.Qxb6001694a
