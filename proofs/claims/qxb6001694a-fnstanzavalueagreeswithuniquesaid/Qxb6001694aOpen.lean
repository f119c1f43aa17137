import Derived.Test.Qxb6001694aRows
import Derived.Test.Qxb6001694aApp
import Derived.ProofKit
import Derived.OpenShut
import Derived.ShutString
import Derived.ChangeOld
import Derived.SliceStrings
namespace Go.Proofs.Qxb6001694a
open Go.ChangeShapes Go.WideShapes Go.ChangeAt Go.RowKit
open Go.ChangeMaps (open_string shut_string)

theorem own : ownKnob Try.prog.godebug = none := by kernel_rfl
theorem laidOut : laidOutB Try.prog = true := by kernel_rfl

/-- A slice of strings among the arguments, opened. -/
theorem strs_open {H : Type} {enc : TypeId × Value → H} {w : World} {fuel : Nat} {ao : Option Addr} {len cap : Nat} {x : DataW H × List MemPlace}
    (h : DataW.trod enc Try.prog w 0 (fun _ => true) true fuel 35 (Value.slice ao len cap).cells.toList = some x) : ∃ ss, Strs w ao len cap ss := by
  rcases open_strings Try.underlying35 Try.underlying9 (by kernel_rfl) h with ⟨hcs, _⟩ | ⟨a, l, c, ss, hcs, _, hl, hm, hz, _, hcell, hws⟩
  · simp [Value.cells] at hcs
    obtain ⟨rfl, rfl, rfl⟩ := hcs
    exact ⟨[], rfl, Nat.le_refl _, by simp [maxLen], fun _ => rfl, fun h => by omega, fun i hi => by omega⟩
  · simp [Value.cells] at hcs
    obtain ⟨rfl, rfl, rfl⟩ := hcs
    have hz' : ss.length = cap := by simpa using hz
    have hg : ∀ i, i < len → (ss.take len).getD i ByteArray.empty = ss.getD i ByteArray.empty := fun i hi => getD_take hi
    refine ⟨ss.take len, by simp; omega, hl, hm, fun h => by simp at h, fun h => ?_, fun i hi => ?_⟩
    · obtain ⟨b, off, spot⟩ := a
      have hspot : spot = none := by simpa [Addr.add] using World.cell?_spot (hcell 0 (by omega))
      subst hspot
      exact ⟨b, off, rfl, fun j hj => by rw [← Go.WideShapes.add_plain, hg j hj]; exact hcell j (by omega)⟩
    · rw [hg i hi, List.getD_eq_getElem?_getD, List.getElem?_eq_getElem (by omega)]
      exact hws _ (List.getElem_mem _)

end Go.Proofs.Qxb6001694a
