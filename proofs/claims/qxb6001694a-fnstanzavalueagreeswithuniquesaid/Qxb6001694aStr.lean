import Derived.Test.Qxb6001694aNm
import Derived.Test.Qxb6001694aLaws
namespace Go.Proofs.Qxb6001694a
open Go.RowKit


def IsB (e : Ending) : Prop := ∃ b : Bool, e = .returned (.bool b)

structure Strs (w : World) (ao : Option Addr) (len cap : Nat) (ss : List ByteArray) : Prop where
  hlen : ss.length = len
  hcap : len ≤ cap
  hmax : cap ≤ maxLen
  hnil : ao = none → cap = 0
  cells : 0 < len → ∃ b off, ao = some ⟨b, off, none⟩ ∧ ∀ i, i < len → w.cell? ⟨b, off + i, none⟩ = some (.string (ss.getD i ByteArray.empty))
  size : ∀ i, i < len → (ss.getD i ByteArray.empty).size ≤ maxLen

set_option maxHeartbeats 400000 in
theorem strBytes_any (w : World) (ao : Option Addr) (len cap : Nat) (ss : List ByteArray) (S : Strs w ao len cap ss) :
    Calls Try.prog 26 #[.slice ao len cap] w fun e w' => ∃ n : Int, 0 ≤ n ∧ n ≤ 1048577 ∧ e = .returned (.int .i64 n) ∧ w = w' := by
  have hm : len ≤ 9223372036854775807 := Nat.le_trans S.hcap S.hmax
  go_enter Try.func26, Try.ntmps26
  go_wp2
  go_loop [3, 4] (fun t i => ∃ (k : Nat) (z : Int), k ≤ len ∧ 0 ≤ z ∧ z ≤ 1048576 ∧ i = .int .i64 k ∧ t = .int .i64 z) (fun _ i => len - (intOf i).toNat)
  case atStart => exact ⟨0, 0, Nat.zero_le _, by omega, by omega, rfl, rfl⟩
  case round =>
    obtain ⟨k, z, hk, hz0, hz1, rfl, rfl⟩ := hrel
    by_cases hlt : k < len
    · obtain ⟨b, off, rfl, hc⟩ := S.cells (by omega)
      have hck := hc k hlt
      clear hc
      generalize ss.getD k ByteArray.empty = s at *
      go_wp2
      · go_ret
        exact ⟨_, by omega, by omega, rfl, rfl⟩
      · go_ret
        exact ⟨_, by omega, by omega, rfl, rfl⟩
      · go_round
        case rel => exact ⟨k + 1, _, by omega, by omega, by omega, by go_num, rfl⟩
        case measure => simp [intOf]; omega
    · go_wp2
      go_ret
      exact ⟨z, hz0, by omega, rfl, rfl⟩

set_option maxHeartbeats 1000000 in
theorem zz31_any (w : World) (ao : Option Addr) (len cap : Nat) (ss : List ByteArray) (S : Strs w ao len cap ss) (ao' : Option Addr) (len' cap' : Nat) (ss' : List ByteArray) (S' : Strs w ao' len' cap' ss') (s0 : ByteArray) (hs0 : s0.size ≤ maxLen) (s1 : ByteArray) (hs1 : s1.size ≤ maxLen) :
    Calls Try.prog 31 #[.slice ao len cap, .slice ao' len' cap', .string s0, .string s1] w fun e w' => w = w' ∧ IsB e := by
  unfold maxLen at hs0
  unfold maxLen at hs1
  have hm : len ≤ 9223372036854775807 := Nat.le_trans S.hcap S.hmax
  have hm' : len' ≤ 9223372036854775807 := Nat.le_trans S'.hcap S'.hmax
  go_enter Try.func31, Try.ntmps31
  go_wp2
  · go_ret
    exact ⟨rfl, _, rfl⟩
  go_loop [9, 10] (fun t i => ∃ (k : Nat) (z : Int), k ≤ len ∧ 0 ≤ z ∧ z ≤ 1048576 ∧ i = .int .i64 k ∧ t = .int .i64 z) (fun _ i => len - (intOf i).toNat)
  case atStart => exact ⟨0, _, Nat.zero_le _, by omega, by omega, rfl, rfl⟩
  case round =>
    obtain ⟨k, z, hk, hz0, hz1, rfl, rfl⟩ := hrel
    by_cases hlt : k < len
    · obtain ⟨b, off, rfl, hc⟩ := S.cells (by omega)
      have hck := hc k hlt
      clear hc
      generalize ss.getD k ByteArray.empty = s at *
      go_wp2
      · go_ret
        exact ⟨rfl, _, rfl⟩
      · go_ret
        exact ⟨rfl, _, rfl⟩
      · go_round
        case rel => exact ⟨k + 1, _, by omega, by omega, by omega, by go_num, rfl⟩
        case measure => simp [intOf]; omega
    · go_wp2
      · go_ret
        exact ⟨rfl, _, rfl⟩
      · go_ret
        exact ⟨rfl, _, rfl⟩
      · go_loop [9, 11] (fun t i => ∃ (k : Nat) (z : Int), k ≤ len' ∧ 0 ≤ z ∧ z ≤ 1048576 ∧ i = .int .i64 k ∧ t = .int .i64 z) (fun _ i => len' - (intOf i).toNat)
        case atStart => exact ⟨0, _, Nat.zero_le _, by omega, by omega, rfl, rfl⟩
        case round =>
          obtain ⟨k, z, hk, hz0, hz1, rfl, rfl⟩ := hrel
          by_cases hlt : k < len'
          · obtain ⟨b, off, rfl, hc⟩ := S'.cells (by omega)
            have hck := hc k hlt
            clear hc
            generalize ss'.getD k ByteArray.empty = s at *
            go_wp2
            · go_ret
              exact ⟨rfl, _, rfl⟩
            · go_ret
              exact ⟨rfl, _, rfl⟩
            · go_round
              case rel => exact ⟨k + 1, _, by omega, by omega, by omega, by go_num, rfl⟩
              case measure => simp [intOf]; omega
          · go_wp2
            all_goals
              go_ret
              exact ⟨rfl, _, rfl⟩

set_option maxHeartbeats 1000000 in
theorem zz25_any (w : World) (ao : Option Addr) (len cap : Nat) (ss : List ByteArray) (S : Strs w ao len cap ss) (ao' : Option Addr) (len' cap' : Nat) (ss' : List ByteArray) (S' : Strs w ao' len' cap' ss') (s0 : ByteArray) (hs0 : s0.size ≤ maxLen) :
    Calls Try.prog 25 #[.slice ao len cap, .slice ao' len' cap', .string s0] w fun e w' => w = w' ∧ IsB e := by
  unfold maxLen at hs0
  have hm : len ≤ 9223372036854775807 := Nat.le_trans S.hcap S.hmax
  have hm' : len' ≤ 9223372036854775807 := Nat.le_trans S'.hcap S'.hmax
  go_enter Try.func25, Try.ntmps25
  go_wp2
  · go_ret
    exact ⟨rfl, _, rfl⟩
  go_loop [7, 8] (fun t i => ∃ (k : Nat) (z : Int), k ≤ len ∧ 0 ≤ z ∧ z ≤ 1048576 ∧ i = .int .i64 k ∧ t = .int .i64 z) (fun _ i => len - (intOf i).toNat)
  case atStart => exact ⟨0, _, Nat.zero_le _, by omega, by omega, rfl, rfl⟩
  case round =>
    obtain ⟨k, z, hk, hz0, hz1, rfl, rfl⟩ := hrel
    by_cases hlt : k < len
    · obtain ⟨b, off, rfl, hc⟩ := S.cells (by omega)
      have hck := hc k hlt
      clear hc
      generalize ss.getD k ByteArray.empty = s at *
      go_wp2
      · go_ret
        exact ⟨rfl, _, rfl⟩
      · go_ret
        exact ⟨rfl, _, rfl⟩
      · go_round
        case rel => exact ⟨k + 1, _, by omega, by omega, by omega, by go_num, rfl⟩
        case measure => simp [intOf]; omega
    · go_wp2
      · go_ret
        exact ⟨rfl, _, rfl⟩
      · go_ret
        exact ⟨rfl, _, rfl⟩
      · go_loop [7, 9] (fun t i => ∃ (k : Nat) (z : Int), k ≤ len' ∧ 0 ≤ z ∧ z ≤ 1048576 ∧ i = .int .i64 k ∧ t = .int .i64 z) (fun _ i => len' - (intOf i).toNat)
        case atStart => exact ⟨0, _, Nat.zero_le _, by omega, by omega, rfl, rfl⟩
        case round =>
          obtain ⟨k, z, hk, hz0, hz1, rfl, rfl⟩ := hrel
          by_cases hlt : k < len'
          · obtain ⟨b, off, rfl, hc⟩ := S'.cells (by omega)
            have hck := hc k hlt
            clear hc
            generalize ss'.getD k ByteArray.empty = s at *
            go_wp2
            · go_ret
              exact ⟨rfl, _, rfl⟩
            · go_ret
              exact ⟨rfl, _, rfl⟩
            · go_round
              case rel => exact ⟨k + 1, _, by omega, by omega, by omega, by go_num, rfl⟩
              case measure => simp [intOf]; omega
          · go_wp2
            all_goals
              go_ret
              exact ⟨rfl, _, rfl⟩

set_option maxHeartbeats 1000000 in
theorem zz33_any (w : World) (ao : Option Addr) (len cap : Nat) (ss : List ByteArray) (S : Strs w ao len cap ss) (ao' : Option Addr) (len' cap' : Nat) (ss' : List ByteArray) (S' : Strs w ao' len' cap' ss') :
    Calls Try.prog 33 #[.slice ao len cap, .slice ao' len' cap'] w fun e w' => w = w' ∧ IsB e := by
  have hm : len ≤ 9223372036854775807 := Nat.le_trans S.hcap S.hmax
  have hm' : len' ≤ 9223372036854775807 := Nat.le_trans S'.hcap S'.hmax
  go_enter Try.func33, Try.ntmps33
  go_wp2
  · go_ret
    exact ⟨rfl, _, rfl⟩
  go_loop [5, 6] (fun t i => ∃ (k : Nat) (z : Int), k ≤ len ∧ 0 ≤ z ∧ z ≤ 1048576 ∧ i = .int .i64 k ∧ t = .int .i64 z) (fun _ i => len - (intOf i).toNat)
  case atStart => exact ⟨0, _, Nat.zero_le _, by omega, by omega, rfl, rfl⟩
  case round =>
    obtain ⟨k, z, hk, hz0, hz1, rfl, rfl⟩ := hrel
    by_cases hlt : k < len
    · obtain ⟨b, off, rfl, hc⟩ := S.cells (by omega)
      have hck := hc k hlt
      clear hc
      generalize ss.getD k ByteArray.empty = s at *
      go_wp2
      · go_ret
        exact ⟨rfl, _, rfl⟩
      · go_ret
        exact ⟨rfl, _, rfl⟩
      · go_round
        case rel => exact ⟨k + 1, _, by omega, by omega, by omega, by go_num, rfl⟩
        case measure => simp [intOf]; omega
    · go_wp2
      · go_ret
        exact ⟨rfl, _, rfl⟩
      · go_ret
        exact ⟨rfl, _, rfl⟩
      · go_loop [5, 7] (fun t i => ∃ (k : Nat) (z : Int), k ≤ len' ∧ 0 ≤ z ∧ z ≤ 1048576 ∧ i = .int .i64 k ∧ t = .int .i64 z) (fun _ i => len' - (intOf i).toNat)
        case atStart => exact ⟨0, _, Nat.zero_le _, by omega, by omega, rfl, rfl⟩
        case round =>
          obtain ⟨k, z, hk, hz0, hz1, rfl, rfl⟩ := hrel
          by_cases hlt : k < len'
          · obtain ⟨b, off, rfl, hc⟩ := S'.cells (by omega)
            have hck := hc k hlt
            clear hc
            generalize ss'.getD k ByteArray.empty = s at *
            go_wp2
            · go_ret
              exact ⟨rfl, _, rfl⟩
            · go_ret
              exact ⟨rfl, _, rfl⟩
            · go_round
              case rel => exact ⟨k + 1, _, by omega, by omega, by omega, by go_num, rfl⟩
              case measure => simp [intOf]; omega
          · go_wp2
            all_goals
              go_ret
              exact ⟨rfl, _, rfl⟩

theorem Try.info9 : (Try.prog.info? 9).map (fun i => (i.zero, i.size, i.bytes)) = some (some (.string ⟨#[]⟩), 1, 16) := by kernel_rfl

/-- What cloneStrings leaves: a slice that reads as the old one; nothing old has turned. -/
def Cloned (w : World) (len : Nat) (ss : List ByteArray) (e : Ending) (w' : World) : Prop :=
  ∃ ao cap, e = .returned (.slice ao len cap) ∧ Strs w' ao len cap ss ∧ Below w.heap.size w w'

/-- The new row behind k rounds. -/
def halfS (ss : List ByteArray) (len k : Nat) : List Value := (ss.take k).map Value.string ++ List.replicate (len - k) (.string ⟨#[]⟩)

theorem halfS_len {ss : List ByteArray} {len k : Nat} (h : ss.length = len) (hk : k ≤ len) : (halfS ss len k).length = len := by
  simp [halfS]; omega

theorem halfS_set {ss : List ByteArray} {len k : Nat} (h : ss.length = len) (hk : k < len) : (halfS ss len k).set k (.string (ss.getD k ByteArray.empty)) = halfS ss len (k + 1) := by
  unfold halfS
  have e1 : ((ss.take k).map Value.string).length = k := by simp; omega
  rw [List.set_append_right _ _ (by omega), e1, Nat.sub_self]
  have e2 : len - k = (len - (k + 1)) + 1 := by omega
  rw [e2, List.replicate_succ, List.set_cons_zero, List.take_add_one, List.map_append, List.append_assoc]
  have e3 : ss[k]? = some (ss.getD k ByteArray.empty) := by
    rw [List.getD_eq_getElem?_getD, List.getElem?_eq_getElem (by omega)]; rfl
  rw [e3]
  rfl

theorem halfS_full {ss : List ByteArray} {len i : Nat} (h : ss.length = len) (hi : i < len) : (halfS ss len len)[i]? = some (.string (ss.getD i ByteArray.empty)) := by
  unfold halfS
  rw [List.getElem?_append_left (by simp; omega), List.getElem?_map, List.getElem?_take, if_pos hi, List.getElem?_eq_getElem (by omega), List.getD_eq_getElem?_getD, List.getElem?_eq_getElem (by omega)]
  rfl

set_option maxHeartbeats 400000 in
theorem cloneStrings_any (w : World) (ao : Option Addr) (len cap : Nat) (ss : List ByteArray) (S : Strs w ao len cap ss) (hb : len ≤ 1048576) :
    Calls Try.prog 27 #[.slice ao len cap] w (Cloned w len ss) := by
  have heq := fun (wx : World) (a : Option Addr) (n c : Nat) => Lib.run_eql_slice_nil (P := Try.prog) wx 35 9 a n c 0 0 Try.underlying35
  cases ao with
  | none =>
    go_enter Try.func27, Try.ntmps27
    go_wp2
    go_ret
    have h0 := S.hnil rfl
    have h1 := S.hcap
    exact ⟨none, 0, by rw [show len = 0 from by omega]; rfl, ⟨S.hlen, by omega, by simp [maxLen], fun _ => rfl, fun h => by omega, S.size⟩, Below.refl _ _⟩
  | some a =>
    obtain ⟨i0, hi, hz0, hz1, hz2⟩ := info_parts Try.info9
    go_enter Try.func27, Try.ntmps27
    go_wp2_with (at_make; refine wpList_make_full _ rfl _ _ 35 rfl w.heap.size 9 i0 (.string ⟨#[]⟩) 1 Try.underlying35 hi hz0 hz1 .i64 .i64 (len : Int) (len : Int) len rfl rfl rfl rfl ?c1 ?c2 ?c3 ?_)
    case c1 => rw [hz2]; omega
    case c2 => unfold maxLen; omega
    case c3 => exact Nat.le_refl _
    intro w1 hown hgrow
    rw [toList_madeCells_one] at hown
    have hown0 : w1.ownsRow w.heap.size 9 1 (Value.slice (some ⟨w.heap.size, 0, none⟩) len len) len (halfS ss len 0) := by simpa [halfS] using hown
    have hbel : Below w.heap.size w w1 := (Below.refl _ _).grown hgrow (Nat.le_refl _) (by simp)
    have hm : len ≤ 9223372036854775807 := Nat.le_trans S.hcap S.hmax
    clear hown hgrow hi hz0 hz1 hz2 heq
    go_wp2
    go_loopw [4] (fun i wr => ∃ k : Nat, k ≤ len ∧ i = .int .i64 k ∧ wr.ownsRow w.heap.size 9 1 (Value.slice (some ⟨w.heap.size, 0, none⟩) len len) len (halfS ss len k) ∧ Below w.heap.size w wr) (fun i _ => len - (intOf i).toNat)
    case atStart => exact ⟨0, Nat.zero_le _, rfl, hown0, hbel⟩
    case round =>
      obtain ⟨k, hk, rfl, hown, hbw⟩ := hrel
      clear hown0 hbel
      by_cases hlt : k < len
      · obtain ⟨b, off, ha, hc⟩ := S.cells (by omega)
        simp only [Option.some.injEq] at ha
        subst ha
        have hcw := hc k hlt
        have hck : wr.cell? ⟨b, off + k, none⟩ = some (.string (ss.getD k ByteArray.empty)) := (hbw.cell (p := ⟨b, off + k, none⟩) (by exact World.block_lt_of_cell? w _ hcw)).trans hcw
        have hold := hown.cellAt k (by omega)
        obtain ⟨u, hu⟩ : ∃ u, (halfS ss len k)[k]? = some u := ⟨_, List.getElem?_eq_getElem (by rw [halfS_len S.hlen hk]; exact hlt)⟩
        rw [hu] at hold
        have hfz := hown.frozenAt k
        have hst := hown.stored k (.string (ss.getD k ByteArray.empty))
        rw [halfS_set S.hlen hlt] at hst
        have HB : Below w.heap.size w (wr.setCell ⟨w.heap.size, k, none⟩ (.string (ss.getD k ByteArray.empty))) := hbw.setCell (by exact Nat.le_refl _) _
        have HO := hst.1
        clear hst hown hu hc hcw
        generalize ss.getD k ByteArray.empty = s at *
        go_wp2
        go_roundw
        case rel => exact ⟨k + 1, by omega, by go_num, HO, HB⟩
        case measure => simp [intOf]; omega
      · have hkl : k = len := by omega
        have hz := S.size
        subst hkl
        have HS : Strs wr (some ⟨w.heap.size, 0, none⟩) k k ss :=
          ⟨S.hlen, Nat.le_refl _, by unfold maxLen; omega, (fun h => by cases h), (fun _ => ⟨w.heap.size, 0, rfl, fun i hi => by rw [Nat.zero_add, hown.cellAt i (by omega), halfS_full S.hlen hi]⟩), hz⟩
        clear hown hz
        go_wp2
        go_ret
        exact ⟨_, _, rfl, HS, hbw⟩

end Go.Proofs.Qxb6001694a
