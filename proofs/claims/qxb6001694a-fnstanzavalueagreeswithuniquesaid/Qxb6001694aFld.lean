import Derived.Test.Qxb6001694aStr
namespace Go.Proofs.Qxb6001694a
open Go.RowKit

theorem Try.info51 : (Try.prog.info? 51).map (fun i => (i.zero, i.size, i.bytes)) = some (some (.agg #[.string ⟨#[]⟩, .string ⟨#[]⟩]), 2, 32) := by kernel_rfl

/-- The cells of the first n fields. -/
def flat (ns vs : List ByteArray) : Nat → List Value
  | 0 => []
  | n + 1 => flat ns vs n ++ [.string (ns.getD n ByteArray.empty), .string (vs.getD n ByteArray.empty)]

theorem flat_len (ns vs : List ByteArray) : ∀ n, (flat ns vs n).length = n * 2
  | 0 => rfl
  | n + 1 => by simp [flat, flat_len ns vs n]; omega

theorem take_two {xs : List Value} {k : Nat} {l : List Value} (a b : Value) (hl : l.length = k * 2) (h : xs.take (k * 2) = l) (hlen : k * 2 + 1 < xs.length) :
    ((xs.set (k * 2) a).set (k * 2 + 1) b).take ((k + 1) * 2) = l ++ [a, b] := by
  apply List.ext_getElem?
  intro j
  rw [List.getElem?_take]
  by_cases h1 : j < (k + 1) * 2
  · rw [if_pos h1, List.getElem?_set, List.getElem?_set]
    simp only [List.length_set]
    by_cases h2 : k * 2 + 1 = j
    · subst h2
      rw [if_pos rfl, if_pos (by omega), List.getElem?_append_right (by omega), hl, show k * 2 + 1 - k * 2 = 1 by omega]
      rfl
    · rw [if_neg h2]
      by_cases h3 : k * 2 = j
      · subst h3
        rw [if_pos rfl, if_pos (by omega), List.getElem?_append_right (by omega), hl, Nat.sub_self]
        rfl
      · rw [if_neg h3, List.getElem?_append_left (by omega), ← h, List.getElem?_take, if_pos (by omega)]
  · rw [if_neg h1, List.getElem?_eq_none]
    simp
    omega

/-- What fieldsOf leaves. -/
def Fielded (w : World) (n x : Nat) (ns vs : List ByteArray) (e : Ending) (w' : World) : Prop :=
  e = .returned (.slice (some ⟨w.heap.size, 0, none⟩) n (n + x)) ∧ w'.ownsRow w.heap.size 51 2 (.slice (some ⟨w.heap.size, 0, none⟩) n (n + x)) n (flat ns vs n) ∧ Below w.heap.size w w'

set_option maxHeartbeats 400000 in
theorem fieldsOf_any (w : World) (ao : Option Addr) (len cap : Nat) (ns : List ByteArray) (S : Strs w ao len cap ns) (ao' : Option Addr) (len' cap' : Nat) (vs : List ByteArray) (S' : Strs w ao' len' cap' vs)
    (hb : len ≤ 1048576) (hb' : len' ≤ 1048576) (n x : Nat) (hn : n ≤ len) (hn' : n ≤ len') (hmin : (min (len : Int) (len' : Int)) = (n : Int)) (hx : x ≤ 1) :
    Calls Try.prog 28 #[.slice ao len cap, .slice ao' len' cap', .int .i64 x] w (Fielded w n x ns vs) := by
  obtain ⟨i0, hi, hz0, hz1, hz2⟩ := info_parts Try.info51
  have hcase : len' < len ∧ n = len' ∨ ¬ len' < len ∧ n = len := by omega
  clear hmin
  rcases hcase with ⟨hc, rfl⟩ | ⟨hc, rfl⟩
  all_goals
    go_enter Try.func28, Try.ntmps28
    go_wp2_with (at_make; refine wpList_make_room _ rfl _ _ 39 rfl w.heap.size 51 i0 (.agg #[.string ⟨#[]⟩, .string ⟨#[]⟩]) 2 Try.underlying39 hi hz0 hz1 .i64 .i64 _ _ n (n + x) rfl rfl (by omega) (by omega) (by omega) (by rw [hz2]; omega) (by unfold maxLen; omega) (Nat.le_refl _) ?_)
    intro w1 hown hgrow
    have hbel : Below w.heap.size w w1 := (Below.refl _ _).grown hgrow (Nat.le_refl _) (by simp)
    clear hgrow hi hz0 hz1 hz2
    go_wp2
    go_loopw [9] (fun i wr => ∃ (k : Nat) (xs : List Value), k ≤ n ∧ i = .int .i64 k ∧ wr.ownsRow w.heap.size 51 2 (Value.slice (some ⟨w.heap.size, 0, none⟩) n (n + x)) n xs ∧ Hid (xs.take (k * 2) = flat ns vs k) ∧ Below w.heap.size w wr) (fun i _ => n - (intOf i).toNat)
    case atStart => exact ⟨0, _, Nat.zero_le _, rfl, hown, by simp [Hid, flat], hbel⟩
    case round =>
      obtain ⟨k, xs, hk, rfl, hown1, hxs, hbw⟩ := hrel
      clear hown hbel
      by_cases hlt : k < n
      · obtain ⟨b, off, rfl, hcn⟩ := S.cells (by omega)
        obtain ⟨b', off', rfl, hcv⟩ := S'.cells (by omega)
        have hcn := hcn k (by omega)
        have hcv := hcv k (by omega)
        have hn1 : wr.cell? ⟨b, off + k, none⟩ = some (.string (ns.getD k ByteArray.empty)) := (hbw.cell (p := ⟨b, off + k, none⟩) (by exact World.block_lt_of_cell? w _ hcn)).trans hcn
        have hv1 : wr.cell? ⟨b', off' + k, none⟩ = some (.string (vs.getD k ByteArray.empty)) := (hbw.cell (p := ⟨b', off' + k, none⟩) (by exact World.block_lt_of_cell? w _ hcv)).trans hcv
        have hxl : xs.length = n * 2 := hown1.1
        have hold0 := hown1.cellAt (k * 2) (by omega)
        have hold1 := hown1.cellAt (k * 2 + 1) (by omega)
        obtain ⟨u, hu⟩ : ∃ u, xs[k * 2]? = some u := ⟨_, List.getElem?_eq_getElem (by omega)⟩
        obtain ⟨u', hu'⟩ : ∃ u, xs[k * 2 + 1]? = some u := ⟨_, List.getElem?_eq_getElem (by omega)⟩
        rw [hu] at hold0
        rw [hu'] at hold1
        have hfz0 := hown1.frozenAt (k * 2)
        have hfz1 := hown1.frozenAt (k * 2 + 1)
        have HF := take_two (.string (ns.getD k ByteArray.empty)) (.string (vs.getD k ByteArray.empty)) (flat_len ns vs k) hxs.out (by omega)
        have HF : Hid (List.take ((k + 1) * 2) ((xs.set (k * 2) (Value.string (ns.getD k ByteArray.empty))).set (k * 2 + 1) (Value.string (vs.getD k ByteArray.empty))) = flat ns vs (k + 1)) := HF
        clear hu hu' hxl hxs
        have HO := ((hown1.stored (k * 2) (.string (ns.getD k ByteArray.empty))).1.stored (k * 2 + 1) (.string (vs.getD k ByteArray.empty))).1
        have HB := (hbw.setCell (p := ⟨w.heap.size, k * 2, none⟩) (Nat.le_refl _) (.string (ns.getD k ByteArray.empty))).setCell (p := ⟨w.heap.size, k * 2 + 1, none⟩) (Nat.le_refl _) (.string (vs.getD k ByteArray.empty))
        generalize ns.getD k ByteArray.empty = s1 at *
        generalize vs.getD k ByteArray.empty = s2 at *
        clear hown1
        have hki : (k : Int) < (n : Int) := by omega
        go_wp2
        go_region
        go_wp2
        go_roundw
        case rel => exact ⟨k + 1, _, by omega, by go_num, HO.drew, HF, HB.drew⟩
        case measure => simp [intOf]; omega
      · have hkl : k = n := by omega
        have HO : wr.ownsRow w.heap.size 51 2 (Value.slice (some ⟨w.heap.size, 0, none⟩) n (n + x)) n (flat ns vs n) := by
          have h1 := hxs.out
          rw [hkl, List.take_of_length_le (by rw [hown1.1]; exact Nat.le_refl _)] at h1
          rw [← h1]
          exact hown1
        clear hown1 hxs hkl
        go_wp2
        go_ret
        exact ⟨rfl, HO, hbw⟩

theorem Try.info5 : (Try.prog.info? 5).map (fun i => (i.zero, i.size, i.bytes)) = some (some (.int .u8 0), 1, 1) := by kernel_rfl

/-- The case of a letter swapped. -/
def swapI (c : Int) : Int := if 65 ≤ c ∧ c ≤ 90 then c + 32 else if 97 ≤ c ∧ c ≤ 122 then c - 32 else c

theorem fold_swap (c : Int) : foldI (swapI c) = foldI c := by
  unfold foldI swapI
  repeat' split
  all_goals omega

def Swapped (w : World) (s : ByteArray) (e : Ending) (w' : World) : Prop :=
  ∃ t : ByteArray, e = .returned (.string t) ∧ keyL t = keyL s ∧ t.size = s.size ∧ Below w.heap.size w w'

def swapL (s : ByteArray) : List Int := s.data.toList.map fun c => swapI c.toNat
theorem swapL_len (s : ByteArray) : (swapL s).length = s.size := by simp [swapL]
theorem swap_byte (c : UInt8) : ((UInt8.ofNat (swapI c.toNat).toNat).toNat : Int) = swapI c.toNat := by
  have h := c.toNat_lt
  have h2 : 0 ≤ swapI c.toNat ∧ swapI c.toNat ≤ 255 := by unfold swapI; repeat' split <;> omega
  rw [UInt8.toNat_ofNat']
  omega
theorem swap_key (s : ByteArray) : keyL (strOfNums (swapL s)) = keyL s := by
  unfold keyL swapL
  rw [strOfNums_data, List.map_map, List.map_map]
  apply List.map_congr_left
  intro c _
  simp only [Function.comp_apply]
  rw [swap_byte, fold_swap]

theorem swap_step {xs : List Value} {s : ByteArray} {k : Nat} (hk : k < s.size) (hl : xs.length = s.size) (h : xs.take k = (s.data.toList.take k).map fun c => .int .u8 (swapI c.toNat)) (x : Int) (hx : x = swapI (s[k]).toNat) :
    (xs.set k (.int .u8 x)).take (k + 1) = (s.data.toList.take (k + 1)).map fun c => .int .u8 (swapI c.toNat) := by
  subst hx
  rw [List.take_succ_eq_append_getElem (by simp; omega), List.take_succ_eq_append_getElem (by simpa using hk), List.map_append, ← h]
  simp only [List.getElem_set_self, List.map_cons, List.map_nil]
  rw [List.take_set_of_le (Nat.le_refl k)]
  rfl

set_option maxHeartbeats 400000 in
theorem swapCase_any (w : World) (s : ByteArray) (hs : s.size ≤ 1048576) :
    Calls Try.prog 32 #[.string s] w (Swapped w s) := by
  obtain ⟨i0, hi, hz0, hz1, hz2⟩ := info_parts Try.info5
  go_enter Try.func32, Try.ntmps32
  go_wp2_with (at_make; refine wpList_make_full _ rfl _ _ 22 rfl w.heap.size 5 i0 (.int .u8 0) 1 Try.underlying22 hi hz0 hz1 .i64 .i64 _ _ s.size rfl rfl rfl rfl (by rw [hz2]; omega) (by unfold maxLen; omega) (Nat.le_refl _) ?_)
  intro w1 hown hgrow
  have hbel : Below w.heap.size w w1 := (Below.refl _ _).grown hgrow (Nat.le_refl _) (by simp)
  clear hgrow hi hz0 hz1 hz2
  go_wp2
  go_loopw [4] (fun i wr => ∃ (k : Nat) (xs : List Value), k ≤ s.size ∧ i = .int .i64 k ∧ wr.ownsRow w.heap.size 5 1 (Value.slice (some ⟨w.heap.size, 0, none⟩) s.size s.size) s.size xs ∧ Hid (xs.take k = (s.data.toList.take k).map fun c => .int .u8 (swapI c.toNat)) ∧ Below w.heap.size w wr) (fun i _ => s.size - (intOf i).toNat)
  case atStart => exact ⟨0, _, Nat.zero_le _, rfl, hown, by simp [Hid], hbel⟩
  case round =>
    obtain ⟨k, xs, hk, rfl, hown1, hxs, hbw⟩ := hrel
    clear hown hbel
    by_cases hlt : k < s.size
    · have hold0 := hown1.cellAt k (by omega)
      obtain ⟨u, hu⟩ : ∃ u, xs[k]? = some u := ⟨_, List.getElem?_eq_getElem (by rw [hown1.1]; omega)⟩
      rw [hu] at hold0
      have hfz0 := hown1.frozenAt k
      have HO := fun v => (hown1.stored k v).1
      have HB := fun v => (hbw.setCell (p := ⟨w.heap.size, k, none⟩) (Nat.le_refl _) v)
      have HL : Hid (xs.length = s.size) := by rw [Hid, hown1.1]; omega
      clear hown1 hu
      go_wp2
      all_goals
        go_roundw
        case rel => exact ⟨k + 1, _, by omega, by go_num, HO _, swap_step hlt HL.out hxs.out _ (by unfold swapI; repeat' split <;> omega), HB _⟩
        case measure => simp [intOf]; omega
    · have hkl : k = s.size := by omega
      have hconv := run_convert_bytes_arg (P := Try.prog) wr 22 5 Try.underlying22 Try.underlying5 w.heap.size 0 s.size s.size (swapL s) (swapL_len s) (by
        intro i hi
        have h1 := hxs.out
        rw [hkl, List.take_of_length_le (by rw [hown1.1]; omega), List.take_of_length_le (by simp)] at h1
        rw [Nat.zero_add, hown1.cellAt i (by omega), h1]
        simp [swapL, hi]) 9 Try.underlying9
      clear hown1 hxs hkl
      generalize ht : strOfNums (swapL s) = t at *
      have HT : Hid (strOfNums (swapL s) = t) := ht
      clear ht
      go_wp2
      go_ret
      refine ⟨t, rfl, ?_, ?_, hbw⟩
      · rw [← HT.out, swap_key]
      · rw [← HT.out, strOfNums_size, swapL_len]

end Go.Proofs.Qxb6001694a
