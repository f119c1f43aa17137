import Derived.Test.Qxb6001694aLast
import Derived.Lib.AppendStr
namespace Go.Proofs.Qxb6001694a
open Go.RowKit

/-- The key of a name. -/
def keyS (s : ByteArray) : ByteArray := strOfNums (keyL s)

theorem keyL_bd {s : ByteArray} {c : Int} (h : c ∈ keyL s) : 0 ≤ c ∧ c ≤ 255 := by
  unfold keyL at h
  obtain ⟨b, _, rfl⟩ := List.mem_map.1 h
  exact foldI_bd _ (by omega) (by have := b.toNat_lt; omega)

theorem keyS_eq {a b : ByteArray} : keyS a = keyS b ↔ keyL a = keyL b := by
  constructor
  · intro h
    have h1 : (keyL a).map (fun n => UInt8.ofNat n.toNat) = (keyL b).map (fun n => UInt8.ofNat n.toNat) := by
      rw [← strOfNums_data, ← strOfNums_data]
      show (keyS a).data.toList = (keyS b).data.toList
      rw [h]
    have back : ∀ s, ((keyL s).map (fun n => UInt8.ofNat n.toNat)).map (fun c => (c.toNat : Int)) = keyL s := by
      intro s
      rw [List.map_map]
      refine Eq.trans (List.map_congr_left (g := id) ?_) (List.map_id _)
      intro c hc
      have := keyL_bd hc
      simp only [Function.comp_apply, id]
      rw [UInt8.toNat_ofNat']
      omega
    rw [← back a, ← back b, h1]
  · intro h
    unfold keyS
    rw [h]

theorem keyS_size (s : ByteArray) : (keyS s).size = s.size := by unfold keyS; rw [strOfNums_size, keyL_len]

/-- The row behind k rounds of appendKey. -/
def halfK (s : ByteArray) (k : Nat) : List Value := ((keyL s).take k).map (Value.int .u8) ++ (Lib.strCells s).drop k

theorem halfK_len {s : ByteArray} {k : Nat} (h : k ≤ s.size) : (halfK s k).length = s.size := by
  simp [halfK, keyL_len, Lib.strCells_length]; omega

theorem strCells_at {s : ByteArray} {k : Nat} (h : k < s.size) : (Lib.strCells s)[k]? = some (.int .u8 (s[k]).toNat) := by
  unfold Lib.strCells
  rw [List.getElem?_map, List.getElem?_eq_getElem (by simpa using h)]
  rfl

theorem halfK_at {s : ByteArray} {k : Nat} (h : k < s.size) : (halfK s k)[k]? = some (.int .u8 (s[k]).toNat) := by
  have e : (((keyL s).take k).map (Value.int .u8)).length = k := by simp [keyL_len]; omega
  unfold halfK
  rw [List.getElem?_append_right (by omega), e, Nat.sub_self, List.getElem?_drop, Nat.add_zero, strCells_at h]

theorem halfK_set {s : ByteArray} {k : Nat} (h : k < s.size) : (halfK s k).set k (.int .u8 (foldI (s[k]).toNat)) = halfK s (k + 1) := by
  have e : (((keyL s).take k).map (Value.int .u8)).length = k := by simp [keyL_len]; omega
  unfold halfK
  rw [List.set_append_right _ _ (by omega), e, Nat.sub_self]
  have e2 : (Lib.strCells s).drop k = .int .u8 (s[k]).toNat :: (Lib.strCells s).drop (k + 1) := by
    rw [List.drop_eq_getElem_cons (by rw [Lib.strCells_length]; exact h)]
    congr 1
    have := strCells_at h
    rw [List.getElem?_eq_getElem (by rw [Lib.strCells_length]; exact h)] at this
    exact Option.some.inj this
  rw [e2, List.set_cons_zero, List.take_add_one, keyL_at s k h, List.map_append, List.append_assoc]
  rfl

theorem halfK_full {s : ByteArray} {i : Nat} (h : i < s.size) : (halfK s s.size)[i]? = some (.int .u8 ((keyL s).getD i 0)) := by
  unfold halfK
  rw [List.getElem?_append_left (by simp [keyL_len]; exact h), List.getElem?_map, List.getElem?_take, if_pos h, List.getD_eq_getElem?_getD, keyL_at s i h]
  rfl

/-- What appendKey leaves, at a nil dst. -/
def KeyCells (w : World) (s : ByteArray) (e : Ending) (w' : World) : Prop :=
  ∃ ao cap, e = .returned (.slice ao s.size cap) ∧ (s.size = 0 → ao = none ∧ cap = 0) ∧
    (0 < s.size → ∃ g, ao = some ⟨g, 0, none⟩ ∧ ∀ i, i < s.size → w'.cell? ⟨g, 0 + i, none⟩ = some (.int .u8 ((keyL s).getD i 0))) ∧ Below w.heap.size w w'

theorem ba_empty {s : ByteArray} (h : s.size = 0) : s = ByteArray.empty := by
  obtain ⟨d⟩ := s
  have h' : d.size = 0 := h
  have e : d = #[] := Array.eq_empty_of_size_eq_zero h'
  subst e
  rfl

set_option maxHeartbeats 400000 in
theorem appendKey_any (w : World) (s : ByteArray) (hs : s.size ≤ 1048576) :
    Calls Try.prog 55 #[.int .u8 0, .slice none 0 0, .string s] w (KeyCells w s) := by
  obtain ⟨i0, hi, hz0, hz1, hz2⟩ := info_parts Try.info5
  go_enter Try.func55, Try.ntmps55
  go_wp2_with (at_builtin; refine Lib.wpList_append_own_string _ rfl _ _ 22 9 rfl w.heap.size 5 i0 Try.underlying22 Try.underlying9 hi hz0 hz1 hz2 _ 0 [] rfl (World.ownsRow_nil _ _ _ _) s rfl (by unfold maxLen; omega) (by omega) (Nat.le_refl _) ?_)
  intro v' w1 hown hgrow hnil
  have hbel : Below w.heap.size w w1 := (Below.refl _ _).grown hgrow (Nat.le_refl _) (by intro k hk; simp [Value.ownBlock] at hk)
  clear hi hz0 hz1 hz2 hgrow
  by_cases h0 : s.size = 0
  · have hv := hnil.2 (ba_empty h0)
    subst hv
    have h0' : ¬ (0 : Int) < 0 := by omega
    have H0 : Hid (s.size = 0) := h0
    clear hown hnil h0
    go_wp2
    refine wp_loop_rounds 1 ?_
    rw [rounds_succ]
    go_wp2
    go_ret
    exact ⟨none, 0, by rw [H0.out]; rfl, fun _ => ⟨rfl, rfl⟩, fun h => by have := H0.out; omega, hbel⟩
  · obtain ⟨g, cap, hv, hbg⟩ : ∃ g cap, v' = .slice (some ⟨g, 0, none⟩) s.size cap ∧ w.heap.size ≤ g := by
      rcases hown.2 with ⟨_, h⟩ | ⟨g, cap, cur, hv, hbg, _⟩
      · exact absurd h h0
      · exact ⟨g, cap, hv, hbg⟩
    subst hv
    have hown0 : w1.ownsRow w.heap.size 5 1 (.slice (some ⟨g, 0, none⟩) s.size cap) s.size (halfK s 0) := by simpa [halfK] using hown
    clear hown hnil
    go_wp2
    go_loopw [8] (fun i wr => ∃ k : Nat, k ≤ s.size ∧ i = .int .i64 k ∧ wr.ownsRow w.heap.size 5 1 (.slice (some ⟨g, 0, none⟩) s.size cap) s.size (halfK s k) ∧ Below w.heap.size w wr) (fun i _ => s.size - (intOf i).toNat)
    case atStart => exact ⟨0, Nat.zero_le _, rfl, hown0, hbel⟩
    case round =>
      obtain ⟨k, hk, rfl, hown, hbw⟩ := hrel
      clear hown0 hbel
      by_cases hlt : k < s.size
      · have hold := hown.cellAt k (by omega)
        rw [halfK_at hlt] at hold
        have hfz := hown.frozenAt k
        have HO := (hown.stored k (.int .u8 (foldI (s[k]).toNat))).1
        rw [halfK_set hlt] at HO
        have HB := hbw.setCell (p := ⟨g, k, none⟩) hbg (.int .u8 (foldI (s[k]).toNat))
        clear hown
        go_wp2_with (go_at_call 56; refine (fold_byte _ _).mono ?_; rintro e w' ⟨rfl, rfl⟩)
        go_roundw
        case rel => exact ⟨k + 1, by omega, by go_num, HO, HB⟩
        case measure => simp [intOf]; omega
      · obtain rfl : k = s.size := by omega
        have HC : ∀ i, i < s.size → wr.cell? ⟨g, 0 + i, none⟩ = some (.int .u8 ((keyL s).getD i 0)) := fun i hi => by rw [Nat.zero_add, hown.cellAt i (by omega), halfK_full hi]
        have HC' : Hid (∀ i, i < s.size → wr.cell? ⟨g, 0 + i, none⟩ = some (.int .u8 ((keyL s).getD i 0))) := HC
        clear hown HC
        go_wp2
        go_ret
        exact ⟨some ⟨g, 0, none⟩, cap, rfl, fun h => absurd h h0, fun _ => ⟨g, rfl, HC'.out⟩, hbw⟩

/-- What key answers. -/
def KeyOf (w : World) (s : ByteArray) (e : Ending) (w' : World) : Prop := e = .returned (.string (keyS s)) ∧ Below w.heap.size w w'

set_option maxHeartbeats 400000 in
theorem key_any (w : World) (s : ByteArray) (hs : s.size ≤ 1048576) :
    Calls Try.prog 51 #[.int .u8 0, .string s] w (KeyOf w s) := by
  go_enter Try.func51, Try.ntmps51
  go_wp2_with fail
  refine (appendKey_any w s hs).mono ?_
  rintro e w1 ⟨ao, cap, rfl, hz, hc, hb⟩
  by_cases h0 : s.size = 0
  · obtain ⟨rfl, rfl⟩ := hz h0
    have hconv := run_convert_bytes_nil (P := Try.prog) w1 22 5 Try.underlying22 Try.underlying5 s.size 0 9 Try.underlying9
    have HK : Hid (keyS s = ByteArray.empty) := by
      have e : keyL s = [] := List.eq_nil_of_length_eq_zero (by rw [keyL_len]; exact h0)
      unfold Hid keyS
      rw [e]
      rfl
    clear hz hc h0
    go_wp2
    go_ret
    exact ⟨by rw [HK.out]; rfl, hb⟩
  · obtain ⟨g, rfl, hcell⟩ := hc (by omega)
    have hconv := run_convert_bytes_arg (P := Try.prog) w1 22 5 Try.underlying22 Try.underlying5 g 0 s.size cap (keyL s) (keyL_len s) hcell 9 Try.underlying9
    have hconv : (convert 22 9 (.slice (some ⟨g, 0, none⟩) s.size cap)).run Try.prog w1 = .ok (.string (keyS s)) w1 := hconv
    clear hz hc hcell h0
    go_wp2
    go_ret
    exact ⟨rfl, hb⟩

/-- A row of fields lies in block g. -/
structure FldAt (w : World) (g m : Nat) (un uv : List ByteArray) : Prop where
  name : ∀ i, i < m → w.cell? ⟨g, i * 2, none⟩ = some (.string (un.getD i ByteArray.empty))
  value : ∀ i, i < m → w.cell? ⟨g, i * 2 + 1, none⟩ = some (.string (uv.getD i ByteArray.empty))
  size : ∀ i, i < m → (un.getD i ByteArray.empty).size ≤ 1048576

theorem FldAt.below {w w' : World} {g m : Nat} {un uv : List ByteArray} (F : FldAt w g m un uv) (hb : Below w.heap.size w w') : FldAt w' g m un uv := by
  have old : ∀ {p : Addr} {v : Value}, w.cell? p = some v → w'.cell? p = some v := fun {p} {v} h => (hb.cell (by exact World.block_lt_of_cell? w _ h)).trans h
  exact ⟨fun i hi => old (F.name i hi), fun i hi => old (F.value i hi), F.size⟩

/-- What indexOf answers. -/
def Found (w : World) (m : Nat) (un : List ByteArray) (nm : ByteArray) (e : Ending) (w' : World) : Prop :=
  ((∃ i : Nat, i < m ∧ e = .returned (.int .i64 i) ∧ sameN (un.getD i ByteArray.empty) nm = true) ∨ (e = .returned (.int .i64 (-1)) ∧ ∀ i, i < m → sameN (un.getD i ByteArray.empty) nm = false)) ∧ Below w.heap.size w w'

set_option maxHeartbeats 400000 in
theorem indexOf_any (w : World) (g m cap : Nat) (un uv : List ByteArray) (nm : ByteArray) (F : FldAt w g m un uv) (hm : m ≤ 1048576) :
    Calls Try.prog 50 #[.int .u8 0, .slice (some ⟨g, 0, none⟩) m cap, .string nm] w (Found w m un nm) := by
  go_enter Try.func50, Try.ntmps50
  go_wp2
  go_loopw [11] (fun i wr => ∃ k : Nat, k ≤ m ∧ i = .int .i64 k ∧ Hid (∀ j, j < k → sameN (un.getD j ByteArray.empty) nm = false) ∧ Below w.heap.size w wr) (fun i _ => m - (intOf i).toNat)
  case atStart => exact ⟨0, Nat.zero_le _, rfl, fun j hj => by omega, Below.refl _ _⟩
  case round =>
    obtain ⟨k, hk, rfl, hno, hbw⟩ := hrel
    by_cases hlt : k < m
    · have F' := F.below hbw
      have hn := F'.name k hlt
      have hv := F'.value k hlt
      have hz := F'.size k hlt
      have hki : (k : Int) < (m : Int) := by omega
      have HS : Hid (∀ b, sameN (un.getD k ByteArray.empty) nm = b → (b = true → sameN (un.getD k ByteArray.empty) nm = true) ∧ (b = false → ∀ j, j < k + 1 → sameN (un.getD j ByteArray.empty) nm = false)) := by
        intro b hb
        refine ⟨fun h => by rw [hb, h], fun h j hj => ?_⟩
        by_cases hjk : j = k
        · subst hjk; rw [hb, h]
        · exact hno.out j (by omega)
      clear F' hno
      generalize hnk : un.getD k ByteArray.empty = s1 at *
      generalize uv.getD k ByteArray.empty = s2 at *
      have HNK : Hid (un.getD k ByteArray.empty = s1) := hnk
      clear hnk
      have HB : ∀ q, Below w.heap.size w ((wr.alloc (.cells #[.string s1, .string s2] 51)).drewN q) := fun q => below_drewN (hbw.alloc hbw.size _) q
      go_wp2_with fail
      refine (same_any s1 nm _ (by unfold maxLen; omega)).mono ?_
      rintro e w' ⟨rfl, q, rfl⟩
      cases hs : sameN s1 nm with
      | true =>
        have HT : Hid _ := (HS.out true hs).1 rfl
        clear HS
        go_wp2
        go_ret
        exact ⟨.inl ⟨k, hlt, rfl, by rw [HNK.out]; exact HT.out⟩, HB q⟩
      | false =>
        have HT : Hid _ := (HS.out false hs).2 rfl
        clear HS
        go_wp2
        go_roundw
        case rel => exact ⟨k + 1, by omega, by go_num, HT, HB q⟩
        case measure => simp [intOf]; omega
    · obtain rfl : k = m := by omega
      go_wp2
      go_ret
      exact ⟨.inr ⟨rfl, hno.out⟩, hbw⟩

end Go.Proofs.Qxb6001694a
