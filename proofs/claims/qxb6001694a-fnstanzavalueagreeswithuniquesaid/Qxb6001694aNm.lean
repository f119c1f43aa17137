import Derived.Test.Qxb6001694aRows
import Derived.WalkKit
import Derived.WalkSpells
import Derived.WalkLawsBesides
import Derived.Deep.QuietTactic
import Derived.BigQuiet
namespace Go.Proofs.Qxb6001694a
open Go.RowKit

theorem ret_int {k : IntKind} {a b : Int} (h : a = b) : Ending.returned (.int k a) = .returned (.int k b) := by rw [h]
def foldI (c : Int) : Int := if 65 ≤ c ∧ c ≤ 90 then c + 32 else c

set_option maxHeartbeats 400000 in
theorem fold_any (c : Int) (w : World) (h0 : 0 ≤ c) (h1 : c ≤ 255) :
    Calls Try.prog 56 #[.int .u8 0, .int .u8 c] w fun e w' => e = .returned (.int .u8 (foldI c)) ∧ w' = w := by
  by_cases h2 : 65 ≤ c
  · by_cases h3 : c ≤ 90
    · have hf : foldI c = c + 32 := by unfold foldI; rw [if_pos ⟨h2, h3⟩]
      have HF : Hid (foldI c = c + 32) := hf
      clear hf
      go_enter Try.func56, Try.ntmps56
      go_wp2
      go_ret
      rw [HF.out]
      exact ⟨ret_int (by omega), rfl⟩
    · have hf : foldI c = c := by unfold foldI; rw [if_neg (by omega)]
      have HF : Hid (foldI c = c) := hf
      clear hf
      go_enter Try.func56, Try.ntmps56
      go_wp2
      go_ret
      rw [HF.out]
      exact ⟨rfl, rfl⟩
  · have hf : foldI c = c := by unfold foldI; rw [if_neg (by omega)]
    have HF : Hid (foldI c = c) := hf
    clear hf
    go_enter Try.func56, Try.ntmps56
    go_wp2
    go_ret
    rw [HF.out]
    exact ⟨rfl, rfl⟩

theorem fold_byte (c : UInt8) (w : World) :
    Calls Try.prog 56 #[.int .u8 0, .int .u8 c.toNat] w fun e w' => e = .returned (.int .u8 (foldI c.toNat)) ∧ w' = w :=
  fold_any _ w (by omega) (by have := c.toNat_lt; omega)

/-- The bytes of a name as the rule of deb822 compares them. -/
def keyL (s : ByteArray) : List Int := s.data.toList.map fun c => foldI c.toNat
def sameN (a b : ByteArray) : Bool := decide (keyL a = keyL b)

theorem foldI_bd (c : Int) (h0 : 0 ≤ c) (h1 : c ≤ 255) : 0 ≤ foldI c ∧ foldI c ≤ 255 := by
  unfold foldI; split <;> omega

theorem keyL_len (s : ByteArray) : (keyL s).length = s.size := by simp [keyL]

theorem keyL_at (s : ByteArray) (k : Nat) (h : k < s.size) : (keyL s)[k]? = some (foldI (s[k]).toNat) := by
  unfold keyL
  rw [List.getElem?_map, List.getElem?_eq_getElem (by simpa using h)]
  rfl

theorem drewN_more {w wr : World} (h : ∃ n, wr = w.drewN n) (m : Nat) : ∃ n, wr.drewN m = w.drewN n := by
  obtain ⟨n, rfl⟩ := h
  exact ⟨n + m, by rw [World.drewN_drewN]⟩

theorem take_eq_succ {l m : List Int} {k : Nat} (h : l.take k = m.take k) (h2 : l[k]? = m[k]?) : l.take (k + 1) = m.take (k + 1) := by
  rw [List.take_add_one, List.take_add_one, h, h2]

set_option maxHeartbeats 400000 in
theorem sameName_any (a b : ByteArray) (w : World) (ha : a.size ≤ maxLen) :
    Calls Try.prog 54 #[.int .u8 0, .string a, .string b] w fun e w' => e = .returned (.bool (sameN a b)) ∧ ∃ n, w' = w.drewN n := by
  unfold maxLen at ha
  by_cases hl : a.size = b.size
  · have hl0 : ((a.size : Int) != (b.size : Int)) = false := by simp [hl]
    have HL : Hid (a.size = b.size) := hl
    clear hl
    go_enter Try.func54, Try.ntmps54
    go_wp2
    go_loopw [15] (fun i wr => ∃ k : Nat, k ≤ a.size ∧ i = .int .i64 k ∧ Hid ((keyL a).take k = (keyL b).take k) ∧ Hid (∃ n, wr = w.drewN n)) (fun i _ => a.size - (intOf i).toNat)
    case atStart => exact ⟨0, Nat.zero_le _, rfl, rfl, 0, rfl⟩
    case round =>
      obtain ⟨k, hk, rfl, hpre, hw⟩ := hrel
      by_cases hlt : k < a.size
      · have hltb : k < b.size := by rw [← HL.out]; exact hlt
        go_wp2_with fail
        go_quiet ((go_at_call 56; exact Calls.quiet_of_same (fold_byte _ _)))
        by_cases he : foldI (a[k]).toNat = foldI (b[k]).toNat
        · have he0 : (foldI (a[k]).toNat != foldI (b[k]).toNat) = false := by simp [he]
          have HP : Hid ((keyL a).take (k + 1) = (keyL b).take (k + 1)) := take_eq_succ hpre.out (by rw [keyL_at a k hlt, keyL_at b k hltb, he])
          clear he hpre
          go_wp2
          go_roundw
          case rel => exact ⟨k + 1, by omega, by go_num, HP, drewN_more hw nq⟩
          case measure => simp [intOf] <;> omega
        · have he0 : (foldI (a[k]).toNat != foldI (b[k]).toNat) = true := by simp [he]
          have hf : sameN a b = false := by
            unfold sameN
            rw [decide_eq_false_iff_not]
            intro h
            have h1 := keyL_at a k hlt
            rw [h, keyL_at b k hltb] at h1
            simp only [Option.some.injEq] at h1
            exact he h1.symm
          have HF : Hid (sameN a b = false) := hf
          clear hf he hpre
          go_wp2
          go_ret
          rw [HF.out]
          exact ⟨rfl, drewN_more hw nq⟩
      · have hf : sameN a b = true := by
          unfold sameN
          rw [decide_eq_true_iff]
          have h := hpre.out
          rw [List.take_of_length_le (by rw [keyL_len]; omega), List.take_of_length_le (by rw [keyL_len, ← HL.out]; omega)] at h
          exact h
        have HF : Hid (sameN a b = true) := hf
        clear hf
        go_wp2
        go_ret
        rw [HF.out]
        exact ⟨rfl, hw⟩
  · have hl0 : ((a.size : Int) != (b.size : Int)) = true := by simp; omega
    have hf : sameN a b = false := by
      unfold sameN
      rw [decide_eq_false_iff_not]
      intro h
      apply hl
      rw [← keyL_len a, ← keyL_len b, h]
    have HF : Hid (sameN a b = false) := hf
    clear hf hl
    go_enter Try.func54, Try.ntmps54
    go_wp2
    go_ret
    rw [HF.out]
    exact ⟨rfl, 0, rfl⟩

set_option maxHeartbeats 400000 in
theorem same_any (a b : ByteArray) (w : World) (ha : a.size ≤ maxLen) :
    Calls Try.prog 49 #[.int .u8 0, .string a, .string b] w fun e w' => e = .returned (.bool (sameN a b)) ∧ ∃ n, w' = w.drewN n := by
  go_enter Try.func49, Try.ntmps49
  go_wp2_with fail
  refine (sameName_any a b w ha).mono ?_
  rintro e w1 ⟨rfl, n, rfl⟩
  go_wp2
  go_ret
  exact ⟨rfl, n, rfl⟩

/-- The greatest index below k at which a name the same as nm stands; -1 where there is none. -/
def lastIx (ks : List ByteArray) (nm : ByteArray) : Nat → Int
  | 0 => -1
  | k + 1 => if sameN (ks.getD k ByteArray.empty) nm then (k : Int) else lastIx ks nm k

/-- A stanza made by hand lies at block B: its fields, names and values, lie in block g. -/
structure StzAt (w : World) (B g cap : Nat) (ns vs : List ByteArray) : Prop where
  len : vs.length = ns.length
  bound : ns.length ≤ 1048576
  fields : w.cell? ⟨B, 0, none⟩ = some (.slice (some ⟨g, 0, none⟩) ns.length cap)
  rule : w.cell? ⟨B, 2, none⟩ = some (.int .u8 0)
  name : ∀ i, i < ns.length → w.cell? ⟨g, i * 2, none⟩ = some (.string (ns.getD i ByteArray.empty))
  value : ∀ i, i < ns.length → w.cell? ⟨g, i * 2 + 1, none⟩ = some (.string (vs.getD i ByteArray.empty))
  size : ∀ i, i < ns.length → (ns.getD i ByteArray.empty).size ≤ maxLen

theorem StzAt.quiet {w wr : World} {B g cap : Nat} {ns vs : List ByteArray} (S : StzAt w B g cap ns vs) (h : ∃ n, wr = w.drewN n) : StzAt wr B g cap ns vs := by
  obtain ⟨n, rfl⟩ := h
  exact ⟨S.len, S.bound, S.fields, S.rule, S.name, S.value, S.size⟩

set_option maxHeartbeats 400000 in
theorem last_any (w : World) (B g cap : Nat) (ns vs : List ByteArray) (nm : ByteArray) (S : StzAt w B g cap ns vs) :
    Calls Try.prog 40 #[.pointer (some ⟨B, 0, none⟩), .string nm] w fun e w' => e = .returned (.int .i64 (lastIx ns nm ns.length)) ∧ ∃ n, w' = w.drewN n := by
  have hfields := S.fields
  have hrule := S.rule
  have hbound := S.bound
  go_enter Try.func40, Try.ntmps40
  go_wp2
  go_loopw [5] (fun i wr => ∃ k : Nat, k ≤ ns.length ∧ i = .int .i64 ((k : Int) - 1) ∧ Hid (lastIx ns nm ns.length = lastIx ns nm k) ∧ Hid (∃ n, wr = w.drewN n)) (fun i _ => (intOf i + 1).toNat)
  case atStart => exact ⟨ns.length, Nat.le_refl _, rfl, rfl, 0, rfl⟩
  case round =>
    obtain ⟨k, hk, rfl, hpre, hw⟩ := hrel
    cases k with
    | zero =>
      go_wp2
      go_ret
      rw [hpre.out]
      exact ⟨rfl, hw⟩
    | succ k =>
      rw [show ((k + 1 : Nat) : Int) - 1 = (k : Int) from by omega]
      have S' := S.quiet hw
      have hf1 := S'.fields
      have hr1 := S'.rule
      have hn1 := S'.name k (by omega)
      have hz1 := S'.size k (by omega)
      have hki : (k : Int) < (ns.length : Int) := by omega
      have HN : Hid (lastIx ns nm ns.length = if sameN (ns.getD k ByteArray.empty) nm then (k : Int) else lastIx ns nm k) := hpre
      clear hfields hrule hpre S'
      generalize ns.getD k ByteArray.empty = nk at *
      go_wp2_with fail
      go_quiet ((go_at_call 49; exact Calls.quiet_of (same_any _ _ _ hz1)))
      cases hs : sameN nk nm with
      | true =>
        have HS : Hid (lastIx ns nm ns.length = (k : Int)) := by rw [HN.out, hs]; rfl
        clear HN
        go_wp2
        go_ret
        rw [HS.out]
        exact ⟨rfl, drewN_more hw nq⟩
      | false =>
        have HS : Hid (lastIx ns nm ns.length = lastIx ns nm k) := by rw [HN.out, hs]; rfl
        clear HN
        go_wp2
        go_roundw
        case rel => exact ⟨k, by omega, by go_num, HS, drewN_more hw nq⟩
        case measure => simp [intOf] <;> omega

theorem lastIx_lt (ks : List ByteArray) (nm : ByteArray) : ∀ k, lastIx ks nm k = -1 ∨ ∃ i : Nat, i < k ∧ lastIx ks nm k = i
  | 0 => .inl rfl
  | k + 1 => by
    unfold lastIx
    split
    · exact .inr ⟨k, by omega, rfl⟩
    · rcases lastIx_lt ks nm k with h | ⟨i, hi, h⟩
      · exact .inl h
      · exact .inr ⟨i, by omega, h⟩

/-- What Value answers: the value at the last match, and whether there is one. -/
def valOf (ns vs : List ByteArray) (nm : ByteArray) : ByteArray := if lastIx ns nm ns.length < 0 then ⟨#[]⟩ else vs.getD (lastIx ns nm ns.length).toNat ByteArray.empty
def hasOf (ns : List ByteArray) (nm : ByteArray) : Bool := decide (0 ≤ lastIx ns nm ns.length)

set_option maxHeartbeats 400000 in
theorem value_any (w : World) (B g cap : Nat) (ns vs : List ByteArray) (nm : ByteArray) (S : StzAt w B g cap ns vs) :
    Calls Try.prog 29 #[.pointer (some ⟨B, 0, none⟩), .string nm] w fun e w' => e = .returned (.tuple #[.string (valOf ns vs nm), .bool (hasOf ns nm)]) ∧ ∃ n, w' = w.drewN n := by
  rcases lastIx_lt ns nm ns.length with h | ⟨i, hi, h⟩
  · have HV : Hid (valOf ns vs nm = ⟨#[]⟩ ∧ hasOf ns nm = false) := by
      constructor
      · unfold valOf; rw [h]; rfl
      · unfold hasOf; rw [h]; rfl
    have HL : Hid _ := h
    clear h
    go_enter Try.func29, Try.ntmps29
    go_wp2_with fail
    refine (last_any w B g cap ns vs nm S).mono ?_
    rintro e w1 ⟨rfl, n, rfl⟩
    rw [HL.out]
    go_wp2
    go_ret2
    rw [HV.out.1, HV.out.2]
    exact ⟨rfl, n, rfl⟩
  · have HV : Hid (valOf ns vs nm = vs.getD i ByteArray.empty ∧ hasOf ns nm = true) := by
      constructor
      · unfold valOf; rw [h, if_neg (by omega)]; rfl
      · unfold hasOf; rw [h]; simp
    have HL : Hid _ := h
    have hki : (i : Int) < (ns.length : Int) := by omega
    have hf := S.fields
    have hv := S.value i hi
    clear h
    go_enter Try.func29, Try.ntmps29
    go_wp2_with fail
    refine (last_any w B g cap ns vs nm S).mono ?_
    rintro e w1 ⟨rfl, n, rfl⟩
    rw [HL.out]
    go_wp2
    go_ret2
    rw [HV.out.1, HV.out.2]
    exact ⟨rfl, n, rfl⟩

end Go.Proofs.Qxb6001694a
