import Derived.Test.Qxb6001694aAt
namespace Go.Proofs.Qxb6001694a
open Go.RowKit

/-- SPACE or TAB. -/
def blankB (c : UInt8) : Bool := c == 32 || c == 9
/-- How many SPACE and TAB lead. -/
def leadN : List UInt8 → Nat
  | [] => 0
  | c :: cs => if blankB c then leadN cs + 1 else 0

theorem leadN_le : ∀ l : List UInt8, leadN l ≤ l.length
  | [] => Nat.le_refl _
  | c :: cs => by
    unfold leadN
    split
    · have := leadN_le cs
      simp; exact this
    · exact Nat.zero_le _

theorem byte_ne {v : UInt8} {n : UInt8} (h : ¬ v = n) : ((v.toNat : Int) == (n.toNat : Int)) = false := by
  rw [beq_eq_false_iff_ne]
  intro e
  apply h
  apply UInt8.toNat_inj.1
  omega

theorem leadN_step {vs : List UInt8} {k : Nat} (hk : k < vs.length) : ((vs.getD k 0 = 32 ∨ vs.getD k 0 = 9) → leadN (vs.drop k) = leadN (vs.drop (k + 1)) + 1) ∧ (¬ (vs.getD k 0 = 32 ∨ vs.getD k 0 = 9) → leadN (vs.drop k) = 0) := by
  have e : vs.drop k = vs.getD k 0 :: vs.drop (k + 1) := by
    rw [List.drop_eq_getElem_cons hk, List.getD_eq_getElem?_getD, List.getElem?_eq_getElem hk]
    rfl
  have e2 : leadN (vs.drop k) = if blankB (vs.getD k 0) then leadN (vs.drop (k + 1)) + 1 else 0 := by
    rw [e]; rfl
  rw [e2]
  clear e e2
  generalize vs.getD k 0 = v
  constructor
  · intro h
    rw [if_pos]
    unfold blankB
    rcases h with h | h <;> simp [h]
  · intro h
    rw [if_neg]
    unfold blankB
    intro hb
    apply h
    simpa using hb

set_option maxHeartbeats 400000 in
theorem blankStart_any (w : World) (N : Nat) (ao : Option Addr) (len c : Nat) (vs : List UInt8) (S : Byts w N ao len c vs) :
    Calls Try.prog 46 #[.slice ao len c] w fun e w' => e = .returned (.int .i64 (leadN vs)) ∧ w = w' := by
  have hm : len ≤ 9223372036854775807 := Nat.le_trans S.hcap S.hmax
  go_enter Try.func46, Try.ntmps46
  go_wp2
  go_loop [3] (fun i => ∃ k : Nat, k ≤ len ∧ i = .int .i64 k ∧ Hid (leadN vs = k + leadN (vs.drop k))) (fun i => len - (intOf i).toNat)
  case atStart => exact ⟨0, Nat.zero_le _, rfl, by simp [Hid]⟩
  case round =>
    obtain ⟨k, hk, rfl, hld⟩ := hrel
    by_cases hlt : k < len
    · obtain ⟨b, off, rfl, _, hcell⟩ := S.cells (by omega)
      have hc := hcell k hlt
      have hs := leadN_step (vs := vs) (k := k) (by rw [S.hlen]; exact hlt)
      clear hcell
      generalize vs.getD k 0 = v at *
      by_cases h32 : v = 32
      · have t32 : ((v.toNat : Int) == 32) = true := by subst h32; rfl
        have HX : Hid (leadN vs = (k + 1) + leadN (vs.drop (k + 1))) := by have := hld.out; rw [hs.1 (.inl h32)] at this; unfold Hid; omega
        clear hs hld h32
        go_wp2
        go_round
        case rel => exact ⟨k + 1, by omega, by go_num, HX⟩
        case measure => simp [intOf]; omega
      · have t32 : ((v.toNat : Int) == 32) = false := byte_ne h32
        by_cases h9 : v = 9
        · have t9 : ((v.toNat : Int) == 9) = true := by subst h9; rfl
          have HX : Hid (leadN vs = (k + 1) + leadN (vs.drop (k + 1))) := by have := hld.out; rw [hs.1 (.inr h9)] at this; unfold Hid; omega
          clear hs hld h9 h32
          go_wp2
          go_round
          case rel => exact ⟨k + 1, by omega, by go_num, HX⟩
          case measure => simp [intOf]; omega
        · have t9 : ((v.toNat : Int) == 9) = false := byte_ne h9
          have HX : Hid (leadN vs = k) := by have := hld.out; rw [hs.2 (fun h => h.elim h32 h9)] at this; exact this
          clear hs hld h9 h32
          go_wp2
          go_ret
          rw [HX.out]
          exact ⟨rfl, rfl⟩
    · have HX : Hid (leadN vs = k) := by
        have h := hld.out
        rw [List.drop_eq_nil_of_le (by rw [S.hlen]; omega)] at h
        exact h
      clear hld
      go_wp2
      go_ret
      rw [HX.out]
      exact ⟨rfl, rfl⟩

set_option maxHeartbeats 400000 in
theorem lead_any (w : World) (N : Nat) (ao : Option Addr) (len c : Nat) (vs : List UInt8) (S : Byts w N ao len c vs) :
    Calls Try.prog 15 #[.slice ao len c] w fun e w' => e = .returned (.int .i64 (leadN vs)) ∧ w = w' := by
  have hm : len ≤ 9223372036854775807 := Nat.le_trans S.hcap S.hmax
  go_enter Try.func15, Try.ntmps15
  go_wp2
  go_loop [3] (fun i => ∃ k : Nat, k ≤ len ∧ i = .int .i64 k ∧ Hid (leadN vs = k + leadN (vs.drop k))) (fun i => len - (intOf i).toNat)
  case atStart => exact ⟨0, Nat.zero_le _, rfl, by simp [Hid]⟩
  case round =>
    obtain ⟨k, hk, rfl, hld⟩ := hrel
    by_cases hlt : k < len
    · obtain ⟨b, off, rfl, _, hcell⟩ := S.cells (by omega)
      have hc := hcell k hlt
      have hs := leadN_step (vs := vs) (k := k) (by rw [S.hlen]; exact hlt)
      clear hcell
      generalize vs.getD k 0 = v at *
      by_cases h32 : v = 32
      · have t32 : ((v.toNat : Int) == 32) = true := by subst h32; rfl
        have HX : Hid (leadN vs = (k + 1) + leadN (vs.drop (k + 1))) := by have := hld.out; rw [hs.1 (.inl h32)] at this; unfold Hid; omega
        clear hs hld h32
        go_wp2
        go_round
        case rel => exact ⟨k + 1, by omega, by go_num, HX⟩
        case measure => simp [intOf]; omega
      · have t32 : ((v.toNat : Int) == 32) = false := byte_ne h32
        by_cases h9 : v = 9
        · have t9 : ((v.toNat : Int) == 9) = true := by subst h9; rfl
          have HX : Hid (leadN vs = (k + 1) + leadN (vs.drop (k + 1))) := by have := hld.out; rw [hs.1 (.inr h9)] at this; unfold Hid; omega
          clear hs hld h9 h32
          go_wp2
          go_round
          case rel => exact ⟨k + 1, by omega, by go_num, HX⟩
          case measure => simp [intOf]; omega
        · have t9 : ((v.toNat : Int) == 9) = false := byte_ne h9
          have HX : Hid (leadN vs = k) := by have := hld.out; rw [hs.2 (fun h => h.elim h32 h9)] at this; exact this
          clear hs hld h9 h32
          go_wp2
          go_ret
          rw [HX.out]
          exact ⟨rfl, rfl⟩
    · have HX : Hid (leadN vs = k) := by
        have h := hld.out
        rw [List.drop_eq_nil_of_le (by rw [S.hlen]; omega)] at h
        exact h
      clear hld
      go_wp2
      go_ret
      rw [HX.out]
      exact ⟨rfl, rfl⟩

end Go.Proofs.Qxb6001694a
