import Derived.Test.Qxb6001694aVb
import Derived.Laws.BitsLemmas
namespace Go.Proofs.Qxb6001694a
open Go.RowKit

theorem i64_and65535 (n : Int) : bits .and .i64 n 65535 = n % 65536 := by
  have h : (BitVec.ofInt 64 65535).toNat = 2 ^ 16 - 1 := by decide
  have key : (BitVec.ofInt 64 n &&& BitVec.ofInt 64 65535).toNat = (n % ((2 ^ 64 : Nat) : Int)).toNat % 2 ^ 16 := by
    rw [BitVec.toNat_and, BitVec.toNat_ofInt, h, Nat.and_two_pow_sub_one_eq_mod]
  show IntKind.i64.wrap ((BitVec.ofInt 64 n &&& BitVec.ofInt 64 65535).toNat : Nat) = n % 65536
  rw [key, IntKind.wrap_i64]
  omega

set_option maxHeartbeats 400000 in
theorem blen_any (w : World) (B : Nat) (lines : Bool) (ls : Int) (trim : Bool) (fo : Option Addr) (capf : Nat) (gs : List Nat) (lo : Option Addr) (n cap : Nat) (bs : List UInt8) (X : BufX w B lines ls trim fo capf gs lo n cap bs) (hbs : bs.length ≤ 4194304) :
    Calls Try.prog 48 #[.pointer (some ⟨B, 0, none⟩)] w fun e w' => e = .returned (.int .i64 bs.length) ∧ ∃ q, w' = w.drewN q := by
  have h0 := X.c0
  have h1 := X.c1
  have hq : gs.length ≤ 64 := by have := X.len; omega
  have hn : (n : Int) ≤ 65536 := by have h1 := X.room; have h2 := X.capb; omega
  have HL : Hid _ := X.len
  clear hbs
  go_enter Try.func48, Try.ntmps48
  go_wp2
  go_quiet (fail)
  go_wp2
  go_ret
  refine ⟨?_, nq, rfl⟩
  have e : (bs.length : Int) = (gs.length : Int) * 65536 + (n : Int) := by have := HL.out; omega
  rw [e]
  rfl

theorem BufX.fo_addr {w : World} {B : Nat} {lines : Bool} {ls : Int} {trim : Bool} {fo : Option Addr} {capf : Nat} {gs : List Nat} {lo : Option Addr} {n cap : Nat} {bs : List UInt8} (X : BufX w B lines ls trim fo capf gs lo n cap bs) (h : 0 < gs.length) : ∃ g, fo = some ⟨g, 0, none⟩ := by
  rcases X.full.2 with ⟨_, h0⟩ | ⟨g, c, cur, hv, _⟩
  · omega
  · simp only [Value.slice.injEq] at hv
    exact ⟨g, hv.1⟩

/-- What at answers: where the byte at i lies. -/
def AtB (w : World) (bs : List UInt8) (i : Nat) (e : Ending) (w' : World) : Prop :=
  ∃ b o, e = .returned (.pointer (some ⟨b, o, none⟩)) ∧ w.cell? ⟨b, o, none⟩ = some (.int .u8 ((bs.getD i 0).toNat : Int)) ∧ w = w'

theorem getD_drop (bs : List UInt8) (a r : Nat) : (bs.drop a).getD r 0 = bs.getD (a + r) 0 := by
  rw [List.getD_eq_getElem?_getD, List.getElem?_drop, List.getD_eq_getElem?_getD]

theorem getD_drop_take (bs : List UInt8) (a m r : Nat) (h : r < m) : ((bs.drop a).take m).getD r 0 = bs.getD (a + r) 0 := by
  rw [List.getD_eq_getElem?_getD, List.getElem?_take, if_pos h, List.getElem?_drop, List.getD_eq_getElem?_getD]

set_option maxHeartbeats 400000 in
theorem at_full (w : World) (B : Nat) (lines : Bool) (ls : Int) (trim : Bool) (fo : Option Addr) (capf : Nat) (gs : List Nat) (lo : Option Addr) (n cap : Nat) (bs : List UInt8) (X : BufX w B lines ls trim fo capf gs lo n cap bs) (hbs : bs.length ≤ 4194304)
    (i k r : Nat) (hi : i = k * 65536 + r) (hr : r < 65536) (hk : k < gs.length) :
    Calls Try.prog 45 #[.pointer (some ⟨B, 0, none⟩), .int .i64 i] w (AtB w bs i) := by
  have h0 := X.c0
  obtain ⟨gf, rfl⟩ := X.fo_addr (by omega)
  have hcf : w.cell? ⟨gf, k, none⟩ = some (.slice (some ⟨gs.getD k 0, 0, none⟩) 65536 65536) := by
    rw [X.full.cellAt k (by omega), List.getElem?_map, List.getElem?_eq_getElem hk, List.getD_eq_getElem?_getD, List.getElem?_eq_getElem hk]
    rfl
  have HC : Hid (w.cell? ⟨gs.getD k 0, r, none⟩ = some (.int .u8 ((bs.getD i 0).toNat : Int))) := by
    have hl := (X.chunk k hk).1
    rw [Nat.mul_one, vals_length] at hl
    have hc := (X.chunk k hk).cellAt r (by omega)
    rw [vals_at (by omega), getD_drop_take _ _ _ _ hr, ← hi] at hc
    exact hc
  have hdiv : (i : Int) / 65536 = (k : Int) := by omega
  have hand : bits .and .i64 (i : Int) 65535 = (r : Int) := by rw [i64_and65535]; omega
  have hkI : (k : Int) < (gs.length : Int) := by omega
  have hrI : (r : Int) < 65536 := by omega
  have hiI : (i : Int) ≤ 4194304 := by have := X.len; omega
  generalize gs.getD k 0 = gk at *
  generalize hN : 65536 = N at hcf
  have hrN : (r : Int) < (N : Int) := by omega
  clear hbs hi hr X hN
  go_enter Try.func45, Try.ntmps45
  go_wp2
  go_ret
  exact ⟨gk, r, rfl, HC.out, rfl⟩

set_option maxHeartbeats 400000 in
theorem at_last (w : World) (B : Nat) (lines : Bool) (ls : Int) (trim : Bool) (fo : Option Addr) (capf : Nat) (gs : List Nat) (lo : Option Addr) (n cap : Nat) (bs : List UInt8) (X : BufX w B lines ls trim fo capf gs lo n cap bs) (hbs : bs.length ≤ 4194304)
    (i r : Nat) (hi : i = gs.length * 65536 + r) (hr : r < n) :
    Calls Try.prog 45 #[.pointer (some ⟨B, 0, none⟩), .int .i64 i] w (AtB w bs i) := by
  have h0 := X.c0
  have h1 := X.c1
  have hrm := X.room
  have hcb := X.capb
  obtain ⟨g, rfl⟩ := X.addr (by omega)
  have HC : Hid (w.cell? ⟨g, r, none⟩ = some (.int .u8 ((bs.getD i 0).toNat : Int))) := by
    have hl := X.last.1
    rw [Nat.mul_one, vals_length] at hl
    have hc := X.last.cellAt r (by omega)
    rw [vals_at (by omega), getD_drop, ← hi] at hc
    exact hc
  have hdiv : (i : Int) / 65536 = (gs.length : Int) := by omega
  have hand : bits .and .i64 (i : Int) 65535 = (r : Int) := by rw [i64_and65535]; omega
  have hrI : (r : Int) < (n : Int) := by omega
  have hiI : (i : Int) ≤ 4194304 := by have := X.len; omega
  clear hbs hi X hrm hcb
  go_enter Try.func45, Try.ntmps45
  go_wp2
  go_ret
  exact ⟨g, r, rfl, HC.out, rfl⟩

/-- The whole of at. -/
theorem at_any (w : World) (B : Nat) (lines : Bool) (ls : Int) (trim : Bool) (fo : Option Addr) (capf : Nat) (gs : List Nat) (lo : Option Addr) (n cap : Nat) (bs : List UInt8) (X : BufX w B lines ls trim fo capf gs lo n cap bs) (hbs : bs.length ≤ 4194304)
    (i : Nat) (hi : i < bs.length) : Calls Try.prog 45 #[.pointer (some ⟨B, 0, none⟩), .int .i64 i] w (AtB w bs i) := by
  have hl := X.len
  by_cases hk : i < gs.length * 65536
  · exact at_full w B lines ls trim fo capf gs lo n cap bs X hbs i (i / 65536) (i % 65536) (by omega) (by omega) (by omega)
  · exact at_last w B lines ls trim fo capf gs lo n cap bs X hbs i (i - gs.length * 65536) (by omega) (by omega)

set_option maxHeartbeats 400000 in
theorem zzByteAt_any (w : World) (B : Nat) (lines : Bool) (ls : Int) (trim : Bool) (fo : Option Addr) (capf : Nat) (gs : List Nat) (lo : Option Addr) (n cap : Nat) (bs : List UInt8) (X : BufX w B lines ls trim fo capf gs lo n cap bs) (hbs : bs.length ≤ 4194304)
    (i : Nat) (hi : i < bs.length) : Calls Try.prog 37 #[.pointer (some ⟨B, 0, none⟩), .int .i64 i] w fun e w' => e = .returned (.int .u8 ((bs.getD i 0).toNat : Int)) ∧ w = w' := by
  have HB : Hid _ := hbs
  have HI : Hid _ := hi
  clear hbs hi
  go_enter Try.func37, Try.ntmps37
  go_wp2_with fail
  refine (at_any w B lines ls trim fo capf gs lo n cap bs X HB.out i HI.out).mono ?_
  rintro e w' ⟨b, o, rfl, hc, rfl⟩
  generalize hv : ((bs.getD i 0).toNat : Int) = v at hc
  have HV : Hid _ := hv
  clear hv
  go_wp2
  go_ret
  exact ⟨by rw [HV.out]; rfl, rfl⟩

set_option maxHeartbeats 400000 in
theorem vlen_any (w : World) (B : Nat) (lines : Bool) (ls : Int) (trim : Bool) (fo : Option Addr) (capf : Nat) (gs : List Nat) (lo : Option Addr) (n cap : Nat) (bs : List UInt8) (X : BufX w B lines ls trim fo capf gs lo n cap bs) (hbs : bs.length ≤ 4194304) :
    Calls Try.prog 44 #[.pointer (some ⟨B, 0, none⟩)] w fun e w' => e = .returned (.int .i64 bs.length) ∧ ∃ q, w' = w.drewN q := by
  have HB : Hid _ := hbs
  clear hbs
  go_enter Try.func44, Try.ntmps44
  go_wp2_with fail
  refine (blen_any w B lines ls trim fo capf gs lo n cap bs X HB.out).mono ?_
  rintro e w' ⟨rfl, q, rfl⟩
  go_wp2
  go_ret
  exact ⟨rfl, q, rfl⟩

set_option maxHeartbeats 400000 in
theorem zzLen_any (w : World) (B : Nat) (lines : Bool) (ls : Int) (trim : Bool) (fo : Option Addr) (capf : Nat) (gs : List Nat) (lo : Option Addr) (n cap : Nat) (bs : List UInt8) (X : BufX w B lines ls trim fo capf gs lo n cap bs) (hbs : bs.length ≤ 4194304) :
    Calls Try.prog 36 #[.pointer (some ⟨B, 0, none⟩)] w fun e w' => e = .returned (.int .i64 bs.length) ∧ ∃ q, w' = w.drewN q := by
  have HB : Hid _ := hbs
  clear hbs
  go_enter Try.func36, Try.ntmps36
  go_wp2_with fail
  refine (vlen_any w B lines ls trim fo capf gs lo n cap bs X HB.out).mono ?_
  rintro e w' ⟨rfl, q, rfl⟩
  go_wp2
  go_ret
  exact ⟨rfl, q, rfl⟩

end Go.Proofs.Qxb6001694a
