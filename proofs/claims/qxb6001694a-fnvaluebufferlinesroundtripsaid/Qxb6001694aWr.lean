import Derived.Test.Qxb6001694aGrow
namespace Go.Proofs.Qxb6001694a
open Go.RowKit

/-- A slice of bytes that can be read, in a block below N: its elements are 'bs'. -/
structure Byts (w : World) (N : Nat) (ao : Option Addr) (len cap : Nat) (bs : List UInt8) : Prop where
  hlen : bs.length = len
  hcap : len ≤ cap
  hmax : cap ≤ maxLen
  hnil : ao = none → cap = 0
  cells : 0 < len → ∃ b off, ao = some ⟨b, off, none⟩ ∧ b < N ∧ ∀ i, i < len → w.cell? ⟨b, off + i, none⟩ = some (.int .u8 ((bs.getD i 0).toNat : Int))

theorem Byts.only {w w' : World} {N : Nat} {ao : Option Addr} {len cap : Nat} {bs : List UInt8} {T : Nat → Prop} (S : Byts w N ao len cap bs) (h : Only T w w') (hT : ∀ k, k < N → ¬ T k) : Byts w' N ao len cap bs :=
  ⟨S.hlen, S.hcap, S.hmax, S.hnil, fun h0 => by
    obtain ⟨b, off, ha, hb, hc⟩ := S.cells h0
    exact ⟨b, off, ha, hb, fun i hi => h.cell (hc i hi) (hT b hb)⟩⟩

theorem Byts.none_len {w : World} {N : Nat} {ao : Option Addr} {len cap : Nat} {bs : List UInt8} (S : Byts w N ao len cap bs) (h : ao = none) : len = 0 ∧ cap = 0 := by
  have := S.hnil h
  have := S.hcap
  omega

theorem Byts.src {w : World} {N : Nat} {ao : Option Addr} {len cap : Nat} {bs : List UInt8} (S : Byts w N ao len cap bs) : ∀ ad, ao = some ad → ∀ j u, (vals bs)[j]? = some u → w.cell? (ad.add j) = some u := by
  intro ad had j u hu
  have hj : j < len := by
    have := (List.getElem?_eq_some_iff.1 hu).1
    rw [vals_length, S.hlen] at this
    exact this
  obtain ⟨b, off, ha, _, hc⟩ := S.cells (by omega)
  rw [ha] at had
  obtain rfl := Option.some.inj had
  rw [vals_at (by rw [S.hlen]; exact hj)] at hu
  rw [Addr.add_lit, hc j hj, hu]

section
variable {w : World} {B : Nat} {lines : Bool} {ls : Int} {trim : Bool} {fo : Option Addr} {capf : Nat} {gs : List Nat} {lo : Option Addr} {n cap : Nat} {bs : List UInt8}

theorem chunk_keep {bs vs : List UInt8} {a b : Nat} (h : a + b ≤ bs.length) : ((bs ++ vs).drop a).take b = (bs.drop a).take b := by
  rw [List.drop_append_of_le_length (by omega), List.take_append_of_le_length (by rw [List.length_drop]; omega)]

theorem chunk_append {bs vs : List UInt8} {q i : Nat} (h : q * 65536 ≤ bs.length) (hi : i < q) : ((bs ++ vs).drop (i * 65536)).take 65536 = (bs.drop (i * 65536)).take 65536 := by
  apply chunk_keep
  rw [← Nat.succ_mul]
  exact Nat.le_trans (Nat.mul_le_mul_right _ hi) h

/-- BEHIND AN APPEND WITHIN THE LAST BLOCK's CAPACITY, and the store of the slice. -/
theorem BufX.appended {g : Nat} (X : BufX w B lines ls trim fo capf gs (some ⟨g, 0, none⟩) n cap bs) {w0 w1 : World} {vs : List UInt8} {m : Nat} (hm : vs.length = m) (h0 : ∀ S : Nat → Prop, Only S w w0)
    (hg : w0.grownBy w1 (some g)) (hown : w1.ownsRow (B + 1) 5 1 (.slice (some ⟨g, 0, none⟩) (n + m) cap) (n + m) (vals (bs.drop (gs.length * 65536)) ++ vals vs)) :
    BufX (w1.setCell ⟨B, 1, none⟩ (.slice (some ⟨g, 0, none⟩) (n + m) cap)) B lines ls trim fo capf gs (some ⟨g, 0, none⟩) (n + m) cap (bs ++ vs) ∧
    Only (fpt B fo (some ⟨g, 0, none⟩) gs) w (w1.setCell ⟨B, 1, none⟩ (.slice (some ⟨g, 0, none⟩) (n + m) cap)) ∧ (w1.cell? ⟨B, 1, none⟩ = some (.slice (some ⟨g, 0, none⟩) n cap) ∧ w1.frozen? ⟨B, 1, none⟩ = false) := by
  have O1 : Only (fun k => ∃ a : Addr, some (⟨g, 0, none⟩ : Addr) = some a ∧ a.block = k) w w1 := (h0 _).trans (only_grown hg (fun k hk => ⟨_, rfl, Option.some.inj hk⟩))
  have hBg : ¬ ∃ a : Addr, some (⟨g, 0, none⟩ : Addr) = some a ∧ a.block = B := by
    rintro ⟨a, ha, hb⟩
    obtain rfl := Option.some.inj ha
    have := (X.last.lt g rfl).1
    simp at hb
    omega
  have hq : gs.length * 65536 ≤ bs.length := by have := X.len; omega
  have hfit : n + m ≤ cap := by
    rcases hown.2 with ⟨h, _⟩ | ⟨g', c', cur, h, _, _, hle, _⟩
    · simp at h
    · simp only [Value.slice.injEq] at h
      omega
  refine ⟨X.relast O1 ?_ ?_ hfit X.capb X.apart (fun i hi => chunk_append hq hi), (O1.mono (fun k hk => .inr (.inr (.inl hk)))).trans (only_setCell (S := fpt B fo (some ⟨g, 0, none⟩) gs) (p := ⟨B, 1, none⟩) (.inl rfl) _), O1.cell X.c1 hBg, ?_⟩
  · rw [List.drop_append_of_le_length hq, vals_append]
    exact hown
  · rw [List.length_append, X.len, hm, Nat.add_assoc]
  · rw [World.frozen?_of_block (a := ⟨B, 1, none⟩) (O1.block B X.Blt hBg)]
    exact X.soft 1

end

/-- What a write leaves. -/
def Wrote (w : World) (B : Nat) (lines : Bool) (ls : Int) (trim : Bool) (fo lo : Option Addr) (gs : List Nat) (bs' : List UInt8) (e : Ending) (w' : World) : Prop :=
  e = .returned (.tuple #[]) ∧ Stepped w B lines ls trim fo lo gs bs' w'

/-- Two steps on a buffer. -/
theorem Stepped.after {w w1 : World} {B : Nat} {lines : Bool} {ls : Int} {trim : Bool} {fo lo fo1 lo1 : Option Addr} {gs gs1 : List Nat} {bs : List UInt8} {w2 : World}
    (hO : Only (fpt B fo lo gs) w w1) (hf : ∀ k, fpt B fo1 lo1 gs1 k → fpt B fo lo gs k ∨ w.heap.size ≤ k) (h : Stepped w1 B lines ls trim fo1 lo1 gs1 bs w2) : Stepped w B lines ls trim fo lo gs bs w2 := by
  obtain ⟨fo', capf', gs', lo', n', cap', X, hO2, hf2⟩ := h
  refine ⟨fo', capf', gs', lo', n', cap', X, hO.after hO2 (fun i hi ht => ?_), fun k hk => ?_⟩
  · rcases hf i ht with h | h
    · exact h
    · omega
  · rcases hf2 k hk with h | h
    · exact hf k h
    · right
      have := hO.size
      omega

set_option maxHeartbeats 400000 in
theorem add_room (w : World) (B : Nat) (lines : Bool) (ls : Int) (trim : Bool) (fo : Option Addr) (capf : Nat) (gs : List Nat) (g n cap : Nat) (bs : List UInt8) (X : BufX w B lines ls trim fo capf gs (some ⟨g, 0, none⟩) n cap bs) (hlt : n < cap) (c : UInt8) :
    Calls Try.prog 47 #[.pointer (some ⟨B, 0, none⟩), .int .u8 c.toNat] w (Wrote w B lines ls trim fo (some ⟨g, 0, none⟩) gs (bs ++ [c])) := by
  have h1 := X.c1
  have hne : ((n : Int) == (cap : Int)) = false := by rw [beq_eq_false_iff_ne]; omega
  have hne' : (n == cap) = false := by rw [beq_eq_false_iff_ne]; omega
  obtain ⟨i0, hi, hz0, hz1, hz2⟩ := info_parts Try.info5b
  go_enter Try.func47, Try.ntmps47
  go_wp2_with fail
  go_quiet (fail)
  go_wp2_with (at_builtin; refine wpList_append_fits _ rfl _ _ 22 rfl (B + 1) 5 i0 1 Try.underlying22 hi hz1 g n cap _ rfl (by exact X.last.alloc _) ⟨w.heap.size, 0, none⟩ 1 1 (vals [c]) rfl rfl (by exact cell_one_new _ _ _) (vals_one _) (by omega) ?_)
  intro w1 hown1 hg1
  have E := X.appended (m := 1) (vs := [c]) rfl (fun S => (only_alloc S w _).trans (only_drewN S _ nq)) hg1 hown1
  have e1 := E.2.2.1
  have ef := E.2.2.2
  have HE : Hid _ := E.1
  have HO : Hid _ := E.2.1
  clear E hown1 hg1 hi hz0 hz1 hz2
  go_wp2
  go_end0
  exact ⟨rfl, fo, capf, gs, some ⟨g, 0, none⟩, n + 1, cap, HE.out, HO.out, fun k hk => .inl hk⟩

theorem BufX.addr {w : World} {B : Nat} {lines : Bool} {ls : Int} {trim : Bool} {fo : Option Addr} {capf : Nat} {gs : List Nat} {lo : Option Addr} {n cap : Nat} {bs : List UInt8} (X : BufX w B lines ls trim fo capf gs lo n cap bs) (h : 0 < cap) : ∃ g, lo = some ⟨g, 0, none⟩ := by
  rcases X.last.2 with ⟨hv, _⟩ | ⟨g, c, cur, hv, _⟩
  · simp only [Value.slice.injEq] at hv
    omega
  · simp only [Value.slice.injEq] at hv
    exact ⟨g, hv.1⟩

set_option maxHeartbeats 400000 in
theorem add_full (w : World) (B : Nat) (lines : Bool) (ls : Int) (trim : Bool) (fo : Option Addr) (capf : Nat) (gs : List Nat) (lo : Option Addr) (n : Nat) (bs : List UInt8) (X : BufX w B lines ls trim fo capf gs lo n n bs) (hbs : bs.length ≤ 4194304) (c : UInt8) :
    Calls Try.prog 47 #[.pointer (some ⟨B, 0, none⟩), .int .u8 c.toNat] w (Wrote w B lines ls trim fo lo gs (bs ++ [c])) := by
  have h1 := X.c1
  have HBS : Hid _ := hbs
  clear hbs
  obtain ⟨i0, hi, hz0, hz1, hz2⟩ := info_parts Try.info5b
  go_enter Try.func47, Try.ntmps47
  go_wp2_with fail
  go_quiet (fail)
  go_wp2_with fail
  have XQ := X.only (only_drewN (fun _ => False) w nq) (fun _ _ h => h)
  refine (grow_any _ B lines ls trim fo capf gs lo n bs XQ HBS.out).mono ?_
  rintro e w2 ⟨rfl, fo', capf', gs', lo', n', cap', ⟨X2, hlt⟩, hO, hf⟩
  obtain ⟨g, rfl⟩ := X2.addr (by omega)
  have k1 := X2.c1
  clear h1
  go_wp2_with (at_builtin; refine wpList_append_fits _ rfl _ _ 22 rfl (B + 1) 5 i0 1 Try.underlying22 hi hz1 g n' cap' _ rfl (by exact X2.last.alloc _) ⟨w2.heap.size, 0, none⟩ 1 1 (vals [c]) rfl rfl (by exact cell_one_new _ _ _) (vals_one _) (by omega) ?_)
  intro w3 hown3 hg3
  have E := X2.appended (m := 1) (vs := [c]) rfl (fun S => only_alloc S w2 _) hg3 hown3
  have e1 := E.2.2.1
  have ef := E.2.2.2
  have HE : Hid _ := E.1
  have HO : Hid _ := E.2.1
  clear E hown3 hg3 hi hz0 hz1 hz2
  go_wp2
  go_end0
  refine ⟨rfl, Stepped.after (w1 := w2) ((only_drewN _ w nq).trans hO) (fun k hk => ?_) ⟨fo', capf', gs', some ⟨g, 0, none⟩, n' + 1, cap', HE.out, HO.out, fun k hk => .inl hk⟩⟩
  exact hf k hk

/-- The whole of add. -/
theorem add_any (w : World) (B : Nat) (lines : Bool) (ls : Int) (trim : Bool) (fo : Option Addr) (capf : Nat) (gs : List Nat) (lo : Option Addr) (n cap : Nat) (bs : List UInt8) (X : BufX w B lines ls trim fo capf gs lo n cap bs) (hbs : bs.length ≤ 4194304) (c : UInt8) :
    Calls Try.prog 47 #[.pointer (some ⟨B, 0, none⟩), .int .u8 c.toNat] w (Wrote w B lines ls trim fo lo gs (bs ++ [c])) := by
  by_cases h : n < cap
  · obtain ⟨g, rfl⟩ := X.addr (by omega)
    exact add_room w B lines ls trim fo capf gs g n cap bs X h c
  · have e : cap = n := by have := X.room; omega
    subst e
    exact add_full w B lines ls trim fo capf gs lo cap bs X hbs c

end Go.Proofs.Qxb6001694a
