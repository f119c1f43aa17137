import Derived.Test.Qxb6001694aWon
namespace Go.Proofs.Qxb6001694a
open Go.RowKit

/-- append of nothing to nil. -/
theorem wpList_append_nil_empty {P : Program} (w : World) {ops : Array Oper} {rest : List Oper} {o : Oper} {a : Act} {Q : Exit → Act → World → Prop}
    (hg : o.guard = none) (s x : Operand) (t : TypeId) (hop : o.op = Op.call { callee := Callee.builtin Builtin.append, args := #[s, x], argTypes := #[t, t] })
    (e : TypeId) (i : TypeInfo) (h1 : P.underlying t = some (.slice e)) (h2 : P.info? e = some i) (ao : Option Addr) (c : Nat) (hs : a.eval s = .slice none 0 0) (hx : a.eval x = .slice ao 0 c)
    (hK : wpList P ops Q rest (a.put o.dst (.slice none 0 0)) w) : wpList P ops Q (o :: rest) a w := by
  refine wpList_plain hg fun K hK' => ?_
  have hrun : (Builtin.append_ #[t, t] o.type #[.slice none 0 0, .slice ao 0 c]).run P w = .ok (.slice none 0 0) w := by
    cases ao with
    | none => simp [Builtin.append_, run_underlying h1, sizeOf, typeInfo, h2, Builtin.lenOf, Builtin.firstCells]
    | some ad => simp [Builtin.append_, run_underlying h1, sizeOf, typeInfo, h2, Builtin.lenOf, Builtin.firstCells, loadCells, loadCellsFrom]
  unfold Oper.wp
  simp [execOp, hop, resolve, invoke, builtin, hs, hx, hrun, Result.andThen]
  exact hK' _ _ hK

set_option maxHeartbeats 400000 in
theorem write_fits (w : World) (N B : Nat) (lines : Bool) (ls : Int) (trim : Bool) (fo : Option Addr) (capf : Nat) (gs : List Nat) (g n cap : Nat) (bs : List UInt8) (X : BufX w B lines ls trim fo capf gs (some ⟨g, 0, none⟩) n cap bs)
    (ao : Option Addr) (len c : Nat) (vs : List UInt8) (S : Byts w N ao len c vs) (hfit : (n : Int) + (len : Int) ≤ (cap : Int)) :
    Calls Try.prog 43 #[.pointer (some ⟨B, 0, none⟩), .slice ao len c] w (Wrote w B lines ls trim fo (some ⟨g, 0, none⟩) gs (bs ++ vs)) := by
  have h1 := X.c1
  have hcapI : (cap : Int) ≤ 65536 := by have := X.capb; omega
  obtain ⟨i0, hi, hz0, hz1, hz2⟩ := info_parts Try.info5b
  go_enter Try.func43, Try.ntmps43
  go_wp2_with fail
  go_quiet (fail)
  go_wp2_with (at_builtin; refine wpList_append_fits_any _ rfl _ _ 22 rfl (B + 1) 5 i0 1 Try.underlying22 hi hz1 g n cap _ rfl (by exact X.last) ao len c (vals vs) rfl (by rw [vals_length, S.hlen, Nat.mul_one]) (fun h => S.none_len h) (by exact S.src) (vals_one _) (by omega) ?_)
  intro w1 hown1 hg1
  have E := X.appended (m := len) (vs := vs) S.hlen (fun T => only_drewN T w nq) hg1 hown1
  have e1 := E.2.2.1
  have ef := E.2.2.2
  have HE : Hid _ := E.1
  have HO : Hid _ := E.2.1
  clear E hown1 hg1 hi hz0 hz1 hz2
  go_wp2
  go_end0
  exact ⟨rfl, fo, capf, gs, some ⟨g, 0, none⟩, n + len, cap, HE.out, HO.out, fun _ hk => .inl hk⟩

set_option maxHeartbeats 400000 in
theorem write_none (w : World) (N B : Nat) (lines : Bool) (ls : Int) (trim : Bool) (fo : Option Addr) (capf : Nat) (gs : List Nat) (bs : List UInt8) (X : BufX w B lines ls trim fo capf gs none 0 0 bs)
    (ao : Option Addr) (c : Nat) (vs : List UInt8) (S : Byts w N ao 0 c vs) :
    Calls Try.prog 43 #[.pointer (some ⟨B, 0, none⟩), .slice ao 0 c] w (Wrote w B lines ls trim fo none gs (bs ++ vs)) := by
  have h1 := X.c1
  have h2 := X.soft 1
  have HV : Hid (vs = []) := List.eq_nil_of_length_eq_zero S.hlen
  obtain ⟨i0, hi, hz0, hz1, hz2⟩ := info_parts Try.info5b
  go_enter Try.func43, Try.ntmps43
  go_wp2_with fail
  go_quiet (fail)
  go_wp2_with (at_builtin; refine wpList_append_nil_empty _ rfl _ _ 22 rfl 5 i0 Try.underlying22 hi ao c rfl rfl ?_)
  have XR := X.relast (w1 := w.drewN nq) (lo' := none) (n' := 0) (cap' := 0) (bs' := bs) (only_drewN _ w nq) X.last X.len (Nat.le_refl _) X.capb X.apart (fun _ _ => rfl)
  have HX : Hid _ := XR
  clear XR hi hz0 hz1 hz2
  go_wp2
  go_end0
  refine ⟨rfl, fo, capf, gs, none, 0, 0, ?_, ?_, fun _ hk => .inl hk⟩
  · rw [HV.out, List.append_nil]; exact HX.out
  · exact (only_drewN _ w nq).trans (only_setCell (S := fpt B fo none gs) (p := ⟨B, 1, none⟩) (.inl rfl) _)

set_option maxHeartbeats 400000 in
theorem write_on (w : World) (N B : Nat) (lines : Bool) (ls : Int) (trim : Bool) (fo : Option Addr) (capf : Nat) (gs : List Nat) (lo : Option Addr) (n cap : Nat) (bs : List UInt8) (X : BufX w B lines ls trim fo capf gs lo n cap bs)
    (ao : Option Addr) (len c : Nat) (vs : List UInt8) (S : Byts w N ao len c vs) (hN : N ≤ B) (hbs : bs.length + vs.length ≤ 4194304) (hfit : ¬ (n : Int) + (len : Int) ≤ (cap : Int)) :
    Calls Try.prog 43 #[.pointer (some ⟨B, 0, none⟩), .slice ao len c] w (Wrote w B lines ls trim fo lo gs (bs ++ vs)) := by
  have h1 := X.c1
  have hlenI : (len : Int) ≤ 4194304 := by have := S.hlen; omega
  have hcapI : (cap : Int) ≤ 65536 := by have := X.capb; omega
  have hnI : (n : Int) ≤ (cap : Int) := by have := X.room; omega
  have HBS : Hid _ := hbs
  have h0 : 0 < len := by omega
  clear hbs
  go_enter Try.func43, Try.ntmps43
  go_wp2_with fail
  go_quiet (fail)
  go_wp2_with fail
  refine (writeOn_any _ N B lines ls trim fo capf gs lo n cap bs (X.only (only_drewN (fun _ => False) w nq) (fun _ _ h => h)) ao len c vs (S.only (only_drewN (fun _ => False) w nq) (fun _ _ h => h)) hN h0 HBS.out).mono ?_
  rintro e w1 ⟨rfl, fo', capf', gs', lo', n', cap', X', hO, hf⟩
  go_wp2
  go_end0
  exact ⟨rfl, fo', capf', gs', lo', n', cap', X', (only_drewN _ w nq).trans hO, hf⟩

/-- The whole of write. -/
theorem write_any (w : World) (N B : Nat) (lines : Bool) (ls : Int) (trim : Bool) (fo : Option Addr) (capf : Nat) (gs : List Nat) (lo : Option Addr) (n cap : Nat) (bs : List UInt8) (X : BufX w B lines ls trim fo capf gs lo n cap bs)
    (ao : Option Addr) (len c : Nat) (vs : List UInt8) (S : Byts w N ao len c vs) (hN : N ≤ B) (hbs : bs.length + vs.length ≤ 4194304) :
    Calls Try.prog 43 #[.pointer (some ⟨B, 0, none⟩), .slice ao len c] w (Wrote w B lines ls trim fo lo gs (bs ++ vs)) := by
  by_cases hfit : (n : Int) + (len : Int) ≤ (cap : Int)
  · by_cases hc : 0 < cap
    · obtain ⟨g, rfl⟩ := X.addr hc
      exact write_fits w N B lines ls trim fo capf gs g n cap bs X ao len c vs S hfit
    · obtain rfl : cap = 0 := by omega
      obtain rfl : n = 0 := by omega
      obtain rfl : len = 0 := by omega
      cases lo with
      | none => exact write_none w N B lines ls trim fo capf gs bs X ao c vs S
      | some a =>
        obtain ⟨g, rfl, _, _⟩ := owns_addr X.last
        exact write_fits w N B lines ls trim fo capf gs g 0 0 bs X ao 0 c vs S hfit
  · exact write_on w N B lines ls trim fo capf gs lo n cap bs X ao len c vs S hN hbs hfit

end Go.Proofs.Qxb6001694a
