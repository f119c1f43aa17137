import Derived.Test.Qxb6001694aLin
namespace Go.Proofs.Qxb6001694a
open Go.RowKit

theorem add_zero_addr (a : Addr) : a.add 0 = a := by simp [Addr.add]

theorem size5_run (w : World) : (sizeOf (Try.prog.elem 22)).run Try.prog w = .ok 1 w := by kernel_rfl

/-- 'vs[k:]'. -/
theorem slice_from {w : World} {N : Nat} {ao : Option Addr} {len c : Nat} {vs : List UInt8} (S : Byts w N ao len c vs) (k : Nat) (hk : k ≤ len) :
    ∃ ao' : Option Addr, (∀ w' : World, (Instr.slice 22 (.slice ao len c) (some (.int .i64 (k : Int))) none none).run Try.prog w' = .ok (.slice ao' (len - k) (c - k)) w') ∧ Byts w N ao' (len - k) (c - k) (vs.drop k) := by
  have h1 := S.hlen
  have h2 := S.hcap
  have h3 := S.hmax
  refine ⟨if c = k then ao else ao.map (·.add k), fun w' => ?_, by rw [List.length_drop, h1], by omega, by omega, fun h => ?_, fun h0 => ?_⟩
  · rw [run_slice_l (P := Try.prog) w' 22 ao len c (by exact Try.underlying22) .i64 k (by omega) (by omega), size5_run]
    simp [Result.andThen, sliced]
  · have : ao = none := by
      split at h
      · exact h
      · simpa using h
    have := S.hnil this
    omega
  · obtain ⟨b, off, rfl, hb, hc⟩ := S.cells (by omega)
    refine ⟨b, off + k, by rw [if_neg (by omega)]; simp [Addr.add_lit], hb, fun i hi => ?_⟩
    rw [Nat.add_assoc, hc (k + i) (by omega), List.getD_eq_getElem?_getD, List.getD_eq_getElem?_getD, List.getElem?_drop]

/-- 'vs[:k]'. -/
theorem slice_to (ao : Option Addr) (len c k : Nat) (hk : k ≤ c) (w : World) : (Instr.slice 22 (.slice ao len c) none (some (.int .i64 (k : Int))) none).run Try.prog w = .ok (.slice ao k c) w := by
  rw [run_slice_h (P := Try.prog) w 22 ao len c (by exact Try.underlying22) .i64 k (by omega) (by omega), size5_run]
  cases ao with
  | none => simp [Result.andThen, sliced]
  | some a => simp [Result.andThen, sliced, add_zero_addr]

/-- 'vs[i:j]'. -/
theorem slice_mid {w : World} {N : Nat} {ao : Option Addr} {len c : Nat} {vs : List UInt8} (S : Byts w N ao len c vs) (i j : Nat) (hij : i ≤ j) (hj : j ≤ len) :
    ∃ ao' : Option Addr, (∀ w' : World, (Instr.slice 22 (.slice ao len c) (some (.int .i64 (i : Int))) (some (.int .i64 (j : Int))) none).run Try.prog w' = .ok (.slice ao' (j - i) (c - i)) w') ∧ Byts w N ao' (j - i) (c - i) ((vs.drop i).take (j - i)) := by
  obtain ⟨ao', _, S'⟩ := slice_from S i (by omega)
  have h2 := S.hcap
  have h3 := S.hmax
  have SH := S'.head (k := j - i) (by omega)
  have h1 := S.hlen
  refine ⟨if c = i then ao else ao.map (·.add i), fun w' => ?_, by rw [List.length_take, List.length_drop]; omega, by omega, by omega, fun h => ?_, fun h0 => ?_⟩
  · rw [run_slice_lh (P := Try.prog) w' 22 ao len c (by exact Try.underlying22) .i64 .i64 i j (by omega) (by omega) (by omega), size5_run]
    simp [Result.andThen, sliced]
  · have : ao = none := by
      split at h
      · exact h
      · simpa using h
    have := S.hnil this
    omega
  · obtain ⟨b, off, rfl, hb, hc⟩ := S.cells (by omega)
    refine ⟨b, off + i, by rw [if_neg (by omega)]; simp [Addr.add_lit], hb, fun t ht => ?_⟩
    rw [Nat.add_assoc, hc (i + t) (by omega), List.getD_eq_getElem?_getD, List.getD_eq_getElem?_getD, List.getElem?_take, if_pos ht, List.getElem?_drop]

/-- A value buffer at block B, its blocks in S. -/
def Buf (w : World) (S : Nat → Prop) (B : Nat) (lines trim : Bool) (bs : List UInt8) : Prop :=
  ∃ ls fo capf gs lo n cap, BufX w B lines ls trim fo capf gs lo n cap bs ∧ ∀ k, fpt B fo lo gs k → S k

/-- What a method that writes leaves. -/
def Muted (w : World) (S : Nat → Prop) (B : Nat) (lines trim : Bool) (bs : List UInt8) (e : Ending) (w' : World) : Prop :=
  e = .returned (.tuple #[]) ∧ ∃ S', Buf w' S' B lines trim bs ∧ Only S w w' ∧ ∀ k, S' k → S k ∨ w.heap.size ≤ k

theorem Stepped.muted {w : World} {B : Nat} {lines : Bool} {ls : Int} {trim : Bool} {fo lo : Option Addr} {gs : List Nat} {bs : List UInt8} {w' : World} {S : Nat → Prop} (h : Stepped w B lines ls trim fo lo gs bs w') (hS : ∀ k, fpt B fo lo gs k → S k) :
    ∃ S', Buf w' S' B lines trim bs ∧ Only S w w' ∧ ∀ k, S' k → S k ∨ w.heap.size ≤ k := by
  obtain ⟨fo', capf', gs', lo', n', cap', X, hO, hf⟩ := h
  exact ⟨fpt B fo' lo' gs', ⟨ls, fo', capf', gs', lo', n', cap', X, fun _ h => h⟩, hO.mono hS, fun k hk => Or.elim (hf k hk) (fun h => .inl (hS k h)) (fun h => .inr h)⟩

/-- A flag or the line's start is set. -/
theorem BufX.set4 {w : World} {B : Nat} {lines : Bool} {ls : Int} {trim : Bool} {fo : Option Addr} {capf : Nat} {gs : List Nat} {lo : Option Addr} {n cap : Nat} {bs : List UInt8} (X : BufX w B lines ls trim fo capf gs lo n cap bs) (t : Bool) :
    BufX (w.setCell ⟨B, 4, none⟩ (.bool t)) B lines ls t fo capf gs lo n cap bs := by
  have hset : Only (fun k => k = B) w (w.setCell ⟨B, 4, none⟩ (.bool t)) := only_setCell (S := fun k => k = B) (p := ⟨B, 4, none⟩) rfl _
  have key : ∀ {e s m : Nat} {v : Value} {xs : List Value}, w.ownsRow (B + 1) e s v m xs → (w.setCell ⟨B, 4, none⟩ (.bool t)).ownsRow (B + 1) e s v m xs := fun h => hset.owns h (fun k hk hB => by have := (h.lt k hk).1; omega)
  refine ⟨?_, ?_, ?_, ?_, World.cell?_setCell_same _ _ _ X.c4, fun o => ?_, key X.full, key X.last, fun i hi => key (X.chunk i hi), X.len, X.room, X.capb, X.apart⟩
  · rw [World.cell?_setCell_other _ _ _ _ (by simp)]; exact X.c0
  · rw [World.cell?_setCell_other _ _ _ _ (by simp)]; exact X.c1
  · rw [World.cell?_setCell_other _ _ _ _ (by simp)]; exact X.c2
  · rw [World.cell?_setCell_other _ _ _ _ (by simp)]; exact X.c3
  · rw [World.frozen?_setCell]; exact X.soft o

theorem BufX.set3 {w : World} {B : Nat} {lines : Bool} {ls : Int} {trim : Bool} {fo : Option Addr} {capf : Nat} {gs : List Nat} {lo : Option Addr} {n cap : Nat} {bs : List UInt8} (X : BufX w B lines ls trim fo capf gs lo n cap bs) (t : Int) :
    BufX (w.setCell ⟨B, 3, none⟩ (.int .i64 t)) B lines t trim fo capf gs lo n cap bs := by
  have hset : Only (fun k => k = B) w (w.setCell ⟨B, 3, none⟩ (.int .i64 t)) := only_setCell (S := fun k => k = B) (p := ⟨B, 3, none⟩) rfl _
  have key : ∀ {e s m : Nat} {v : Value} {xs : List Value}, w.ownsRow (B + 1) e s v m xs → (w.setCell ⟨B, 3, none⟩ (.int .i64 t)).ownsRow (B + 1) e s v m xs := fun h => hset.owns h (fun k hk hB => by have := (h.lt k hk).1; omega)
  refine ⟨?_, ?_, ?_, World.cell?_setCell_same _ _ _ X.c3, ?_, fun o => ?_, key X.full, key X.last, fun i hi => key (X.chunk i hi), X.len, X.room, X.capb, X.apart⟩
  · rw [World.cell?_setCell_other _ _ _ _ (by simp)]; exact X.c0
  · rw [World.cell?_setCell_other _ _ _ _ (by simp)]; exact X.c1
  · rw [World.cell?_setCell_other _ _ _ _ (by simp)]; exact X.c2
  · rw [World.cell?_setCell_other _ _ _ _ (by simp)]; exact X.c4
  · rw [World.frozen?_setCell]; exact X.soft o

/-- What writeLine does to the bytes and to the flag. -/
def wbytes (trim : Bool) (line : List UInt8) : List UInt8 := if trim then line.drop (leadN line) else line
def wtrim (trim : Bool) (line : List UInt8) : Bool := trim && decide (leadN line = line.length)

set_option maxHeartbeats 400000 in
theorem writeLine_plain (w : World) (N B : Nat) (T : Nat → Prop) (lines : Bool) (bs : List UInt8) (X : Buf w T B lines false bs)
    (ao : Option Addr) (len c : Nat) (vs : List UInt8) (S : Byts w N ao len c vs) (hN : N ≤ B) (hbs : bs.length + vs.length ≤ 4194304) :
    Calls Try.prog 38 #[.pointer (some ⟨B, 0, none⟩), .slice ao len c] w (Muted w T B lines false (bs ++ vs)) := by
  obtain ⟨ls, fo, capf, gs, lo, n, cap, X, hT⟩ := X
  have h4 := X.c4
  have HBS : Hid _ := hbs
  clear hbs
  go_enter Try.func38, Try.ntmps38
  go_wp2_with fail
  refine (write_any w N B lines ls false fo capf gs lo n cap bs X ao len c vs S hN HBS.out).mono ?_
  rintro e w1 ⟨rfl, h⟩
  have HM : Hid _ := h.muted hT
  clear h h4
  go_wp2
  go_end0
  exact ⟨rfl, HM.out⟩

set_option maxHeartbeats 400000 in
theorem writeLine_trim (w : World) (N B : Nat) (T : Nat → Prop) (lines : Bool) (bs : List UInt8) (X : Buf w T B lines true bs)
    (ao : Option Addr) (len c : Nat) (vs : List UInt8) (S : Byts w N ao len c vs) (hN : N ≤ B) (hbs : bs.length + vs.length ≤ 4194304) :
    Calls Try.prog 38 #[.pointer (some ⟨B, 0, none⟩), .slice ao len c] w (Muted w T B lines (decide (leadN vs = vs.length)) (bs ++ vs.drop (leadN vs))) := by
  obtain ⟨ls, fo, capf, gs, lo, n, cap, X, hT⟩ := X
  have h4 := X.c4
  have hf4 := X.soft 4
  have HBS : Hid _ := hbs
  have hle := leadN_le vs
  rw [S.hlen] at hle
  obtain ⟨ao', hsl, S'⟩ := slice_from S (leadN vs) hle
  have HLEN : Hid _ := S.hlen
  clear hbs
  generalize hk : leadN vs = k at *
  have HK : Hid _ := hk
  clear hk
  have HB2 : Hid (bs.length + (vs.drop k).length ≤ 4194304) := by have := HBS.out; rw [List.length_drop]; unfold Hid; omega
  by_cases hall : k = len
  · subst hall
    rw [Nat.sub_self] at S'
    have X4 := X.set4 true
    have O4 : Only (fpt B fo lo gs) w (w.setCell ⟨B, 4, none⟩ (.bool true)) := only_setCell (S := fpt B fo lo gs) (p := ⟨B, 4, none⟩) (.inl rfl) _
    have S4 := S'.only O4 (fun i hi ht => by have := (X.lt i ht).2; omega)
    go_enter Try.func38, Try.ntmps38
    go_wp2_with fail
    refine (blankStart_any w N ao k c vs S).mono ?_
    rintro e w' ⟨rfl, rfl⟩
    rw [HK.out]
    go_wp2_with fail
    refine (write_any _ N B lines ls true fo capf gs lo n cap bs X4 ao' 0 (c - k) (vs.drop k) S4 hN HB2.out).mono ?_
    rintro e w1 ⟨rfl, h⟩
    have HM : Hid _ := (Stepped.after O4 (fun _ h => .inl h) h).muted hT
    clear h h4 hf4 S4 X4 O4
    go_wp2
    go_end0
    refine ⟨rfl, ?_⟩
    have e : decide (k = vs.length) = true := by rw [HLEN.out]; simp
    rw [e]
    exact HM.out
  · have hz : (((len - k : Nat) : Int) == 0) = false := by rw [beq_eq_false_iff_ne]; omega
    have hz' : ¬ len ≤ k := by omega
    have hz'' : ¬ len - k = 0 := by omega
    have X4 := X.set4 false
    have O4 : Only (fpt B fo lo gs) w (w.setCell ⟨B, 4, none⟩ (.bool false)) := only_setCell (S := fpt B fo lo gs) (p := ⟨B, 4, none⟩) (.inl rfl) _
    have S4 := S'.only O4 (fun i hi ht => by have := (X.lt i ht).2; omega)
    go_enter Try.func38, Try.ntmps38
    go_wp2_with fail
    refine (blankStart_any w N ao len c vs S).mono ?_
    rintro e w' ⟨rfl, rfl⟩
    rw [HK.out]
    go_wp2_with fail
    refine (write_any _ N B lines ls false fo capf gs lo n cap bs X4 ao' (len - k) (c - k) (vs.drop k) S4 hN HB2.out).mono ?_
    rintro e w1 ⟨rfl, h⟩
    have HM : Hid _ := (Stepped.after O4 (fun _ h => .inl h) h).muted hT
    clear h h4 hf4 S4 X4 O4
    go_wp2
    go_end0
    refine ⟨rfl, ?_⟩
    have e : decide (k = vs.length) = false := by rw [HLEN.out]; simpa using hall
    rw [e]
    exact HM.out

/-- The whole of writeLine. -/
theorem writeLine_any (w : World) (N B : Nat) (T : Nat → Prop) (lines trim : Bool) (bs : List UInt8) (X : Buf w T B lines trim bs)
    (ao : Option Addr) (len c : Nat) (vs : List UInt8) (S : Byts w N ao len c vs) (hN : N ≤ B) (hbs : bs.length + vs.length ≤ 4194304) :
    Calls Try.prog 38 #[.pointer (some ⟨B, 0, none⟩), .slice ao len c] w (Muted w T B lines (wtrim trim vs) (bs ++ wbytes trim vs)) := by
  cases trim with
  | false => exact writeLine_plain w N B T lines bs X ao len c vs S hN hbs
  | true =>
    have e : wtrim true vs = decide (leadN vs = vs.length) := by simp [wtrim]
    rw [e]
    exact writeLine_trim w N B T lines bs X ao len c vs S hN hbs

theorem wbytes_len (trim : Bool) (vs : List UInt8) : (wbytes trim vs).length ≤ vs.length := by
  unfold wbytes
  split
  · rw [List.length_drop]; omega
  · exact Nat.le_refl _

/-- Two methods one behind the other. -/
theorem muted_after {w w1 w2 : World} {T T1 : Nat → Prop} {B : Nat} {lines trim : Bool} {bs : List UInt8} (hO : Only T w w1) (hT : ∀ k, T1 k → T k ∨ w.heap.size ≤ k)
    (h : ∃ S', Buf w2 S' B lines trim bs ∧ Only T1 w1 w2 ∧ ∀ k, S' k → T1 k ∨ w1.heap.size ≤ k) : ∃ S', Buf w2 S' B lines trim bs ∧ Only T w w2 ∧ ∀ k, S' k → T k ∨ w.heap.size ≤ k := by
  obtain ⟨S', hb, hO2, hS⟩ := h
  refine ⟨S', hb, hO.after hO2 (fun i hi ht => ?_), fun k hk => ?_⟩
  · rcases hT i ht with h | h
    · exact h
    · omega
  · rcases hS k hk with h | h
    · exact hT k h
    · right; have := hO.size; omega

end Go.Proofs.Qxb6001694a
