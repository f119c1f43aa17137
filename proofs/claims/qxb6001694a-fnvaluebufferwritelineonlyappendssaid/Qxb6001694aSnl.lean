import Derived.Test.Qxb6001694aSta
namespace Go.Proofs.Qxb6001694a
open Go.RowKit

/-- The line feed ahead of a line that is no first one. -/
def feed (first : Bool) : List UInt8 := if first then [] else [10]

theorem add_feed (w : World) (B : Nat) (lines : Bool) (ls : Int) (trim : Bool) (fo : Option Addr) (capf : Nat) (gs : List Nat) (lo : Option Addr) (n cap : Nat) (bs : List UInt8) (X : BufX w B lines ls trim fo capf gs lo n cap bs) (hbs : bs.length ≤ 4194304) :
    Calls Try.prog 47 #[.pointer (some ⟨B, 0, none⟩), .int .u8 10] w (Wrote w B lines ls trim fo lo gs (bs ++ [10])) :=
  add_any w B lines ls trim fo capf gs lo n cap bs X hbs 10

/-- The two stores of startNextLine. -/
theorem BufX.lined {w : World} {B : Nat} {lines : Bool} {ls : Int} {trim : Bool} {fo : Option Addr} {capf : Nat} {gs : List Nat} {lo : Option Addr} {n cap : Nat} {bs : List UInt8} (X : BufX w B lines ls trim fo capf gs lo n cap bs) (q : Nat) (t : Int) :
    BufX (((w.drewN q).setCell ⟨B, 3, none⟩ (.int .i64 t)).setCell ⟨B, 4, none⟩ (.bool lines)) B lines t lines fo capf gs lo n cap bs ∧
    Only (fpt B fo lo gs) w (((w.drewN q).setCell ⟨B, 3, none⟩ (.int .i64 t)).setCell ⟨B, 4, none⟩ (.bool lines)) :=
  ⟨((X.only (only_drewN (fun _ => False) w q) (fun _ _ h => h)).set3 t).set4 lines,
   ((only_drewN _ w q).trans (only_setCell (S := fpt B fo lo gs) (p := ⟨B, 3, none⟩) (.inl rfl) _)).trans (only_setCell (S := fpt B fo lo gs) (p := ⟨B, 4, none⟩) (.inl rfl) _)⟩

set_option maxHeartbeats 400000 in
theorem startNext_first (w : World) (N B : Nat) (T : Nat → Prop) (lines trim : Bool) (bs : List UInt8) (X : Buf w T B lines trim bs)
    (ao : Option Addr) (len c : Nat) (vs : List UInt8) (S : Byts w N ao len c vs) (hN : N ≤ B) (hbs : bs.length + vs.length ≤ 4194304) :
    Calls Try.prog 39 #[.pointer (some ⟨B, 0, none⟩), .bool true, .slice ao len c] w (Muted w T B lines (wtrim lines vs) (bs ++ wbytes lines vs)) := by
  obtain ⟨ls, fo, capf, gs, lo, n, cap, X, hT⟩ := X
  have h2 := X.c2
  have h3 := X.c3
  have h4 := X.c4
  have f3 := X.soft 3
  have f4 := X.soft 4
  have HBS : Hid _ := hbs
  have HB : Hid (bs.length ≤ 4194304) := by unfold Hid; omega
  clear hbs
  go_enter Try.func39, Try.ntmps39
  go_wp2_with fail
  refine (blen_any w B lines ls trim fo capf gs lo n cap bs X HB.out).mono ?_
  rintro e w' ⟨rfl, q, rfl⟩
  have P := X.lined q bs.length
  have S1 := S.only P.2 (fun i hi ht => by have := (X.lt i ht).2; omega)
  have XB : Buf _ (fpt B fo lo gs) B lines lines bs := ⟨_, fo, capf, gs, lo, n, cap, P.1, fun _ h => h⟩
  go_wp2_with fail
  refine (writeLine_any _ N B _ lines lines bs XB ao len c vs S1 hN HBS.out).mono ?_
  rintro e w1 ⟨rfl, h⟩
  have HM : Hid _ := muted_after (P.2.mono hT) (fun k hk => .inl (hT k hk)) h
  clear h P S1 XB h2 h3 h4 f3 f4
  go_wp2
  go_end0
  exact ⟨rfl, HM.out⟩

set_option maxHeartbeats 400000 in
theorem startNext_more (w : World) (N B : Nat) (T : Nat → Prop) (lines trim : Bool) (bs : List UInt8) (X : Buf w T B lines trim bs)
    (ao : Option Addr) (len c : Nat) (vs : List UInt8) (S : Byts w N ao len c vs) (hN : N ≤ B) (hbs : bs.length + vs.length + 1 ≤ 4194304) :
    Calls Try.prog 39 #[.pointer (some ⟨B, 0, none⟩), .bool false, .slice ao len c] w (Muted w T B lines (wtrim lines vs) ((bs ++ [10]) ++ wbytes lines vs)) := by
  obtain ⟨ls0, fo0, capf0, gs0, lo0, n0, cap0, X0, hT0⟩ := X
  have HBS : Hid ((bs ++ [10]).length + vs.length ≤ 4194304) := by unfold Hid; rw [List.length_append, List.length_singleton]; omega
  have HB0 : Hid (bs.length ≤ 4194304) := by unfold Hid; omega
  have HB : Hid ((bs ++ [10]).length ≤ 4194304) := by unfold Hid; rw [List.length_append, List.length_singleton]; omega
  clear hbs
  go_enter Try.func39, Try.ntmps39
  go_wp2_with fail
  refine (add_feed w B lines ls0 trim fo0 capf0 gs0 lo0 n0 cap0 bs X0 HB0.out).mono ?_
  rintro e w0 ⟨rfl, fo, capf, gs, lo, n, cap, X, hO0, hf0⟩
  have S0 := S.only hO0 (fun i hi ht => by have := (X0.lt i ht).2; omega)
  have h2 := X.c2
  have h3 := X.c3
  have h4 := X.c4
  have f3 := X.soft 3
  have f4 := X.soft 4
  go_wp2_with fail
  refine (blen_any w0 B lines ls0 trim fo capf gs lo n cap _ X HB.out).mono ?_
  rintro e w' ⟨rfl, q, rfl⟩
  have P := X.lined q ((bs.length : Int) + 1)
  have S1 := S0.only P.2 (fun i hi ht => by have := (X.lt i ht).2; omega)
  have XB : Buf _ (fpt B fo lo gs) B lines lines (bs ++ [10]) := ⟨_, fo, capf, gs, lo, n, cap, P.1, fun _ h => h⟩
  go_wp2_with fail
  refine (writeLine_any _ N B _ lines lines _ XB ao len c vs S1 hN HBS.out).mono ?_
  rintro e w1 ⟨rfl, h⟩
  have HM : Hid _ := muted_after (hO0.mono hT0) (fun k hk => Or.elim (hf0 k hk) (fun h => .inl (hT0 k h)) (fun h => .inr h)) (muted_after P.2 (fun k hk => .inl hk) h)
  clear h P S1 S0 XB h2 h3 h4 f3 f4
  go_wp2
  go_end0
  exact ⟨rfl, HM.out⟩

/-- What a line adds to the bytes. -/
def sbytes (lines first : Bool) (vs : List UInt8) : List UInt8 := feed first ++ wbytes lines vs

theorem sbytes_len (lines first : Bool) (vs : List UInt8) : (sbytes lines first vs).length ≤ vs.length + 1 := by
  have := wbytes_len lines vs
  unfold sbytes feed
  rw [List.length_append]
  split <;> simp <;> omega

/-- The whole of startNextLine. -/
theorem startNext_any (w : World) (N B : Nat) (T : Nat → Prop) (lines trim first : Bool) (bs : List UInt8) (X : Buf w T B lines trim bs)
    (ao : Option Addr) (len c : Nat) (vs : List UInt8) (S : Byts w N ao len c vs) (hN : N ≤ B) (hbs : bs.length + vs.length + 1 ≤ 4194304) :
    Calls Try.prog 39 #[.pointer (some ⟨B, 0, none⟩), .bool first, .slice ao len c] w (Muted w T B lines (wtrim lines vs) (bs ++ sbytes lines first vs)) := by
  cases first with
  | true => exact startNext_first w N B T lines trim bs X ao len c vs S hN (Nat.le_of_succ_le hbs)
  | false =>
    have e : bs ++ sbytes lines false vs = (bs ++ [10]) ++ wbytes lines vs := by simp [sbytes, feed]
    rw [e]
    exact startNext_more w N B T lines trim bs X ao len c vs S hN hbs

set_option maxHeartbeats 400000 in
theorem startLine_plain (w : World) (N B : Nat) (T : Nat → Prop) (bs : List UInt8) (X : Buf w T B false false bs)
    (ao : Option Addr) (len c : Nat) (vs : List UInt8) (S : Byts w N ao len c vs) (hN : N ≤ B) (hbs : bs.length + vs.length + 1 ≤ 4194304) :
    Calls Try.prog 35 #[.pointer (some ⟨B, 0, none⟩), .bool true, .slice ao len c] w (Muted w T B false false (bs ++ vs)) := by
  obtain ⟨ls, fo, capf, gs, lo, n, cap, X, hT⟩ := X
  have h2 := X.c2
  have HBS : Hid (bs.length + vs.length ≤ 4194304) := by unfold Hid; omega
  clear hbs
  go_enter Try.func35, Try.ntmps35
  go_wp2_with fail
  refine (write_any w N B false ls false fo capf gs lo n cap bs X ao len c vs S hN HBS.out).mono ?_
  rintro e w1 ⟨rfl, h⟩
  have HM : Hid _ := h.muted hT
  clear h h2
  go_wp2
  go_end0
  exact ⟨rfl, HM.out⟩

set_option maxHeartbeats 400000 in
theorem startLine_next (w : World) (N B : Nat) (T : Nat → Prop) (lines trim first : Bool) (hcase : (first && !lines) = false) (bs : List UInt8) (X : Buf w T B lines trim bs)
    (ao : Option Addr) (len c : Nat) (vs : List UInt8) (S : Byts w N ao len c vs) (hN : N ≤ B) (hbs : bs.length + vs.length + 1 ≤ 4194304) :
    Calls Try.prog 35 #[.pointer (some ⟨B, 0, none⟩), .bool first, .slice ao len c] w (Muted w T B lines (wtrim lines vs) (bs ++ sbytes lines first vs)) := by
  have XX := X
  obtain ⟨ls, fo, capf, gs, lo, n, cap, X, hT⟩ := X
  have h2 := X.c2
  have HBS : Hid _ := hbs
  clear hbs
  cases first with
  | false =>
    clear hcase
    go_enter Try.func35, Try.ntmps35
    go_wp2_with fail
    refine (startNext_any w N B T lines trim false bs XX ao len c vs S hN HBS.out).mono ?_
    rintro e w1 ⟨rfl, h⟩
    have HM : Hid _ := h
    clear h h2
    go_wp2
    go_end0
    exact ⟨rfl, HM.out⟩
  | true =>
    obtain rfl : lines = true := by simpa using hcase
    clear hcase
    go_enter Try.func35, Try.ntmps35
    go_wp2_with fail
    refine (startNext_any w N B T true trim true bs XX ao len c vs S hN HBS.out).mono ?_
    rintro e w1 ⟨rfl, h⟩
    have HM : Hid _ := h
    clear h h2
    go_wp2
    go_end0
    exact ⟨rfl, HM.out⟩

/-- The whole of startLine, of a buffer whose flag is off where values are not made line by line. -/
theorem startLine_any (w : World) (N B : Nat) (T : Nat → Prop) (lines trim first : Bool) (htr : lines = false → trim = false) (bs : List UInt8) (X : Buf w T B lines trim bs)
    (ao : Option Addr) (len c : Nat) (vs : List UInt8) (S : Byts w N ao len c vs) (hN : N ≤ B) (hbs : bs.length + vs.length + 1 ≤ 4194304) :
    Calls Try.prog 35 #[.pointer (some ⟨B, 0, none⟩), .bool first, .slice ao len c] w (Muted w T B lines (wtrim lines vs) (bs ++ sbytes lines first vs)) := by
  by_cases hc : (first && !lines) = false
  · exact startLine_next w N B T lines trim first hc bs X ao len c vs S hN hbs
  · have h1 : first = true ∧ lines = false := by revert hc; cases first <;> cases lines <;> simp
    obtain ⟨rfl, rfl⟩ := h1
    obtain rfl := htr rfl
    exact startLine_plain w N B T bs X ao len c vs S hN hbs

set_option maxHeartbeats 400000 in
theorem zzStartLine_any (w : World) (N B : Nat) (T : Nat → Prop) (lines trim first : Bool) (htr : lines = false → trim = false) (bs : List UInt8) (X : Buf w T B lines trim bs)
    (ao : Option Addr) (len c : Nat) (vs : List UInt8) (S : Byts w N ao len c vs) (hN : N ≤ B) (hbs : bs.length + vs.length + 1 ≤ 4194304) :
    Calls Try.prog 14 #[.pointer (some ⟨B, 0, none⟩), .bool first, .slice ao len c] w (Muted w T B lines (wtrim lines vs) (bs ++ sbytes lines first vs)) := by
  have HBS : Hid _ := hbs
  have HT : Hid _ := htr
  clear hbs htr
  go_enter Try.func14, Try.ntmps14
  go_wp2_with fail
  refine (startLine_any w N B T lines trim first HT.out bs X ao len c vs S hN HBS.out).mono ?_
  rintro e w1 ⟨rfl, h⟩
  have HM : Hid _ := h
  clear h
  go_wp2
  go_end0
  exact ⟨rfl, HM.out⟩

set_option maxHeartbeats 400000 in
theorem zzStartNext_any (w : World) (N B : Nat) (T : Nat → Prop) (lines trim first : Bool) (bs : List UInt8) (X : Buf w T B lines trim bs)
    (ao : Option Addr) (len c : Nat) (vs : List UInt8) (S : Byts w N ao len c vs) (hN : N ≤ B) (hbs : bs.length + vs.length + 1 ≤ 4194304) :
    Calls Try.prog 23 #[.pointer (some ⟨B, 0, none⟩), .bool first, .slice ao len c] w (Muted w T B lines (wtrim lines vs) (bs ++ sbytes lines first vs)) := by
  have HBS : Hid _ := hbs
  clear hbs
  go_enter Try.func23, Try.ntmps23
  go_wp2_with fail
  refine (startNext_any w N B T lines trim first bs X ao len c vs S hN HBS.out).mono ?_
  rintro e w1 ⟨rfl, h⟩
  have HM : Hid _ := h
  clear h
  go_wp2
  go_end0
  exact ⟨rfl, HM.out⟩

set_option maxHeartbeats 400000 in
theorem zzWriteLine_any (w : World) (N B : Nat) (T : Nat → Prop) (lines trim : Bool) (bs : List UInt8) (X : Buf w T B lines trim bs)
    (ao : Option Addr) (len c : Nat) (vs : List UInt8) (S : Byts w N ao len c vs) (hN : N ≤ B) (hbs : bs.length + vs.length ≤ 4194304) :
    Calls Try.prog 19 #[.pointer (some ⟨B, 0, none⟩), .slice ao len c] w (Muted w T B lines (wtrim trim vs) (bs ++ wbytes trim vs)) := by
  have HBS : Hid _ := hbs
  clear hbs
  go_enter Try.func19, Try.ntmps19
  go_wp2_with fail
  refine (writeLine_any w N B T lines trim bs X ao len c vs S hN HBS.out).mono ?_
  rintro e w1 ⟨rfl, h⟩
  have HM : Hid _ := h
  clear h
  go_wp2
  go_end0
  exact ⟨rfl, HM.out⟩

/-- A new buffer. -/
def NewBuf (w : World) (lines : Bool) (e : Ending) (w' : World) : Prop :=
  e = .returned (.pointer (some ⟨w.heap.size, 0, none⟩)) ∧ Buf w' (fun k => k = w.heap.size) w.heap.size lines false [] ∧ (∀ T : Nat → Prop, Only T w w') ∧ w'.heap.size = w.heap.size + 1

set_option maxHeartbeats 400000 in
theorem zzNew_any (w : World) (lines : Bool) : Calls Try.prog 13 #[.bool lines] w (NewBuf w lines) := by
  go_enter Try.func13, Try.ntmps13
  go_wp2
  go_ret
  refine ⟨rfl, ⟨0, none, 0, [], none, 0, 0, ⟨World.cell?_alloc_mark _ _ _ _ _, World.cell?_alloc_mark _ _ _ _ _, World.cell?_alloc_mark _ _ _ _ _, World.cell?_alloc_mark _ _ _ _ _, World.cell?_alloc_mark _ _ _ _ _, fun o => by simp, World.ownsRow_nil _ _ _ _, World.ownsRow_nil _ _ _ _, fun i hi => by simp at hi, rfl, Nat.le_refl _, Nat.zero_le _, fun g hg => by simp at hg⟩, fun k hk => ?_⟩, fun T => only_alloc T w _, by simp⟩
  rcases hk with hk | ⟨a, ha, _⟩ | ⟨a, ha, _⟩ | hk
  · exact hk
  · cases ha
  · cases ha
  · simp at hk

end Go.Proofs.Qxb6001694a
