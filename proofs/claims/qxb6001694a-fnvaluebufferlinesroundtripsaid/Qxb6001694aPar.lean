import Derived.Test.Qxb6001694aSlm
namespace Go.Proofs.Qxb6001694a
open Go.RowKit

/-! ### the plain law: a line in parts is as the line -/

theorem leadN_append : ∀ (a b : List UInt8), leadN (a ++ b) = if leadN a = a.length then a.length + leadN b else leadN a
  | [], b => by simp [leadN]
  | c :: a, b => by
    have ih := leadN_append a b
    have hle := leadN_le a
    show (if blankB c then leadN (a ++ b) + 1 else 0) = _
    by_cases hc : blankB c = true
    · have e1 : leadN (c :: a) = leadN a + 1 := by show (if blankB c then leadN a + 1 else 0) = _; rw [if_pos hc]
      rw [if_pos hc, e1, ih, List.length_cons]
      by_cases h : leadN a = a.length
      · rw [if_pos h, if_pos (by omega)]; omega
      · rw [if_neg h, if_neg (by omega)]
    · have e1 : leadN (c :: a) = 0 := by show (if blankB c then leadN a + 1 else 0) = _; rw [if_neg hc]
      rw [if_neg hc, e1, if_neg (by simp)]

theorem wbytes_append (t : Bool) (a b : List UInt8) : wbytes t (a ++ b) = wbytes t a ++ wbytes (wtrim t a) b := by
  cases t with
  | false => rfl
  | true =>
    have hle := leadN_le a
    show (a ++ b).drop (leadN (a ++ b)) = a.drop (leadN a) ++ wbytes (true && decide (leadN a = a.length)) b
    rw [leadN_append]
    by_cases h : leadN a = a.length
    · rw [if_pos h, h]
      simp [wbytes, List.drop_append]
    · rw [if_neg h]
      simp [wbytes, h, List.drop_append_of_le_length hle]

theorem wtrim_append (t : Bool) (a b : List UInt8) : wtrim t (a ++ b) = wtrim (wtrim t a) b := by
  cases t with
  | false => rfl
  | true =>
    have hle := leadN_le a
    have hlb := leadN_le b
    show (true && decide (leadN (a ++ b) = (a ++ b).length)) = ((true && decide (leadN a = a.length)) && decide (leadN b = b.length))
    rw [leadN_append, List.length_append]
    by_cases h : leadN a = a.length
    · rw [if_pos h]
      simp [h]
    · rw [if_neg h]
      simp [h]
      omega

theorem three_parts (l : List UInt8) (i j : Nat) (hij : i ≤ j) : l = (l.take i ++ (l.drop i).take (j - i)) ++ l.drop j := by
  have h1 : l.drop i = (l.drop i).take (j - i) ++ (l.drop i).drop (j - i) := (List.take_append_drop _ _).symm
  have h2 : (l.drop i).drop (j - i) = l.drop j := by rw [List.drop_drop]; congr 1; omega
  rw [List.append_assoc, ← h2, ← h1, List.take_append_drop]

theorem parts_as_whole (lines : Bool) (lin : List UInt8) (i j : Nat) (hij : i ≤ j) :
    wbytes lines lin = (wbytes lines (lin.take i) ++ wbytes (wtrim lines (lin.take i)) ((lin.drop i).take (j - i))) ++ wbytes (wtrim (wtrim lines (lin.take i)) ((lin.drop i).take (j - i))) (lin.drop j) := by
  rw [congrArg (wbytes lines) (three_parts lin i j hij), wbytes_append, wbytes_append, wtrim_append]

/-! ### frames -/

theorem chain {w0 wk wn : World} {T T' : Nat → Prop} {B : Nat} (hb : Below B w0 wk) (hz : B ≤ wk.heap.size) (hT : ∀ k, T k → B ≤ k) (hO : Only T wk wn) (hT' : ∀ k, T' k → T k ∨ wk.heap.size ≤ k) :
    Below B w0 wn ∧ B ≤ wn.heap.size ∧ ∀ k, T' k → B ≤ k :=
  ⟨hb.trans (hO.below hz (fun k hk h => by have := hT k h; omega)), Nat.le_trans hz hO.size, fun k hk => by
    rcases hT' k hk with h | h
    · exact hT k h
    · omega⟩

theorem Byts.apart {w w' : World} {N B : Nat} {ao : Option Addr} {len cap : Nat} {bs : List UInt8} {T : Nat → Prop} (S : Byts w N ao len cap bs) (h : Only T w w') (hN : N ≤ B) (hT : ∀ k, T k → B ≤ k) : Byts w' N ao len cap bs :=
  S.only h (fun k hk ht => by have := hT k ht; omega)

theorem row_max {base g n cap : Nat} {xs : List Value} {u : World} (h : u.ownsRow base 5 1 (.slice (some ⟨g, 0, none⟩) n cap) n xs) : cap ≤ maxLen := by
  rcases h.2 with ⟨h', _⟩ | ⟨g', c', cur, h', _, _, _, hm, _⟩
  · simp at h'
  · simp only [Value.slice.injEq] at h'
    obtain ⟨_, _, rfl⟩ := h'
    exact hm

theorem sum_len (lines first : Bool) (pre lin : List UInt8) (a b : Nat) (h1 : pre.length = a) (h2 : lin.length = b) (ha : (a : Int) ≤ 524288) (hb : (b : Int) ≤ 524288) : ([] ++ sbytes lines true pre ++ sbytes lines first lin).length ≤ 4194304 := by
  have e1 := sbytes_len lines true pre
  have e2 := sbytes_len lines first lin
  simp only [List.length_append, List.length_nil]
  omega

set_option maxHeartbeats 2000000 in
theorem law4_in (w : World) (lines first : Bool) (a2 : Option Addr) (l2 c2 : Nat) (pre : List UInt8) (S2 : Byts w w.heap.size a2 l2 c2 pre) (a3 : Option Addr) (l3 c3 : Nat) (lin : List UInt8) (S3 : Byts w w.heap.size a3 l3 c3 lin) (i j : Nat)
    (h2 : (l2 : Int) ≤ 524288) (h3 : (l3 : Int) ≤ 524288) (hij : i ≤ j) (hj : j ≤ l3) :
    Calls Try.prog 4 #[.bool lines, .bool first, .slice a2 l2 c2, .slice a3 l3 c3, .int .i64 i, .int .i64 j] w fun e w' => e = .returned (.bool true) ∧ Below w.heap.size w w' := by
  have hm2 : l2 ≤ 9223372036854775807 := Nat.le_trans S2.hcap S2.hmax
  have hm3 : l3 ≤ 9223372036854775807 := Nat.le_trans S3.hcap S3.hmax
  have hijI : (i : Int) ≤ (j : Int) := by omega
  have hjI : (j : Int) ≤ (l3 : Int) := by omega
  go_enter Try.func4, Try.ntmps4
  go_wp2_with fail
  refine (zz18_any w lines first a2 l2 c2 (Nat.le_trans S2.hcap S2.hmax) a3 l3 c3 (Nat.le_trans S3.hcap S3.hmax) i j).mono ?_
  rintro e w' ⟨rfl, b, rfl⟩
  cases b with
  | false =>
    go_wp2
    go_ret
    exact ⟨rfl, Below.refl _ _⟩
  | true =>
    go_wp2_with fail
    refine (cloneBytes_any w _ a2 l2 c2 pre S2 (by omega)).mono ?_
    rintro e w1 ⟨aP, cP, rfl, SP, hb1⟩
    go_wp2_with fail
    refine (cloneBytes_any w1 _ a3 l3 c3 lin (S3.below hb1) (by omega)).mono ?_
    rintro e w2 ⟨aL, cL, rfl, SL, hb2⟩
    have SP2 := SP.below hb2
    have HLP : Hid (pre.length = l2) := SP.hlen
    have HLL : Hid (lin.length = l3) := SL.hlen
    have hcL := SL.hcap
    go_wp2_with fail
    refine (zzNew_any w2 lines).mono ?_
    rintro e w3 ⟨rfl, X3, hO3, hz3⟩
    have z1 := hb1.size
    have z2 := hb2.size
    have SP3 := (SP2.up z2).only (hO3 (fun _ => False)) (fun _ _ h => h)
    have SL3 := SL.only (hO3 (fun _ => False)) (fun _ _ h => h)
    have hb3 : Below w.heap.size w w3 := (hb1.trans (hb2.mono z1)).trans ((hO3 (fun _ => False)).below (by omega) (fun _ _ h => h))
    have hBw : w.heap.size ≤ w2.heap.size := by omega
    clear SP SL hb1 hb2 SP2 hO3 S2 S3
    generalize hB : w2.heap.size = B at *
    clear hB
    have C3 : Below B w3 w3 ∧ B ≤ w3.heap.size ∧ ∀ k, k = B → B ≤ k := ⟨Below.refl _ _, by omega, fun k hk => by omega⟩
    go_wp2_with fail
    refine (zzStartLine_any w3 B B (fun k => k = B) lines false true (fun _ => rfl) [] X3 aP l2 cP pre SP3 (Nat.le_refl _) (by rw [HLP.out]; simp; omega)).mono ?_
    rintro e w4 ⟨rfl, T4, X4, hO4, hT4⟩
    have SP4 := SP3.apart hO4 (Nat.le_refl _) C3.2.2
    have SL4 := SL3.apart hO4 (Nat.le_refl _) C3.2.2
    have C4 := chain C3.1 C3.2.1 C3.2.2 hO4 hT4
    clear SP3 SL3 X3 C3
    go_wp2_with fail
    refine (zzStartLine_any w4 B B T4 lines (wtrim lines pre) first (fun h => by subst h; rfl) _ X4 aL l3 cL lin SL4 (Nat.le_refl _) (by have := sbytes_len lines true pre; rw [HLP.out] at this; rw [HLL.out]; simp; omega)).mono ?_
    rintro e w5 ⟨rfl, T5, X5, hO5, hT5⟩
    have SP5 := SP4.apart hO5 (Nat.le_refl _) C4.2.2
    have SL5 := SL4.apart hO5 (Nat.le_refl _) C4.2.2
    have C5 := chain C4.1 C4.2.1 C4.2.2 hO5 hT5
    have hb5 : Below w.heap.size w w5 := hb3.trans (C5.1.mono hBw)
    clear SP4 SL4 X4 C4
    go_wp2_with fail
    refine (zzNew_any w5 lines).mono ?_
    rintro e w6 ⟨rfl, X6, hO6, hz6⟩
    have hBC : B ≤ w5.heap.size := C5.2.1
    have hC6b : Below w5.heap.size w5 w6 := (hO6 (fun _ => False)).below (Nat.le_refl _) (fun _ _ h => h)
    have SP6 := SP5.below hC6b
    have SL6 := SL5.below hC6b
    obtain ⟨C, hC⟩ : ∃ C, w5.heap.size = C := ⟨_, rfl⟩
    rw [hC] at X6 hz6 hBC hC6b
    rw [hC]
    have HC : Hid _ := hC
    clear hC hO6 SP5 SL5
    have C6 : Below C w5 w6 ∧ C ≤ w6.heap.size ∧ ∀ k, k = C → C ≤ k := ⟨hC6b, by omega, fun k hk => by omega⟩
    go_wp2_with fail
    refine (zzStartLine_any w6 B C (fun k => k = C) lines false true (fun _ => rfl) [] X6 aP l2 cP pre SP6 hBC (by rw [HLP.out]; simp; omega)).mono ?_
    rintro e w7 ⟨rfl, T7, X7, hO7, hT7⟩
    have SL7 := SL6.apart hO7 hBC C6.2.2
    have C7 := chain C6.1 C6.2.1 C6.2.2 hO7 hT7
    clear SP6 SL6 X6 C6 hC6b
    have hsA := fun w' => slice_to aL l3 cL i (by omega) w'
    have SA := SL7.head (k := i) (by omega)
    go_wp2_with fail
    refine (zzStartLine_any w7 B C T7 lines (wtrim lines pre) first (fun h => by subst h; rfl) _ X7 aL i cL _ SA hBC (by have := sbytes_len lines true pre; rw [HLP.out] at this; rw [SA.hlen]; simp; omega)).mono ?_
    rintro e w8 ⟨rfl, T8, X8, hO8, hT8⟩
    have SL8 := SL7.apart hO8 hBC C7.2.2
    have C8 := chain C7.1 C7.2.1 C7.2.2 hO8 hT8
    clear SL7 X7 C7 SA hsA
    obtain ⟨aM, hsM, SM⟩ := slice_mid SL8 i j hij hj
    have hlen8 : ([] ++ sbytes lines true pre ++ sbytes lines first (lin.take i)).length + ((lin.drop i).take (j - i)).length ≤ 4194304 := by
      have e1 := sum_len lines first pre (lin.take i) l2 i HLP.out (by rw [List.length_take, HLL.out]; omega) h2 (by omega)
      have e2 := sbytes_len lines true pre
      have e3 := sbytes_len lines first (lin.take i)
      rw [SM.hlen]
      rw [HLP.out] at e2
      rw [List.length_take, HLL.out] at e3
      simp only [List.length_append, List.length_nil] at e1 ⊢
      omega
    have HL8 : Hid _ := hlen8
    clear hlen8
    go_wp2_with fail
    refine (zzWriteLine_any w8 B C T8 lines (wtrim lines (lin.take i)) _ X8 aM (j - i) (cL - i) _ SM hBC HL8.out).mono ?_
    rintro e w9 ⟨rfl, T9, X9, hO9, hT9⟩
    have SL9 := SL8.apart hO9 hBC C8.2.2
    have C9 := chain C8.1 C8.2.1 C8.2.2 hO9 hT9
    have HL9 : Hid (([] ++ sbytes lines true pre ++ sbytes lines first (lin.take i) ++ wbytes (wtrim lines (lin.take i)) ((lin.drop i).take (j - i))).length + (lin.drop j).length ≤ 4194304) := by
      have e1 := HL8.out
      have e2 := wbytes_len (wtrim lines (lin.take i)) ((lin.drop i).take (j - i))
      unfold Hid
      rw [List.length_append, List.length_drop, HLL.out]
      rw [SM.hlen] at e1 e2
      have e3 := sbytes_len lines true pre
      have e4 := sbytes_len lines first (lin.take i)
      rw [HLP.out] at e3
      rw [List.length_take, HLL.out] at e4
      simp only [List.length_append, List.length_nil] at e1 ⊢
      omega
    clear SL8 X8 C8 SM hsM HL8
    obtain ⟨aR, hsR, SR⟩ := slice_from SL9 j hj
    go_wp2_with fail
    refine (zzWriteLine_any w9 B C T9 lines _ _ X9 aR (l3 - j) (cL - j) _ SR hBC HL9.out).mono ?_
    rintro e w10 ⟨rfl, T10, X10, hO10, hT10⟩
    have C10 := chain C9.1 C9.2.1 C9.2.2 hO10 hT10
    have hb10 : Below w5.heap.size w5 w10 := by rw [HC.out]; exact C10.1
    have XW := X5.below hb10
    have HBW : Hid (([] ++ sbytes lines true pre ++ sbytes lines first lin).length ≤ 4194304) := sum_len lines first pre lin l2 l3 HLP.out HLL.out h2 h3
    have HEQ : Hid ([] ++ sbytes lines true pre ++ sbytes lines first lin = [] ++ sbytes lines true pre ++ sbytes lines first (lin.take i) ++ wbytes (wtrim lines (lin.take i)) ((lin.drop i).take (j - i)) ++ wbytes (wtrim (wtrim lines (lin.take i)) ((lin.drop i).take (j - i))) (lin.drop j)) := by
      unfold Hid
      have e := parts_as_whole lines lin i j hij
      simp only [List.nil_append, sbytes, List.append_assoc] at e ⊢
      rw [e]
    have HBP : Hid (([] ++ sbytes lines true pre ++ sbytes lines first (lin.take i) ++ wbytes (wtrim lines (lin.take i)) ((lin.drop i).take (j - i)) ++ wbytes (wtrim (wtrim lines (lin.take i)) ((lin.drop i).take (j - i))) (lin.drop j)).length ≤ 4194304) := by
      unfold Hid
      rw [← HEQ.out]
      exact HBW.out
    generalize [] ++ sbytes lines true pre ++ sbytes lines first (lin.take i) ++ wbytes (wtrim lines (lin.take i)) ((lin.drop i).take (j - i)) ++ wbytes (wtrim (wtrim lines (lin.take i)) ((lin.drop i).take (j - i))) (lin.drop j) = bb2 at X10 HBP HEQ
    generalize [] ++ sbytes lines true pre ++ sbytes lines first lin = bb1 at XW HBW HEQ
    have hb10w : Below w.heap.size w w10 := hb5.trans (hb10.mono hb5.size)
    clear X9 X5 SL9 SR C9 C10 hsR hb10 HL9
    go_wp2_with fail
    refine (bufBytes_any w10 B T5 _ _ _ XW HBW.out).mono ?_
    rintro e w11 ⟨rfl, hown11, hb11⟩
    have X11 := X10.below hb11
    go_wp2_with fail
    refine (bufBytes_any w11 C T10 _ _ _ X11 HBP.out).mono ?_
    rintro e w12 ⟨rfl, hown12, hb12⟩
    have R11 := (Below.only hb12 (fun _ => False)).owns hown11 (fun _ _ h => h)
    have SA := byts_row (N := w12.heap.size) rfl (R11.lt _ rfl).2 (row_max R11) R11
    have SB := byts_row (N := w12.heap.size) rfl (hown12.lt _ rfl).2 (row_max hown12) hown12
    have hb12w : Below w.heap.size w w12 := (hb10w.trans (hb11.mono hb10w.size)).trans (hb12.mono (Nat.le_trans hb10w.size hb11.size))
    clear R11 hown11 hown12 hb11 hb12 X10 X11 XW
    go_wp2_with fail
    refine (sameBytes_any w12 _ _ _ _ _ _ _ _ _ _ SA SB).mono ?_
    rintro e w' ⟨rfl, q, rfl⟩
    rw [decide_eq_true HEQ.out]
    go_wp2
    go_ret
    exact ⟨rfl, below_drewN hb12w q⟩

set_option maxHeartbeats 1000000 in
theorem law4_out (w : World) (lines first : Bool) (a2 : Option Addr) (l2 c2 : Nat) (pre : List UInt8) (S2 : Byts w w.heap.size a2 l2 c2 pre) (a3 : Option Addr) (l3 c3 : Nat) (lin : List UInt8) (S3 : Byts w w.heap.size a3 l3 c3 lin) (i j : Int)
    (hc : ¬ ((l2 : Int) ≤ 524288 ∧ (l3 : Int) ≤ 524288 ∧ 0 ≤ i ∧ i ≤ j ∧ j ≤ (l3 : Int))) :
    Calls Try.prog 4 #[.bool lines, .bool first, .slice a2 l2 c2, .slice a3 l3 c3, .int .i64 i, .int .i64 j] w fun e w' => e = .returned (.bool true) ∧ Below w.heap.size w w' := by
  have hm2 : l2 ≤ 9223372036854775807 := Nat.le_trans S2.hcap S2.hmax
  have hm3 : l3 ≤ 9223372036854775807 := Nat.le_trans S3.hcap S3.hmax
  have HC : Hid _ := hc
  clear hc
  go_enter Try.func4, Try.ntmps4
  go_wp2_with fail
  refine (zz18_any w lines first a2 l2 c2 (Nat.le_trans S2.hcap S2.hmax) a3 l3 c3 (Nat.le_trans S3.hcap S3.hmax) i j).mono ?_
  rintro e w' ⟨rfl, b, rfl⟩
  cases b with
  | false =>
    go_wp2
    go_ret
    exact ⟨rfl, Below.refl _ _⟩
  | true =>
    by_cases h2 : (l2 : Int) ≤ 524288
    · by_cases h3 : (l3 : Int) ≤ 524288
      · go_wp2_with fail
        all_goals first
          | (go_ret; exact ⟨rfl, Below.refl _ _⟩)
          | exact absurd ⟨h2, h3, by omega, by omega, by omega⟩ HC.out
      · go_wp2
        go_ret
        exact ⟨rfl, Below.refl _ _⟩
    · go_wp2
      go_ret
      exact ⟨rfl, Below.refl _ _⟩

theorem law4 (w : World) (lines first : Bool) (a2 : Option Addr) (l2 c2 : Nat) (pre : List UInt8) (S2 : Byts w w.heap.size a2 l2 c2 pre) (a3 : Option Addr) (l3 c3 : Nat) (lin : List UInt8) (S3 : Byts w w.heap.size a3 l3 c3 lin) (i j : Int) :
    Calls Try.prog 4 #[.bool lines, .bool first, .slice a2 l2 c2, .slice a3 l3 c3, .int .i64 i, .int .i64 j] w fun e w' => e = .returned (.bool true) ∧ Below w.heap.size w w' := by
  by_cases hc : (l2 : Int) ≤ 524288 ∧ (l3 : Int) ≤ 524288 ∧ 0 ≤ i ∧ i ≤ j ∧ j ≤ (l3 : Int)
  · obtain ⟨h2, h3, hi, hij, hj⟩ := hc
    obtain ⟨ni, rfl⟩ := Int.eq_ofNat_of_zero_le hi
    obtain ⟨nj, rfl⟩ := Int.eq_ofNat_of_zero_le (Int.le_trans hi hij)
    exact law4_in w lines first a2 l2 c2 pre S2 a3 l3 c3 lin S3 ni nj h2 h3 (by omega) (by omega)
  · exact law4_out w lines first a2 l2 c2 pre S2 a3 l3 c3 lin S3 i j hc

end Go.Proofs.Qxb6001694a
