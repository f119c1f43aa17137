import Derived.Test.Qxb6001694aPar
namespace Go.Proofs.Qxb6001694a
open Go.RowKit

theorem sum_len3 (lines first t : Bool) (pre lin par : List UInt8) (a b c : Nat) (h1 : pre.length = a) (h2 : lin.length = b) (h3 : par.length = c) (ha : (a : Int) ≤ 262144) (hb : (b : Int) ≤ 262144) (hc : (c : Int) ≤ 262144) :
    ([] ++ sbytes lines true pre ++ sbytes lines first lin).length + par.length ≤ 4194304 ∧ ([] ++ sbytes lines true pre ++ sbytes lines first lin ++ wbytes t par).length ≤ 4194304 := by
  have e1 := sbytes_len lines true pre
  have e2 := sbytes_len lines first lin
  have e3 := wbytes_len t par
  simp only [List.length_append, List.length_nil]
  omega

set_option maxHeartbeats 2000000 in
theorem law6 (w : World) (lines first : Bool) (a2 : Option Addr) (l2 c2 : Nat) (pre : List UInt8) (S2 : Byts w w.heap.size a2 l2 c2 pre) (a3 : Option Addr) (l3 c3 : Nat) (lin : List UInt8) (S3 : Byts w w.heap.size a3 l3 c3 lin)
    (a4 : Option Addr) (l4 c4 : Nat) (par : List UInt8) (S4 : Byts w w.heap.size a4 l4 c4 par) :
    Calls Try.prog 6 #[.bool lines, .bool first, .slice a2 l2 c2, .slice a3 l3 c3, .slice a4 l4 c4] w fun e w' => e = .returned (.bool true) ∧ Below w.heap.size w w' := by
  have hm2 : l2 ≤ 9223372036854775807 := Nat.le_trans S2.hcap S2.hmax
  have hm3 : l3 ≤ 9223372036854775807 := Nat.le_trans S3.hcap S3.hmax
  have hm4 : l4 ≤ 9223372036854775807 := Nat.le_trans S4.hcap S4.hmax
  go_enter Try.func6, Try.ntmps6
  go_wp2_with fail
  refine (zz22_any w lines first a2 l2 c2 (Nat.le_trans S2.hcap S2.hmax) a3 l3 c3 (Nat.le_trans S3.hcap S3.hmax) a4 l4 c4 (Nat.le_trans S4.hcap S4.hmax)).mono ?_
  rintro e w' ⟨rfl, b, rfl⟩
  cases b with
  | false =>
    go_wp2
    go_ret
    exact ⟨rfl, Below.refl _ _⟩
  | true =>
    by_cases hc : (l2 : Int) ≤ 262144 ∧ (l3 : Int) ≤ 262144 ∧ (l4 : Int) ≤ 262144
    · obtain ⟨h2, h3, h4⟩ := hc
      go_wp2_with fail
      refine (cloneBytes_any w _ a2 l2 c2 pre S2 (by omega)).mono ?_
      rintro e w1 ⟨aP, cP, rfl, SP, hb1⟩
      go_wp2_with fail
      refine (cloneBytes_any w1 _ a3 l3 c3 lin (S3.below hb1) (by omega)).mono ?_
      rintro e w2 ⟨aL, cL, rfl, SL, hb2⟩
      have z1 := hb1.size
      have z2 := hb2.size
      have hb2w : Below w.heap.size w w2 := hb1.trans (hb2.mono z1)
      go_wp2_with fail
      refine (cloneBytes_any w2 _ a4 l4 c4 par (S4.below hb2w) (by omega)).mono ?_
      rintro e wq ⟨aQ, cQ, rfl, SQ, hbq⟩
      have zq := hbq.size
      have SP2 := ((SP.below hb2).up z2).below hbq
      have SL2 := SL.below hbq
      have HLP : Hid (pre.length = l2) := SP.hlen
      have HLL : Hid (lin.length = l3) := SL.hlen
      have HLQ : Hid (par.length = l4) := SQ.hlen
      go_wp2_with fail
      refine (zzNew_any wq lines).mono ?_
      rintro e w3 ⟨rfl, X3, hO3, hz3⟩
      have SP3 := (SP2.up zq).only (hO3 (fun _ => False)) (fun _ _ h => h)
      have SL3 := (SL2.up zq).only (hO3 (fun _ => False)) (fun _ _ h => h)
      have SQ3 := SQ.only (hO3 (fun _ => False)) (fun _ _ h => h)
      have hb3 : Below w.heap.size w w3 := (hb2w.trans (hbq.mono (by omega))).trans ((hO3 (fun _ => False)).below (by omega) (fun _ _ h => h))
      have hBw : w.heap.size ≤ wq.heap.size := by omega
      clear SP SL SQ hb1 hb2 SP2 SL2 hO3 S2 S3 S4 hb2w hbq
      generalize hB : wq.heap.size = B at *
      clear hB
      have C3 : Below B w3 w3 ∧ B ≤ w3.heap.size ∧ ∀ k, k = B → B ≤ k := ⟨Below.refl _ _, by omega, fun k hk => by omega⟩
      go_wp2_with fail
      refine (zzStartLine_any w3 B B (fun k => k = B) lines false true (fun _ => rfl) [] X3 aP l2 cP pre SP3 (Nat.le_refl _) (by rw [HLP.out]; simp; omega)).mono ?_
      rintro e w4 ⟨rfl, T4, X4, hO4, hT4⟩
      have SP4 := SP3.apart hO4 (Nat.le_refl _) C3.2.2
      have SL4 := SL3.apart hO4 (Nat.le_refl _) C3.2.2
      have SQ4 := SQ3.apart hO4 (Nat.le_refl _) C3.2.2
      have C4 := chain C3.1 C3.2.1 C3.2.2 hO4 hT4
      clear SP3 SL3 SQ3 X3 C3
      go_wp2_with fail
      refine (zzStartLine_any w4 B B T4 lines (wtrim lines pre) first (fun h => by subst h; rfl) _ X4 aL l3 cL lin SL4 (Nat.le_refl _) (by have := sbytes_len lines true pre; rw [HLP.out] at this; rw [HLL.out]; simp; omega)).mono ?_
      rintro e w5 ⟨rfl, T5, X5, hO5, hT5⟩
      have SP5 := SP4.apart hO5 (Nat.le_refl _) C4.2.2
      have SL5 := SL4.apart hO5 (Nat.le_refl _) C4.2.2
      have SQ5 := SQ4.apart hO5 (Nat.le_refl _) C4.2.2
      have C5 := chain C4.1 C4.2.1 C4.2.2 hO5 hT5
      clear SP4 SL4 SQ4 X4 C4
      have HS : Hid _ := sum_len3 lines first (wtrim lines lin) pre lin par l2 l3 l4 HLP.out HLL.out HLQ.out h2 h3 h4
      go_wp2_with fail
      refine (zzWriteLine_any w5 B B T5 lines (wtrim lines lin) _ X5 aQ l4 cQ par SQ5 (Nat.le_refl _) HS.out.1).mono ?_
      rintro e w6 ⟨rfl, T6, X6, hO6, hT6⟩
      have SP6 := SP5.apart hO6 (Nat.le_refl _) C5.2.2
      have SL6 := SL5.apart hO6 (Nat.le_refl _) C5.2.2
      have SQ6 := SQ5.apart hO6 (Nat.le_refl _) C5.2.2
      have C6 := chain C5.1 C5.2.1 C5.2.2 hO6 hT6
      have hb6 : Below w.heap.size w w6 := hb3.trans (C6.1.mono hBw)
      clear SP5 SL5 SQ5 X5 C5
      go_wp2_with fail
      refine (zzNew_any w6 lines).mono ?_
      rintro e w7 ⟨rfl, X7, hO7, hz7⟩
      have hBC : B ≤ w6.heap.size := C6.2.1
      have hC7b : Below w6.heap.size w6 w7 := (hO7 (fun _ => False)).below (Nat.le_refl _) (fun _ _ h => h)
      have SP7 := SP6.below hC7b
      have SL7 := SL6.below hC7b
      have SQ7 := SQ6.below hC7b
      obtain ⟨C, hC⟩ : ∃ C, w6.heap.size = C := ⟨_, rfl⟩
      rw [hC] at X7 hz7 hBC hC7b
      rw [hC]
      have HC : Hid _ := hC
      clear hC hO7 SP6 SL6 SQ6
      have C7 : Below C w6 w7 ∧ C ≤ w7.heap.size ∧ ∀ k, k = C → C ≤ k := ⟨hC7b, by omega, fun k hk => by omega⟩
      go_wp2_with fail
      refine (zzStartLine_any w7 B C (fun k => k = C) lines false true (fun _ => rfl) [] X7 aP l2 cP pre SP7 hBC (by rw [HLP.out]; simp; omega)).mono ?_
      rintro e w8 ⟨rfl, T8, X8, hO8, hT8⟩
      have SL8 := SL7.apart hO8 hBC C7.2.2
      have SQ8 := SQ7.apart hO8 hBC C7.2.2
      have C8 := chain C7.1 C7.2.1 C7.2.2 hO8 hT8
      clear SP7 SL7 SQ7 X7 C7 hC7b
      go_wp2_with fail
      refine (zzStartNext_any w8 B C T8 lines (wtrim lines pre) first _ X8 aL l3 cL lin SL8 hBC (by have := sbytes_len lines true pre; rw [HLP.out] at this; rw [HLL.out]; simp; omega)).mono ?_
      rintro e w9 ⟨rfl, T9, X9, hO9, hT9⟩
      have SQ9 := SQ8.apart hO9 hBC C8.2.2
      have C9 := chain C8.1 C8.2.1 C8.2.2 hO9 hT9
      clear SL8 SQ8 X8 C8
      go_wp2_with fail
      refine (zzWriteLine_any w9 B C T9 lines (wtrim lines lin) _ X9 aQ l4 cQ par SQ9 hBC HS.out.1).mono ?_
      rintro e w10 ⟨rfl, T10, X10, hO10, hT10⟩
      have C10 := chain C9.1 C9.2.1 C9.2.2 hO10 hT10
      have hb10 : Below w6.heap.size w6 w10 := by rw [HC.out]; exact C10.1
      have XW := X6.below hb10
      have HBW : Hid (([] ++ sbytes lines true pre ++ sbytes lines first lin ++ wbytes (wtrim lines lin) par).length ≤ 4194304) := HS.out.2
      generalize [] ++ sbytes lines true pre ++ sbytes lines first lin ++ wbytes (wtrim lines lin) par = bb at X10 HBW XW
      have hb10w : Below w.heap.size w w10 := hb6.trans (hb10.mono hb6.size)
      clear X9 X6 SQ9 C9 C10 hb10 HS
      go_wp2_with fail
      refine (bufBytes_any w10 B T6 _ _ _ XW HBW.out).mono ?_
      rintro e w11 ⟨rfl, hown11, hb11⟩
      have X11 := X10.below hb11
      go_wp2_with fail
      refine (bufBytes_any w11 C T10 _ _ _ X11 HBW.out).mono ?_
      rintro e w12 ⟨rfl, hown12, hb12⟩
      have R11 := (Below.only hb12 (fun _ => False)).owns hown11 (fun _ _ h => h)
      have SA := byts_row (N := w12.heap.size) rfl (R11.lt _ rfl).2 (row_max R11) R11
      have SB := byts_row (N := w12.heap.size) rfl (hown12.lt _ rfl).2 (row_max hown12) hown12
      have hb12w : Below w.heap.size w w12 := (hb10w.trans (hb11.mono hb10w.size)).trans (hb12.mono (Nat.le_trans hb10w.size hb11.size))
      clear R11 hown11 hown12 hb11 hb12 X10 X11 XW
      go_wp2_with fail
      refine (sameBytes_any w12 _ _ _ _ _ _ _ _ _ _ SA SB).mono ?_
      rintro e w' ⟨rfl, q, rfl⟩
      rw [decide_eq_true rfl]
      go_wp2
      go_ret
      exact ⟨rfl, below_drewN hb12w q⟩
    · go_wp2_with fail
      all_goals first
        | (go_ret; exact ⟨rfl, Below.refl _ _⟩)
        | exact absurd ⟨by omega, by omega, by omega⟩ hc

end Go.Proofs.Qxb6001694a
