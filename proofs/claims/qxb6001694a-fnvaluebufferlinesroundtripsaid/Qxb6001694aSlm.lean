import Derived.Test.Qxb6001694aBy
namespace Go.Proofs.Qxb6001694a
open Go.RowKit

/-- A row of the law's own that grows within its capacity. -/
structure Want (w5 : World) (g c m : Nat) (want : List UInt8) (W : World) : Prop where
  own : W.ownsRow w5.heap.size 5 1 (.slice (some ⟨g, 0, none⟩) m c) m (vals want)
  bel : Below w5.heap.size w5 W
  len : want.length = m

theorem Want.app {w5 W W0 W' : World} {g c m k m' : Nat} {want vs : List UInt8} (L : Want w5 g c m want W) (h0 : ∀ S : Nat → Prop, Only S W W0) (hg : W0.grownBy W' (some g)) (hk : vs.length = k)
    (hown : W'.ownsRow w5.heap.size 5 1 (.slice (some ⟨g, 0, none⟩) m' c) m' (vals want ++ vals vs)) (hm : m + k = m') : Want w5 g c m' (want ++ vs) W' := by
  subst hm
  have hge := (hown.lt g rfl).1
  refine ⟨by rw [vals_append]; exact hown, L.bel.trans (((h0 (fun k => k = g)).trans (only_grown hg (fun k hk => (Option.some.inj hk).symm))).below L.bel.size (fun k hk h => by omega)), by rw [List.length_append, L.len, hk]⟩

theorem Buf.only {w w' : World} {T S : Nat → Prop} {B : Nat} {lines trim : Bool} {bs : List UInt8} (X : Buf w T B lines trim bs) (h : Only S w w') (hS : ∀ k, T k → ¬ S k) : Buf w' T B lines trim bs := by
  obtain ⟨ls, fo, capf, gs, lo, n, cap, X, hT⟩ := X
  exact ⟨ls, fo, capf, gs, lo, n, cap, X.only h (fun k hk => hS k (hT k hk)), hT⟩

theorem Buf.below {w w' : World} {T : Nat → Prop} {B : Nat} {lines trim : Bool} {bs : List UInt8} (X : Buf w T B lines trim bs) (h : Below w.heap.size w w') : Buf w' T B lines trim bs :=
  X.only (Below.only h (fun _ => False)) (fun _ _ h => h)


theorem law3_end {w w5 W w10 : World} {c m : Nat} {want bs : List UInt8} (hb5 : Below w.heap.size w w5) (L : Want w5 w5.heap.size c m want W)
    (hown : w10.ownsRow W.heap.size 5 1 (.slice (some ⟨W.heap.size, 0, none⟩) bs.length bs.length) bs.length (vals bs)) (hb : Below W.heap.size W w10) :
    Below w.heap.size w w10 ∧ Byts w10 w10.heap.size (some ⟨W.heap.size, 0, none⟩) bs.length bs.length bs ∧ Byts w10 w10.heap.size (some ⟨w5.heap.size, 0, none⟩) m c want := by
  have z5 := hb5.size
  have z9 := L.bel.size
  have zz := hb.size
  have hg := (L.own.lt w5.heap.size rfl).2
  have hmax : ∀ {base g n cap : Nat} {xs : List Value} {u : World}, u.ownsRow base 5 1 (.slice (some ⟨g, 0, none⟩) n cap) n xs → cap ≤ maxLen := fun h => by
    rcases h.2 with ⟨h', _⟩ | ⟨g', c', cur, h', _, _, _, hm, _⟩
    · simp at h'
    · simp only [Value.slice.injEq] at h'
      obtain ⟨_, _, rfl⟩ := h'
      exact hm
  have own9 := (Below.only hb (fun _ => False)).owns L.own (fun _ _ h => h)
  exact ⟨(hb5.trans (L.bel.mono z5)).trans (hb.mono (by omega)), byts_row rfl (hown.lt _ rfl).2 (hmax hown) hown, byts_row L.len (by omega) (hmax own9) own9⟩

set_option maxHeartbeats 2000000 in
theorem law3 (w : World) (lines first : Bool) (a2 : Option Addr) (l2 c2 : Nat) (pre : List UInt8) (S2 : Byts w w.heap.size a2 l2 c2 pre) (a3 : Option Addr) (l3 c3 : Nat) (lin : List UInt8) (S3 : Byts w w.heap.size a3 l3 c3 lin) :
    Calls Try.prog 3 #[.bool lines, .bool first, .slice a2 l2 c2, .slice a3 l3 c3] w fun e w' => e = .returned (.bool true) ∧ Below w.heap.size w w' := by
  have hm2 : l2 ≤ 9223372036854775807 := Nat.le_trans S2.hcap S2.hmax
  have hm3 : l3 ≤ 9223372036854775807 := Nat.le_trans S3.hcap S3.hmax
  go_enter Try.func3, Try.ntmps3
  go_wp2_with fail
  refine (zz11_any w lines first a2 l2 c2 (Nat.le_trans S2.hcap S2.hmax) a3 l3 c3 (Nat.le_trans S3.hcap S3.hmax)).mono ?_
  rintro e w' ⟨rfl, b, rfl⟩
  cases b with
  | false =>
    go_wp2
    go_ret
    exact ⟨rfl, Below.refl _ _⟩
  | true =>
    by_cases hc : (l2 : Int) ≤ 524288 ∧ (l3 : Int) ≤ 524288
    · obtain ⟨h2, h3⟩ := hc
      go_wp2_with fail
      refine (cloneBytes_any w _ a2 l2 c2 pre S2 (by omega)).mono ?_
      rintro e w1 ⟨aP, cP, rfl, SP, hb1⟩
      go_wp2_with fail
      refine (cloneBytes_any w1 _ a3 l3 c3 lin (S3.below hb1) (by omega)).mono ?_
      rintro e w2 ⟨aL, cL, rfl, SL, hb2⟩
      have SP2 := SP.below hb2
      go_wp2_with fail
      refine (zzNew_any w2 lines).mono ?_
      rintro e w3 ⟨rfl, X3, hO3, hz3⟩
      have z1 := hb1.size
      have z2 := hb2.size
      have SP3 := (SP2.up z2).only (hO3 (fun _ => False)) (fun _ _ h => h)
      have SL3 := SL.only (hO3 (fun _ => False)) (fun _ _ h => h)
      have hb3 : Below w.heap.size w w3 := (hb1.trans (hb2.mono z1)).trans ((hO3 (fun _ => False)).below (by omega) (fun _ _ h => h))
      have hlp := SP.hlen
      have hll := SL.hlen
      have HLP : Hid _ := hlp
      have HLL : Hid _ := hll
      clear hlp hll SP SL hb1 hb2 SP2 hO3
      generalize hB : w2.heap.size = B at *
      go_wp2_with fail
      refine (zzStartLine_any w3 B B (fun k => k = B) lines false true (fun _ => rfl) [] X3 aP l2 cP pre SP3 (Nat.le_refl _) (by rw [HLP.out]; simp; omega)).mono ?_
      rintro e w4 ⟨rfl, T4, X4, hO4, hT4⟩
      have SP4 := SP3.only hO4 (fun k hk h => by omega)
      have SL4 := SL3.only hO4 (fun k hk h => by omega)
      have hb4 : Below w.heap.size w w4 := hb3.trans (hO4.below hb3.size (fun k hk h => by omega))
      clear SP3 SL3 X3
      go_wp2_with fail
      refine (zzStartLine_any w4 B B T4 lines (wtrim lines pre) first (fun h => by subst h; rfl) _ X4 aL l3 cL lin SL4 (Nat.le_refl _) (by have := sbytes_len lines true pre; rw [HLP.out] at this; rw [HLL.out]; simp; omega)).mono ?_
      rintro e w5 ⟨rfl, T5, X5, hO5, hT5⟩
      have SP5 := SP4.only hO5 (fun k hk h => by rcases hT4 k h with h | h <;> omega)
      have SL5 := SL4.only hO5 (fun k hk h => by rcases hT4 k h with h | h <;> omega)
      have hb5 : Below w.heap.size w w5 := hb4.trans (hO5.below hb4.size (fun k hk h => by have := hb3.size; rcases hT4 k h with h | h <;> omega))
      clear SP4 SL4 X4
      obtain ⟨i0, hi, hz0, hz1, hz2⟩ := info_parts Try.info5b
      go_wp2_with (at_make; refine wpList_make_own _ rfl _ _ 22 rfl w5.heap.size 5 i0 (.int .u8 0) 1 Try.underlying22 hi hz0 hz1 .i64 .i64 _ (l2 + l3 + 1) rfl rfl (by omega) (by rw [hz2]; omega) (by unfold maxLen; omega) (Nat.le_refl _) ?_)
      intro w6 hown6 hg6
      have L6 : Want w5 w5.heap.size (l2 + l3 + 1) 0 [] w6 := ⟨hown6, (Below.refl _ _).grown hg6 (Nat.le_refl _) (by simp), rfl⟩
      cases lines with
      | false =>
        cases first with
        | true =>
          have S6 := SP5.below L6.bel
          go_wp2_with (at_builtin; refine wpList_append_fits_any _ rfl (.tmp 50) (.tmp 51) 22 rfl w5.heap.size 5 i0 1 Try.underlying22 hi hz1 w5.heap.size 0 (l2 + l3 + 1) _ rfl (by exact L6.own) aP l2 cP (vals pre) rfl (by rw [vals_length, HLP.out, Nat.mul_one]) (fun h => S6.none_len h) (by exact S6.src) (vals_one _) (by omega) ?_)
          intro w7 hown6 hg6
          have L7 := L6.app (fun S => Only.refl S w6) hg6 HLP.out hown6 (by omega)
          rw [List.nil_append] at L7
          clear hown6 hg6 L6
          have S9 := SL5.below L7.bel
          go_wp2_with (at_builtin; refine wpList_append_fits_any _ rfl (.tmp 65) (.tmp 66) 22 rfl w5.heap.size 5 i0 1 Try.underlying22 hi hz1 w5.heap.size l2 (l2 + l3 + 1) _ rfl (by exact L7.own) aL l3 cL (vals lin) rfl (by rw [vals_length, HLL.out, Nat.mul_one]) (fun h => S9.none_len h) (by exact S9.src) (vals_one _) (by omega) ?_)
          intro w9 hown9 hg9
          have L9 := L7.app (fun S => Only.refl S w7) hg9 HLL.out hown9 (by omega)
          clear hown9 hg9 L7
          have X9 := X5.below L9.bel
          have HBB : Hid (([] ++ sbytes false true pre ++ sbytes false true lin).length ≤ 4194304) := by unfold Hid; have e1 := sbytes_len false true pre; have e2 := sbytes_len false true lin; rw [HLP.out] at e1; rw [HLL.out] at e2; simp only [List.length_append, List.length_nil]; omega
          have HEQ : Hid ([] ++ sbytes false true pre ++ sbytes false true lin = (pre) ++ lin) := by unfold Hid; simp [sbytes, feed, wbytes]
          generalize [] ++ sbytes false true pre ++ sbytes false true lin = bb at X9 HBB HEQ
          go_wp2_with fail
          refine (bufBytes_any w9 B T5 _ _ _ X9 HBB.out).mono ?_
          rintro e w10 ⟨rfl, hown10, hb10⟩
          have HF := law3_end hb5 L9 hown10 hb10
          have HB10 := HF.1
          have SA := HF.2.1
          have SB := HF.2.2
          clear HF hown10 hb10 L9 X9
          go_wp2_with fail
          refine (sameBytes_any w10 _ _ _ _ _ _ _ _ _ _ SA SB).mono ?_
          rintro e w' ⟨rfl, q, rfl⟩
          rw [decide_eq_true HEQ.out]
          go_wp2
          go_ret
          exact ⟨rfl, below_drewN HB10 q⟩
        | false =>
          have S6 := SP5.below L6.bel
          go_wp2_with (at_builtin; refine wpList_append_fits_any _ rfl (.tmp 50) (.tmp 51) 22 rfl w5.heap.size 5 i0 1 Try.underlying22 hi hz1 w5.heap.size 0 (l2 + l3 + 1) _ rfl (by exact L6.own) aP l2 cP (vals pre) rfl (by rw [vals_length, HLP.out, Nat.mul_one]) (fun h => S6.none_len h) (by exact S6.src) (vals_one _) (by omega) ?_)
          intro w7 hown6 hg6
          have L7 := L6.app (fun S => Only.refl S w6) hg6 HLP.out hown6 (by omega)
          rw [List.nil_append] at L7
          clear hown6 hg6 L6
          go_wp2_with (at_builtin; refine wpList_append_fits _ rfl (.tmp 55) (.tmp 56) 22 rfl w5.heap.size 5 i0 1 Try.underlying22 hi hz1 w5.heap.size l2 (l2 + l3 + 1) _ rfl (by exact L7.own.alloc _) ⟨w7.heap.size, 0, none⟩ 1 1 (vals [10]) rfl rfl (by exact cell_one_new _ _ _) (vals_one _) (by omega) ?_)
          intro w8 hown8 hg8
          have L8 := L7.app (k := 1) (vs := [10]) (fun S => only_alloc S w7 _) hg8 rfl hown8 (by omega)
          clear hown8 hg8 L7
          have S9 := SL5.below L8.bel
          go_wp2_with (at_builtin; refine wpList_append_fits_any _ rfl (.tmp 65) (.tmp 66) 22 rfl w5.heap.size 5 i0 1 Try.underlying22 hi hz1 w5.heap.size (l2 + 1) (l2 + l3 + 1) _ rfl (by exact L8.own) aL l3 cL (vals lin) rfl (by rw [vals_length, HLL.out, Nat.mul_one]) (fun h => S9.none_len h) (by exact S9.src) (vals_one _) (by omega) ?_)
          intro w9 hown9 hg9
          have L9 := L8.app (fun S => Only.refl S w8) hg9 HLL.out hown9 (by omega)
          clear hown9 hg9 L8
          have X9 := X5.below L9.bel
          have HBB : Hid (([] ++ sbytes false true pre ++ sbytes false false lin).length ≤ 4194304) := by unfold Hid; have e1 := sbytes_len false true pre; have e2 := sbytes_len false false lin; rw [HLP.out] at e1; rw [HLL.out] at e2; simp only [List.length_append, List.length_nil]; omega
          have HEQ : Hid ([] ++ sbytes false true pre ++ sbytes false false lin = (pre ++ [10]) ++ lin) := by unfold Hid; simp [sbytes, feed, wbytes]
          generalize [] ++ sbytes false true pre ++ sbytes false false lin = bb at X9 HBB HEQ
          go_wp2_with fail
          refine (bufBytes_any w9 B T5 _ _ _ X9 HBB.out).mono ?_
          rintro e w10 ⟨rfl, hown10, hb10⟩
          have HF := law3_end hb5 L9 hown10 hb10
          have HB10 := HF.1
          have SA := HF.2.1
          have SB := HF.2.2
          clear HF hown10 hb10 L9 X9
          go_wp2_with fail
          refine (sameBytes_any w10 _ _ _ _ _ _ _ _ _ _ SA SB).mono ?_
          rintro e w' ⟨rfl, q, rfl⟩
          rw [decide_eq_true HEQ.out]
          go_wp2
          go_ret
          exact ⟨rfl, below_drewN HB10 q⟩
      | true =>
        cases first with
        | true =>
          have S6 := SP5.below L6.bel
          obtain ⟨aS6, hsl6, SS6⟩ := slice_from S6 (leadN pre) (by have := leadN_le pre; rw [HLP.out] at this; exact this)
          have hkl6 : leadN pre ≤ l2 := by have := leadN_le pre; rw [HLP.out] at this; exact this
          go_wp2_with fail
          refine (lead_any w6 _ aP l2 cP pre S6).mono ?_
          rintro e w' ⟨rfl, rfl⟩
          go_wp2_with (at_builtin; refine wpList_append_fits_any _ rfl (.tmp 44) (.tmp 48) 22 rfl w5.heap.size 5 i0 1 Try.underlying22 hi hz1 w5.heap.size 0 (l2 + l3 + 1) _ rfl (by exact L6.own) aS6 (l2 - leadN pre) (cP - leadN pre) (vals (pre.drop (leadN pre))) rfl (by rw [vals_length, SS6.hlen, Nat.mul_one]) (fun h => SS6.none_len h) (by exact SS6.src) (vals_one _) (by omega) ?_)
          intro w7 hown6 hg6
          have L7 := L6.app (fun S => Only.refl S w6) hg6 SS6.hlen hown6 (by omega)
          rw [List.nil_append] at L7
          clear hown6 hg6 L6
          have S9 := SL5.below L7.bel
          obtain ⟨aS9, hsl9, SS9⟩ := slice_from S9 (leadN lin) (by have := leadN_le lin; rw [HLL.out] at this; exact this)
          have hkl9 : leadN lin ≤ l3 := by have := leadN_le lin; rw [HLL.out] at this; exact this
          go_wp2_with fail
          refine (lead_any w7 _ aL l3 cL lin S9).mono ?_
          rintro e w' ⟨rfl, rfl⟩
          go_wp2_with (at_builtin; refine wpList_append_fits_any _ rfl (.tmp 59) (.tmp 63) 22 rfl w5.heap.size 5 i0 1 Try.underlying22 hi hz1 w5.heap.size (l2 - leadN pre) (l2 + l3 + 1) _ rfl (by exact L7.own) aS9 (l3 - leadN lin) (cL - leadN lin) (vals (lin.drop (leadN lin))) rfl (by rw [vals_length, SS9.hlen, Nat.mul_one]) (fun h => SS9.none_len h) (by exact SS9.src) (vals_one _) (by omega) ?_)
          intro w9 hown9 hg9
          have L9 := L7.app (fun S => Only.refl S w7) hg9 SS9.hlen hown9 (by omega)
          clear hown9 hg9 L7
          have X9 := X5.below L9.bel
          have HBB : Hid (([] ++ sbytes true true pre ++ sbytes true true lin).length ≤ 4194304) := by unfold Hid; have e1 := sbytes_len true true pre; have e2 := sbytes_len true true lin; rw [HLP.out] at e1; rw [HLL.out] at e2; simp only [List.length_append, List.length_nil]; omega
          have HEQ : Hid ([] ++ sbytes true true pre ++ sbytes true true lin = ((pre.drop (leadN pre))) ++ (lin.drop (leadN lin))) := by unfold Hid; simp [sbytes, feed, wbytes]
          generalize [] ++ sbytes true true pre ++ sbytes true true lin = bb at X9 HBB HEQ
          go_wp2_with fail
          refine (bufBytes_any w9 B T5 _ _ _ X9 HBB.out).mono ?_
          rintro e w10 ⟨rfl, hown10, hb10⟩
          have HF := law3_end hb5 L9 hown10 hb10
          have HB10 := HF.1
          have SA := HF.2.1
          have SB := HF.2.2
          clear HF hown10 hb10 L9 X9
          go_wp2_with fail
          refine (sameBytes_any w10 _ _ _ _ _ _ _ _ _ _ SA SB).mono ?_
          rintro e w' ⟨rfl, q, rfl⟩
          rw [decide_eq_true HEQ.out]
          go_wp2
          go_ret
          exact ⟨rfl, below_drewN HB10 q⟩
        | false =>
          have S6 := SP5.below L6.bel
          obtain ⟨aS6, hsl6, SS6⟩ := slice_from S6 (leadN pre) (by have := leadN_le pre; rw [HLP.out] at this; exact this)
          have hkl6 : leadN pre ≤ l2 := by have := leadN_le pre; rw [HLP.out] at this; exact this
          go_wp2_with fail
          refine (lead_any w6 _ aP l2 cP pre S6).mono ?_
          rintro e w' ⟨rfl, rfl⟩
          go_wp2_with (at_builtin; refine wpList_append_fits_any _ rfl (.tmp 44) (.tmp 48) 22 rfl w5.heap.size 5 i0 1 Try.underlying22 hi hz1 w5.heap.size 0 (l2 + l3 + 1) _ rfl (by exact L6.own) aS6 (l2 - leadN pre) (cP - leadN pre) (vals (pre.drop (leadN pre))) rfl (by rw [vals_length, SS6.hlen, Nat.mul_one]) (fun h => SS6.none_len h) (by exact SS6.src) (vals_one _) (by omega) ?_)
          intro w7 hown6 hg6
          have L7 := L6.app (fun S => Only.refl S w6) hg6 SS6.hlen hown6 (by omega)
          rw [List.nil_append] at L7
          clear hown6 hg6 L6
          go_wp2_with (at_builtin; refine wpList_append_fits _ rfl (.tmp 55) (.tmp 56) 22 rfl w5.heap.size 5 i0 1 Try.underlying22 hi hz1 w5.heap.size (l2 - leadN pre) (l2 + l3 + 1) _ rfl (by exact L7.own.alloc _) ⟨w7.heap.size, 0, none⟩ 1 1 (vals [10]) rfl rfl (by exact cell_one_new _ _ _) (vals_one _) (by omega) ?_)
          intro w8 hown8 hg8
          have L8 := L7.app (k := 1) (vs := [10]) (fun S => only_alloc S w7 _) hg8 rfl hown8 (by omega)
          clear hown8 hg8 L7
          have S9 := SL5.below L8.bel
          obtain ⟨aS9, hsl9, SS9⟩ := slice_from S9 (leadN lin) (by have := leadN_le lin; rw [HLL.out] at this; exact this)
          have hkl9 : leadN lin ≤ l3 := by have := leadN_le lin; rw [HLL.out] at this; exact this
          go_wp2_with fail
          refine (lead_any w8 _ aL l3 cL lin S9).mono ?_
          rintro e w' ⟨rfl, rfl⟩
          go_wp2_with (at_builtin; refine wpList_append_fits_any _ rfl (.tmp 59) (.tmp 63) 22 rfl w5.heap.size 5 i0 1 Try.underlying22 hi hz1 w5.heap.size ((l2 - leadN pre) + 1) (l2 + l3 + 1) _ rfl (by exact L8.own) aS9 (l3 - leadN lin) (cL - leadN lin) (vals (lin.drop (leadN lin))) rfl (by rw [vals_length, SS9.hlen, Nat.mul_one]) (fun h => SS9.none_len h) (by exact SS9.src) (vals_one _) (by omega) ?_)
          intro w9 hown9 hg9
          have L9 := L8.app (fun S => Only.refl S w8) hg9 SS9.hlen hown9 (by omega)
          clear hown9 hg9 L8
          have X9 := X5.below L9.bel
          have HBB : Hid (([] ++ sbytes true true pre ++ sbytes true false lin).length ≤ 4194304) := by unfold Hid; have e1 := sbytes_len true true pre; have e2 := sbytes_len true false lin; rw [HLP.out] at e1; rw [HLL.out] at e2; simp only [List.length_append, List.length_nil]; omega
          have HEQ : Hid ([] ++ sbytes true true pre ++ sbytes true false lin = ((pre.drop (leadN pre)) ++ [10]) ++ (lin.drop (leadN lin))) := by unfold Hid; simp [sbytes, feed, wbytes]
          generalize [] ++ sbytes true true pre ++ sbytes true false lin = bb at X9 HBB HEQ
          go_wp2_with fail
          refine (bufBytes_any w9 B T5 _ _ _ X9 HBB.out).mono ?_
          rintro e w10 ⟨rfl, hown10, hb10⟩
          have HF := law3_end hb5 L9 hown10 hb10
          have HB10 := HF.1
          have SA := HF.2.1
          have SB := HF.2.2
          clear HF hown10 hb10 L9 X9
          go_wp2_with fail
          refine (sameBytes_any w10 _ _ _ _ _ _ _ _ _ _ SA SB).mono ?_
          rintro e w' ⟨rfl, q, rfl⟩
          rw [decide_eq_true HEQ.out]
          go_wp2
          go_ret
          exact ⟨rfl, below_drewN HB10 q⟩
    · go_wp2_with fail
      all_goals first
        | (go_ret; exact ⟨rfl, Below.refl _ _⟩)
        | (exfalso; omega)

end Go.Proofs.Qxb6001694a
