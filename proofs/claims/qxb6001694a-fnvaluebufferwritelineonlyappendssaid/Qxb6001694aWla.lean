import Derived.Test.Qxb6001694aPar
namespace Go.Proofs.Qxb6001694a
open Go.RowKit

set_option maxHeartbeats 400000 in
theorem isSuffix_any (w : World) (N N' : Nat) (ao ao' : Option Addr) (la ca lb cb : Nat) (xs ys : List UInt8) (S : Byts w N ao la ca xs) (S' : Byts w N' ao' lb cb ys) (hle : la ≤ lb) :
    Calls Try.prog 21 #[.slice ao la ca, .slice ao' lb cb] w fun e w' => e = .returned (.bool (decide (xs = ys.drop (lb - la)))) ∧ ∃ q, w' = w.drewN q := by
  have hm : lb ≤ 9223372036854775807 := Nat.le_trans S'.hcap S'.hmax
  have hleI : (la : Int) ≤ (lb : Int) := by omega
  obtain ⟨aT, hsl, ST⟩ := slice_from S' (lb - la) (by omega)
  have hk : (lb : Int) - (la : Int) = ((lb - la : Nat) : Int) := by omega
  generalize lb - la = k at *
  go_enter Try.func21, Try.ntmps21
  go_wp2_with fail
  refine (sameBytes_any w _ _ _ _ _ _ _ _ _ _ S ST).mono ?_
  rintro e w' ⟨rfl, q, rfl⟩
  go_wp2
  go_ret
  exact ⟨rfl, q, rfl⟩

theorem own_block {g n c k : Nat} (h : (Value.slice (some ⟨g, 0, none⟩) n c).ownBlock = some k) : k = g := by
  have : g = k := by simpa [Value.ownBlock] using h
  exact this.symm

/-- The blocks of a buffer lie in the heap. -/
theorem Buf.tight {w : World} {T : Nat → Prop} {B : Nat} {lines trim : Bool} {bs : List UInt8} (X : Buf w T B lines trim bs) : ∃ T', Buf w T' B lines trim bs ∧ ∀ k, T' k → T k ∧ k < w.heap.size := by
  obtain ⟨ls, fo, capf, gs, lo, n, cap, X, hT⟩ := X
  exact ⟨fpt B fo lo gs, ⟨ls, fo, capf, gs, lo, n, cap, X, fun _ h => h⟩, fun k hk => ⟨hT k hk, (X.lt k hk).1⟩⟩

theorem wbytes_suffix (t : Bool) (pt : List UInt8) : wbytes t pt = pt.drop (pt.length - (wbytes t pt).length) := by
  cases t with
  | false => simp [wbytes]
  | true =>
    have := leadN_le pt
    show pt.drop (leadN pt) = pt.drop (pt.length - (pt.drop (leadN pt)).length)
    rw [List.length_drop]
    congr 1
    omega

/-- What is left for the walk behind the two readings. -/
structure L5 (bb1 bb2 pt : List UInt8) (t : Bool) (n1 n2 l3 : Nat) : Prop where
  e1 : bb1.length = n1
  e2 : bb2.length = n2
  e3 : pt.length = l3
  cat : bb2 = bb1 ++ wbytes t pt

theorem L5.facts {bb1 bb2 pt : List UInt8} {t : Bool} {n1 n2 l3 : Nat} (h : L5 bb1 bb2 pt t n1 n2 l3) :
    n1 ≤ n2 ∧ n2 - n1 ≤ l3 ∧ bb2.take n1 = bb1 ∧ bb2.drop n1 = pt.drop (l3 - (n2 - n1)) ∧ (t = false → n2 - n1 = l3) ∧ (t = true → n2 - n1 = l3 - leadN pt) := by
  have hw := wbytes_len t pt
  have hs := wbytes_suffix t pt
  have hl := leadN_le pt
  have e2 : n2 = n1 + (wbytes t pt).length := by rw [← h.e2, h.cat, List.length_append, h.e1]
  have e3 := h.e3
  refine ⟨by omega, by omega, ?_, ?_, ?_, ?_⟩
  · rw [h.cat, ← h.e1]; simp
  · rw [h.cat, ← h.e1, List.drop_left, hs, ← hs, e2, ← h.e3, ← h.e1]
    rw [show bb1.length + (wbytes t pt).length - bb1.length = (wbytes t pt).length by omega]
    exact hs
  · rintro rfl
    have : (wbytes false pt).length = pt.length := rfl
    omega
  · rintro rfl
    have : (wbytes true pt).length = pt.length - leadN pt := by show (pt.drop (leadN pt)).length = _; rw [List.length_drop]
    omega

set_option maxHeartbeats 2000000 in
theorem law5 (w : World) (lines first : Bool) (a2 : Option Addr) (l2 c2 : Nat) (hd : List UInt8) (S2 : Byts w w.heap.size a2 l2 c2 hd) (a3 : Option Addr) (l3 c3 : Nat) (pt : List UInt8) (S3 : Byts w w.heap.size a3 l3 c3 pt) :
    Calls Try.prog 5 #[.bool lines, .bool first, .slice a2 l2 c2, .slice a3 l3 c3] w fun e w' => e = .returned (.bool true) ∧ Below w.heap.size w w' := by
  have hm2 : l2 ≤ 9223372036854775807 := Nat.le_trans S2.hcap S2.hmax
  have hm3 : l3 ≤ 9223372036854775807 := Nat.le_trans S3.hcap S3.hmax
  go_enter Try.func5, Try.ntmps5
  go_wp2_with fail
  refine (zz20_any w lines first a2 l2 c2 (Nat.le_trans S2.hcap S2.hmax) a3 l3 c3 (Nat.le_trans S3.hcap S3.hmax)).mono ?_
  rintro e w' ⟨rfl, b, rfl⟩
  cases b with
  | false =>
    go_wp2
    go_ret
    exact ⟨rfl, Below.refl _ _⟩
  | true =>
    by_cases hc : (l2 : Int) ≤ 524288 ∧ (l3 : Int) ≤ 524288
    · obtain ⟨h2, h3⟩ := hc
      go_wp2_with fail
      refine (cloneBytes_any w _ a2 l2 c2 hd S2 (by omega)).mono ?_
      rintro e w1 ⟨aP, cP, rfl, SP, hb1⟩
      go_wp2_with fail
      refine (cloneBytes_any w1 _ a3 l3 c3 pt (S3.below hb1) (by omega)).mono ?_
      rintro e w2 ⟨aL, cL, rfl, SL, hb2⟩
      have SP2 := SP.below hb2
      have HLP : Hid (hd.length = l2) := SP.hlen
      have HLL : Hid (pt.length = l3) := SL.hlen
      go_wp2_with fail
      refine (zzNew_any w2 lines).mono ?_
      rintro e w3 ⟨rfl, X3, hO3, hz3⟩
      have z1 := hb1.size
      have z2 := hb2.size
      have SP3 := (SP2.up z2).only (hO3 (fun _ => False)) (fun _ _ h => h)
      have SL3 := SL.only (hO3 (fun _ => False)) (fun _ _ h => h)
      have hb3 : Below w.heap.size w w3 := (hb1.trans (hb2.mono z1)).trans ((hO3 (fun _ => False)).below (by omega) (fun _ _ h => h))
      have hBw : w.heap.size ≤ w2.heap.size := by omega
      clear SP SL hb1 hb2 SP2 hO3 S2 S3
      generalize hB : w2.heap.size = B at *
      clear hB
      have C3 : Below B w3 w3 ∧ B ≤ w3.heap.size ∧ ∀ k, k = B → B ≤ k := ⟨Below.refl _ _, by omega, fun k hk => by omega⟩
      go_wp2_with fail
      refine (zzStartLine_any w3 B B (fun k => k = B) lines false first (fun _ => rfl) [] X3 aP l2 cP hd SP3 (Nat.le_refl _) (by rw [HLP.out]; simp; omega)).mono ?_
      rintro e w4 ⟨rfl, T4, X4, hO4, hT4⟩
      have SP4 := SP3.apart hO4 (Nat.le_refl _) C3.2.2
      have SL4 := SL3.apart hO4 (Nat.le_refl _) C3.2.2
      have C4 := chain C3.1 C3.2.1 C3.2.2 hO4 hT4
      obtain ⟨T, XT, hT⟩ := X4.tight
      have hTB : ∀ k, T k → B ≤ k := fun k hk => C4.2.2 k (hT k hk).1
      obtain ⟨bb1, hbb1⟩ : ∃ bb1, [] ++ sbytes lines first hd = bb1 := ⟨_, rfl⟩
      rw [hbb1] at XT
      have HB1 : Hid (bb1.length ≤ 524289) := by
        have := sbytes_len lines first hd
        rw [HLP.out] at this
        rw [← hbb1]
        unfold Hid
        simp only [List.nil_append]
        omega
      clear SP3 SL3 X3 C3 X4 hbb1
      go_wp2_with fail
      refine (bufBytes_any w4 B T _ _ _ XT (by have := HB1.out; omega)).mono ?_
      rintro e w5 ⟨rfl, own5, hb5⟩
      have X5 := XT.below hb5
      have SP5 := SP4.below hb5
      have SL5 := SL4.below hb5
      have C5 : Below B w3 w5 ∧ B ≤ w5.heap.size := ⟨C4.1.trans (hb5.mono C4.2.1), Nat.le_trans C4.2.1 hb5.size⟩
      have hg1 : ¬ T w4.heap.size := fun h => by have := (hT _ h).2; omega
      clear XT SP4 SL4 hb5
      generalize hG1 : w4.heap.size = g1 at *
      obtain ⟨n1, hn1⟩ : ∃ n1, bb1.length = n1 := ⟨_, rfl⟩
      rw [hn1] at own5
      rw [hn1]
      have HN1 : Hid _ := hn1
      clear hn1 hG1 C4
      go_wp2_with fail
      refine (zzWriteLine_any w5 B B T lines (wtrim lines hd) _ X5 aL l3 cL pt SL5 (Nat.le_refl _) (by rw [HLL.out]; have := HB1.out; omega)).mono ?_
      rintro e w6 ⟨rfl, T6, X6, hO6, hT6⟩
      have own6 := hO6.owns own5 (fun k hk h => hg1 (own_block hk ▸ h))
      have SP6 := SP5.apart hO6 (Nat.le_refl _) hTB
      have SL6 := SL5.apart hO6 (Nat.le_refl _) hTB
      have C6 := chain C5.1 C5.2 hTB hO6 hT6
      obtain ⟨bb2, hbb2⟩ : ∃ bb2, bb1 ++ wbytes (wtrim lines hd) pt = bb2 := ⟨_, rfl⟩
      rw [hbb2] at X6
      have HB2 : Hid (bb2.length ≤ 4194304) := by
        have e1 := wbytes_len (wtrim lines hd) pt
        have e2 := HB1.out
        rw [HLL.out] at e1
        rw [← hbb2, Hid, List.length_append]
        omega
      have HCAT : Hid (bb2 = bb1 ++ wbytes (wtrim lines hd) pt) := hbb2.symm
      clear own5 SP5 SL5 X5 C5 hbb2
      go_wp2_with fail
      refine (bufBytes_any w6 B T6 _ _ _ X6 HB2.out).mono ?_
      rintro e w7 ⟨rfl, own7, hb7⟩
      have own6' := (Below.only hb7 (fun _ => False)).owns own6 (fun _ _ h => h)
      have SP7 := SP6.below hb7
      have SL7 := SL6.below hb7
      have hb7w : Below w.heap.size w w7 := (hb3.trans (C6.1.mono hBw)).trans (hb7.mono (Nat.le_trans hBw C6.2.1))
      generalize w6.heap.size = g2 at *
      obtain ⟨n2, hn2⟩ : ∃ n2, bb2.length = n2 := ⟨_, rfl⟩
      rw [hn2] at own7
      rw [hn2]
      have F := (L5.mk HN1.out hn2 HLL.out HCAT.out : L5 bb1 bb2 pt (wtrim lines hd) n1 n2 l3).facts
      have HN2 : Hid _ := hn2
      have SA := byts_row (N := w7.heap.size) HN1.out (own6'.lt _ rfl).2 (row_max own6') own6'
      have SB := byts_row (N := w7.heap.size) hn2 (own7.lt _ rfl).2 (row_max own7) own7
      clear own6 own6' own7 hb7 X6 SP6 SL6 hn2 C6
      obtain ⟨f1, f2, f3, f4, f5, f6⟩ := F
      have F3 : Hid _ := f3
      have F4 : Hid _ := f4
      have F5 : Hid _ := f5
      have F6 : Hid _ := f6
      have SH := SB.head (k := n1) f1
      rw [f3] at SH
      obtain ⟨aA, hsA, SD⟩ := slice_from SB n1 f1
      rw [f4] at SD
      have hsH := fun w' => slice_to (some ⟨g2, 0, none⟩) n2 n2 n1 f1 w'
      clear f3 f4 f5 f6
      have hn2I : (n2 : Int) ≤ 4194304 := by have := HB2.out; have := HN2.out; omega
      have f1I : (n1 : Int) ≤ (n2 : Int) := by omega
      have f2I : (n2 : Int) - (n1 : Int) ≤ (l3 : Int) := by omega
      go_wp2_with fail
      refine (sameBytes_any w7 _ _ _ _ _ _ _ _ _ _ SH SA).mono ?_
      rintro e w' ⟨rfl, q, rfl⟩
      rw [decide_eq_true rfl]
      have SD8 := SD.only (only_drewN (fun _ => False) w7 q) (fun _ _ h => h)
      have SL8 := SL7.only (only_drewN (fun _ => False) w7 q) (fun _ _ h => h)
      have SP8 := SP7.only (only_drewN (fun _ => False) w7 q) (fun _ _ h => h)
      have hb8 := below_drewN hb7w q
      generalize w7.drewN q = w8 at *
      clear SH SA SB SD SL7 SP7
      go_wp2_with fail
      refine (isSuffix_any w8 _ _ _ _ _ _ _ _ _ _ SD8 SL8 f2).mono ?_
      rintro e w' ⟨rfl, q', rfl⟩
      rw [decide_eq_true rfl]
      have SL9 := SL8.only (only_drewN (fun _ => False) w8 q') (fun _ _ h => h)
      have SP9 := SP8.only (only_drewN (fun _ => False) w8 q') (fun _ _ h => h)
      have hb9 := below_drewN hb8 q'
      generalize w8.drewN q' = w9 at *
      clear SD8 SL8 SP8
      cases lines with
      | false =>
        have hd5 := F5.out rfl
        have t5 : (((n2 - n1 : Nat) : Int) == (l3 : Int)) = true := by rw [beq_iff_eq]; omega
        have HD5 : Hid _ := hd5
        clear hd5
        go_wp2
        go_ret
        exact ⟨rfl, hb9⟩
      | true =>
        by_cases hall : leadN hd = l2
        · have hd6 := F6.out (by simp [wtrim, HLP.out, hall])
          have hlp := leadN_le pt
          rw [HLL.out] at hlp
          have t6 : (((n2 - n1 : Nat) : Int) == (l3 : Int) - (leadN pt : Int)) = true := by rw [beq_iff_eq]; omega
          have tl : ¬ (leadN hd : Int) < (l2 : Int) := by omega
          have HD6 : Hid _ := hd6
          have HALL : Hid _ := hall
          clear hd6 hall
          go_wp2_with fail
          refine (lead_any w9 _ aP l2 cP hd SP9).mono ?_
          rintro e w' ⟨rfl, rfl⟩
          go_wp2_with fail
          refine (lead_any w9 _ aL l3 cL pt SL9).mono ?_
          rintro e w' ⟨rfl, rfl⟩
          go_wp2
          go_ret
          exact ⟨rfl, hb9⟩
        · have hd5 := F5.out (by simp [wtrim, HLP.out, hall])
          have hlh := leadN_le hd
          rw [HLP.out] at hlh
          have t5 : (((n2 - n1 : Nat) : Int) == (l3 : Int)) = true := by rw [beq_iff_eq]; omega
          have tl : (leadN hd : Int) < (l2 : Int) := by omega
          have HD5 : Hid _ := hd5
          clear hd5 hall
          go_wp2_with fail
          refine (lead_any w9 _ aP l2 cP hd SP9).mono ?_
          rintro e w' ⟨rfl, rfl⟩
          go_wp2
          go_ret
          exact ⟨rfl, hb9⟩
    · go_wp2_with fail
      all_goals first
        | (go_ret; exact ⟨rfl, Below.refl _ _⟩)
        | exact absurd ⟨by omega, by omega⟩ hc

end Go.Proofs.Qxb6001694a
