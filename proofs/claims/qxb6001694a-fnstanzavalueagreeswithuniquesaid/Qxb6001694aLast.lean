import Derived.Test.Qxb6001694aApp
namespace Go.Proofs.Qxb6001694a
open Go.RowKit

set_option maxHeartbeats 400000 in
theorem foldByte_any (c : Int) (w : World) (h0 : 0 ≤ c) (h1 : c ≤ 255) :
    Calls Try.prog 41 #[.int .u8 c] w fun e w' => e = .returned (.int .u8 (foldI c)) ∧ w' = w := by
  by_cases h2 : 65 ≤ c
  · by_cases h3 : c ≤ 90
    · have HF : Hid (foldI c = c + 32) := by unfold foldI; rw [Hid, if_pos ⟨h2, h3⟩]
      go_enter Try.func41, Try.ntmps41
      go_wp2
      go_ret
      rw [HF.out]
      exact ⟨rfl, rfl⟩
    · have HF : Hid (foldI c = c) := by unfold foldI; rw [Hid, if_neg (by omega)]
      go_enter Try.func41, Try.ntmps41
      go_wp2
      go_ret
      rw [HF.out]
      exact ⟨rfl, rfl⟩
  · have HF : Hid (foldI c = c) := by unfold foldI; rw [Hid, if_neg (by omega)]
    go_enter Try.func41, Try.ntmps41
    go_wp2
    go_ret
    rw [HF.out]
    exact ⟨rfl, rfl⟩

theorem foldByte_byte (c : UInt8) (w : World) :
    Calls Try.prog 41 #[.int .u8 c.toNat] w fun e w' => e = .returned (.int .u8 (foldI c.toNat)) ∧ w' = w :=
  foldByte_any _ w (by omega) (by have := c.toNat_lt; omega)

set_option maxHeartbeats 400000 in
theorem foldEq_any (a b : ByteArray) (w : World) (ha : a.size ≤ maxLen) :
    Calls Try.prog 30 #[.string a, .string b] w fun e w' => e = .returned (.bool (sameN a b)) ∧ ∃ n, w' = w.drewN n := by
  unfold maxLen at ha
  by_cases hl : a.size = b.size
  · have hl0 : ((a.size : Int) != (b.size : Int)) = false := by simp [hl]
    have HL : Hid (a.size = b.size) := hl
    clear hl
    go_enter Try.func30, Try.ntmps30
    go_wp2
    go_loopw [5] (fun i wr => ∃ k : Nat, k ≤ a.size ∧ i = .int .i64 k ∧ Hid ((keyL a).take k = (keyL b).take k) ∧ Hid (∃ n, wr = w.drewN n)) (fun i _ => a.size - (intOf i).toNat)
    case atStart => exact ⟨0, Nat.zero_le _, rfl, rfl, 0, rfl⟩
    case round =>
      obtain ⟨k, hk, rfl, hpre, hw⟩ := hrel
      by_cases hlt : k < a.size
      · have hltb : k < b.size := by rw [← HL.out]; exact hlt
        go_wp2_with fail
        go_quiet ((go_at_call 41; exact Calls.quiet_of_same (foldByte_byte _ _)))
        by_cases he : foldI (a[k]).toNat = foldI (b[k]).toNat
        · have he0 : (foldI (a[k]).toNat != foldI (b[k]).toNat) = false := by simp [he]
          have HP : Hid ((keyL a).take (k + 1) = (keyL b).take (k + 1)) := take_eq_succ hpre.out (by rw [keyL_at a k hlt, keyL_at b k hltb, he])
          clear he hpre
          go_wp2
          go_roundw
          case rel => exact ⟨k + 1, by omega, by go_num, HP, drewN_more hw nq⟩
          case measure => simp [intOf]; omega
        · have he0 : (foldI (a[k]).toNat != foldI (b[k]).toNat) = true := by simp [he]
          have hf : sameN a b = false := by
            unfold sameN
            rw [decide_eq_false_iff_not]
            intro h
            have h1 := keyL_at a k hlt
            rw [h, keyL_at b k hltb] at h1
            simp only [Option.some.injEq] at h1
            exact he h1.symm
          have HF : Hid (sameN a b = false) := hf
          clear hf he hpre
          go_wp2
          go_ret
          rw [HF.out]
          exact ⟨rfl, drewN_more hw nq⟩
      · have hf : sameN a b = true := by
          unfold sameN
          rw [decide_eq_true_iff]
          have h := hpre.out
          rw [List.take_of_length_le (by rw [keyL_len]; omega), List.take_of_length_le (by rw [keyL_len, ← HL.out]; omega)] at h
          exact h
        have HF : Hid (sameN a b = true) := hf
        clear hf
        go_wp2
        go_ret
        rw [HF.out]
        exact ⟨rfl, hw⟩
  · have hl0 : ((a.size : Int) != (b.size : Int)) = true := by simp; omega
    have hf : sameN a b = false := by
      unfold sameN
      rw [decide_eq_false_iff_not]
      intro h
      apply hl
      rw [← keyL_len a, ← keyL_len b, h]
    have HF : Hid (sameN a b = false) := hf
    clear hf hl
    go_enter Try.func30, Try.ntmps30
    go_wp2
    go_ret
    rw [HF.out]
    exact ⟨rfl, 0, rfl⟩

/-- The answers over the first k fields. -/
def valTo (ns vs : List ByteArray) (nm : ByteArray) (k : Nat) : ByteArray := if lastIx ns nm k < 0 then ⟨#[]⟩ else vs.getD (lastIx ns nm k).toNat ByteArray.empty
def hasTo (ns : List ByteArray) (nm : ByteArray) (k : Nat) : Bool := decide (0 ≤ lastIx ns nm k)

theorem lastIx_take {ns : List ByteArray} {nm : ByteArray} {n : Nat} : ∀ {k : Nat}, k ≤ n → lastIx (ns.take n) nm k = lastIx ns nm k
  | 0, _ => rfl
  | k + 1, h => by
    unfold lastIx
    rw [getD_take (by omega), lastIx_take (by omega)]

theorem val_take {ns vs : List ByteArray} {nm : ByteArray} {n : Nat} (hn : n ≤ ns.length) : valOf (ns.take n) (vs.take n) nm = valTo ns vs nm n ∧ hasOf (ns.take n) nm = hasTo ns nm n := by
  have e : (ns.take n).length = n := by simp; omega
  unfold valOf hasOf valTo hasTo
  rw [e, lastIx_take (Nat.le_refl n)]
  refine ⟨?_, rfl⟩
  rcases lastIx_lt ns nm n with h | ⟨i, hi, h⟩
  · rw [h]; rfl
  · rw [h, if_neg (by omega), if_neg (by omega), getD_take (by simpa using hi)]

theorem val_hit {ns vs : List ByteArray} {nm : ByteArray} {k : Nat} (h : sameN (ns.getD k ByteArray.empty) nm = true) : valTo ns vs nm (k + 1) = vs.getD k ByteArray.empty ∧ hasTo ns nm (k + 1) = true := by
  have e : lastIx ns nm (k + 1) = k := by unfold lastIx; rw [h]; rfl
  unfold valTo hasTo
  rw [e, if_neg (by omega)]
  exact ⟨rfl, by simp⟩

theorem val_miss {ns vs : List ByteArray} {nm : ByteArray} {k : Nat} (h : sameN (ns.getD k ByteArray.empty) nm = false) : valTo ns vs nm (k + 1) = valTo ns vs nm k ∧ hasTo ns nm (k + 1) = hasTo ns nm k := by
  have e : lastIx ns nm (k + 1) = lastIx ns nm k := by rw [lastIx]; rw [h]; rfl
  unfold valTo hasTo
  rw [e]
  exact ⟨rfl, rfl⟩

theorem Strs.quiet {w wr : World} {ao : Option Addr} {len cap : Nat} {ss : List ByteArray} (S : Strs w ao len cap ss) (h : ∃ n, wr = w.drewN n) : Strs wr ao len cap ss := by
  obtain ⟨n, rfl⟩ := h
  exact ⟨S.hlen, S.hcap, S.hmax, S.hnil, S.cells, S.size⟩

theorem stz_take {w w2 w3 : World} {ao ao' : Option Addr} {len cap len' cap' n g : Nat} {ns vs : List ByteArray} (S : Strs w ao len cap ns) (S' : Strs w2 ao' len' cap' vs) (hn : n ≤ len) (hn' : n ≤ len') (hb : n ≤ 1048576) {base : Nat} {c : Nat}
    (hown : w3.ownsRow base 51 2 (.slice (some ⟨g, 0, none⟩) n c) n (flat ns vs n)) :
    StzAt (w3.alloc (.cells #[.slice (some ⟨g, 0, none⟩) n c, .int .u8 0, .int .u8 0, .string ⟨#[]⟩] 45)) w3.heap.size g c (ns.take n) (vs.take n) := by
  have hn1 := S.hlen
  have hn2 := S'.hlen
  refine stz_of_row (n := n) (base := base) (by simp; omega) (by simp; omega) hb ?_ ?_ (World.cell?_alloc_mark _ _ _ _ _) (World.cell?_alloc_mark _ _ _ _ _)
  · intro i hi
    rw [getD_take hi]
    exact S.size i (by omega)
  · rw [flat_congr (n := n) (ns := ns.take n) (vs := vs.take n) (ns' := ns) (vs' := vs) (fun i hi => getD_take hi) (fun i hi => getD_take hi)]
    exact hown.alloc _

set_option maxHeartbeats 1000000 in
theorem law8 (w : World) (ao : Option Addr) (len cap : Nat) (ns : List ByteArray) (S : Strs w ao len cap ns) (ao' : Option Addr) (len' cap' : Nat) (vs : List ByteArray) (S' : Strs w ao' len' cap' vs)
    (nm : ByteArray) (hnm : nm.size ≤ maxLen) :
    Calls Try.prog 8 #[.slice ao len cap, .slice ao' len' cap', .string nm] w fun e w' => e = .returned (.bool true) ∧ Below w.heap.size w w' := by
  have hm : len ≤ 9223372036854775807 := Nat.le_trans S.hcap S.hmax
  have hm' : len' ≤ 9223372036854775807 := Nat.le_trans S'.hcap S'.hmax
  have hnm' : nm.size ≤ 9223372036854775807 := hnm
  go_enter Try.func8, Try.ntmps8
  go_wp2_with fail
  refine (zz25_any w ao len cap ns S ao' len' cap' vs S' nm hnm).mono ?_
  rintro e w' ⟨rfl, b, rfl⟩
  cases b with
  | false =>
    go_wp2
    go_ret
    exact ⟨rfl, Below.refl _ _⟩
  | true =>
    by_cases hc : len ≤ 65536 ∧ len' ≤ 65536 ∧ nm.size ≤ 1048576
    · obtain ⟨h1, h2, h3⟩ := hc
      go_wp2_with fail
      refine (strBytes_any w ao len cap ns S).mono ?_
      rintro e w' ⟨n1, hn1, hn1', rfl, rfl⟩
      go_wp2_with fail
      refine (strBytes_any w ao' len' cap' vs S').mono ?_
      rintro e w' ⟨n2, hn2, hn2', rfl, rfl⟩
      by_cases hsum : n1 + n2 + nm.size ≤ 1048576
      · have hsum' : ¬ 1048576 < n1 + n2 + nm.size := by omega
        go_wp2_with fail
        refine (cloneStrings_any w ao len cap ns S (by omega)).mono ?_
        rintro e w1 ⟨aoN, capN, rfl, SN, hb1⟩
        go_wp2_with fail
        refine (cloneStrings_any w1 ao' len' cap' vs (S'.below hb1) (by omega)).mono ?_
        rintro e w2 ⟨aoV, capV, rfl, SV, hb2⟩
        go_wp2_with fail
        obtain ⟨n, hnl, hnl', hmin⟩ : ∃ n : Nat, n ≤ len ∧ n ≤ len' ∧ min (len : Int) (len' : Int) = (n : Int) := ⟨min len len', by omega, by omega, by omega⟩
        refine (fieldsOf_any w2 aoN len capN ns (SN.below hb2) aoV len' capV vs SV (by omega) (by omega) n 0 hnl hnl' hmin (by omega)).mono ?_
        rintro e w3 ⟨rfl, hown, hb3⟩
        clear hmin
        have S5 := stz_take S S' hnl hnl' (by omega) hown
        have SN5 := ((SN.below hb2).below hb3).below ((Below.refl _ w3).alloc (Nat.le_refl _) (.cells #[.slice (some ⟨w2.heap.size, 0, none⟩) n n, .int .u8 0, .int .u8 0, .string ⟨#[]⟩] 45))
        have SV5 := (SV.below hb3).below ((Below.refl _ w3).alloc (Nat.le_refl _) (.cells #[.slice (some ⟨w2.heap.size, 0, none⟩) n n, .int .u8 0, .int .u8 0, .string ⟨#[]⟩] 45))
        have hb5 : Below w.heap.size w (w3.alloc (.cells #[.slice (some ⟨w2.heap.size, 0, none⟩) n n, .int .u8 0, .int .u8 0, .string ⟨#[]⟩] 45)) := by
          have z1 := hb1.size
          have z2 := hb2.size
          have z3 := hb3.size
          exact ((hb1.trans (hb2.mono z1)).trans (hb3.mono (by omega))).alloc (by omega) _
        have HV := val_take (ns := ns) (vs := vs) (nm := nm) (n := n) (by rw [S.hlen]; exact hnl)
        clear hown hb1 hb2 hb3 SN SV hsum hsum'
        go_wp2_with fail
        refine (value_any _ _ _ _ _ _ nm S5).mono ?_
        rintro e w' ⟨rfl, m, rfl⟩
        rw [HV.1, HV.2]
        clear HV S5
        generalize hw5 : (w3.alloc (.cells #[.slice (some ⟨w2.heap.size, 0, none⟩) n n, .int .u8 0, .int .u8 0, .string ⟨#[]⟩] 45)) = w5 at *
        clear hw5
        go_wp2
        go_loopw [11, 12, 13] (fun a b i wr => ∃ k : Nat, k ≤ n ∧ i = .int .i64 k ∧ a = .string (valTo ns vs nm k) ∧ b = .bool (hasTo ns nm k) ∧ Hid (∃ m, wr = w5.drewN m)) (fun _ _ i _ => n - (intOf i).toNat)
        case atStart => exact ⟨0, Nat.zero_le _, rfl, rfl, rfl, m, rfl⟩
        case round =>
          obtain ⟨k, hk, rfl, rfl, rfl, hw⟩ := hrel
          by_cases hlt : k < n
          · have SN6 := SN5.quiet hw
            have SV6 := SV5.quiet hw
            obtain ⟨b, off, rfl, hcN⟩ := SN6.cells (by omega)
            obtain ⟨b', off', rfl, hcV⟩ := SV6.cells (by omega)
            have hcN := hcN k (by omega)
            have hcV := hcV k (by omega)
            have hsz := SN6.size k (by omega)
            have hki : (k : Int) < (n : Int) := by omega
            clear SN5 SV5 SN6 SV6 hb5
            have Hhit := fun h => val_hit (ns := ns) (vs := vs) (nm := nm) (k := k) h
            have Hmiss := fun h => val_miss (ns := ns) (vs := vs) (nm := nm) (k := k) h
            generalize ns.getD k ByteArray.empty = s1 at *
            generalize vs.getD k ByteArray.empty = s2 at *
            go_wp2_with fail
            refine (foldEq_any s1 nm wr hsz).mono ?_
            rintro e w' ⟨rfl, m', rfl⟩
            cases hsm : sameN s1 nm with
            | true =>
              have HH : Hid _ := Hhit hsm
              clear Hhit Hmiss
              go_wp2
              go_roundw
              case rel => exact ⟨k + 1, by omega, by go_num, by rw [HH.out.1], by rw [HH.out.2], drewN_more hw m'⟩
              case measure => simp [intOf]; omega
            | false =>
              have HH : Hid _ := Hmiss hsm
              clear Hhit Hmiss
              go_wp2
              go_roundw
              case rel => exact ⟨k + 1, by omega, by go_num, by rw [HH.out.1], by rw [HH.out.2], drewN_more hw m'⟩
              case measure => simp [intOf]; omega
          · obtain rfl : k = n := by omega
            clear SN5 SV5
            have HB : Below w.heap.size w wr := by
              obtain ⟨m', rfl⟩ := hw.out
              exact below_drewN hb5 m'
            clear hb5
            generalize valTo ns vs nm k = gv
            generalize hasTo ns nm k = gb
            cases gb
            all_goals
              go_wp2
              go_ret
              exact ⟨rfl, HB⟩
      · have hsum' : 1048576 < n1 + n2 + nm.size := by omega
        go_wp2
        go_ret
        exact ⟨rfl, Below.refl _ _⟩
    · go_wp2_with fail
      all_goals first
        | (go_ret; exact ⟨rfl, Below.refl _ _⟩)
        | (exfalso; omega)

end Go.Proofs.Qxb6001694a
