import Derived.Test.Qxb6001694aUni
namespace Go.Proofs.Qxb6001694a
open Go.RowKit

set_option maxHeartbeats 400000 in
theorem strBytes_sz (w : World) (ao : Option Addr) (len cap : Nat) (ss : List ByteArray) (S : Strs w ao len cap ss) :
    Calls Try.prog 26 #[.slice ao len cap] w fun e w' => ∃ n : Int, 0 ≤ n ∧ n ≤ 1048577 ∧ e = .returned (.int .i64 n) ∧ w = w' ∧ Hid (n ≤ 1048576 → ∀ i, i < len → (ss.getD i ByteArray.empty).size ≤ 1048576) := by
  have hm : len ≤ 9223372036854775807 := Nat.le_trans S.hcap S.hmax
  go_enter Try.func26, Try.ntmps26
  go_wp2
  go_loop [3, 4] (fun t i => ∃ (k : Nat) (z : Int), k ≤ len ∧ 0 ≤ z ∧ z ≤ 1048576 ∧ i = .int .i64 k ∧ t = .int .i64 z ∧ Hid (∀ j, j < k → (ss.getD j ByteArray.empty).size ≤ 1048576)) (fun _ i => len - (intOf i).toNat)
  case atStart => exact ⟨0, 0, Nat.zero_le _, by omega, by omega, rfl, rfl, fun j hj => by omega⟩
  case round =>
    obtain ⟨k, z, hk, hz0, hz1, rfl, rfl, hsz⟩ := hrel
    by_cases hlt : k < len
    · obtain ⟨b, off, rfl, hc⟩ := S.cells (by omega)
      have hck := hc k hlt
      have HS : Hid ((ss.getD k ByteArray.empty).size ≤ 1048576 → ∀ j, j < k + 1 → (ss.getD j ByteArray.empty).size ≤ 1048576) := fun h j hj => by
        by_cases hjk : j = k
        · subst hjk; exact h
        · exact hsz.out j (by omega)
      clear hc
      generalize ss.getD k ByteArray.empty = s at *
      go_wp2
      · go_ret
        exact ⟨_, by omega, by omega, rfl, rfl, fun h => by omega⟩
      · go_ret
        exact ⟨_, by omega, by omega, rfl, rfl, fun h => by omega⟩
      · go_round
        case rel => exact ⟨k + 1, _, by omega, by omega, by omega, by go_num, rfl, HS.out (by omega)⟩
        case measure => simp [intOf]; omega
    · obtain rfl : k = len := by omega
      go_wp2
      go_ret
      exact ⟨z, hz0, by omega, rfl, rfl, fun _ => hsz.out⟩

theorem hasTo_mem {ns : List ByteArray} {nm : ByteArray} {i : Nat} (h : sameN (ns.getD i ByteArray.empty) nm = true) : ∀ {k : Nat}, i < k → hasTo ns nm k = true
  | k + 1, hi => by
    by_cases hik : i = k
    · subst hik
      exact (val_hit (vs := []) h).2
    · cases hs : sameN (ns.getD k ByteArray.empty) nm with
      | true => exact (val_hit (vs := []) hs).2
      | false =>
        rw [(val_miss (vs := []) hs).2]
        exact hasTo_mem h (by omega)

theorem FldAt.quiet {w wr : World} {g m : Nat} {un uv : List ByteArray} (L : FldAt w g m un uv) (h : ∃ n, wr = w.drewN n) : FldAt wr g m un uv := by
  obtain ⟨n, rfl⟩ := h
  exact ⟨L.name, L.value, L.size⟩

set_option maxHeartbeats 1000000 in
theorem law10 (w : World) (ao : Option Addr) (len cap : Nat) (ns : List ByteArray) (S : Strs w ao len cap ns) (ao' : Option Addr) (len' cap' : Nat) (vs : List ByteArray) (S' : Strs w ao' len' cap' vs) :
    Calls Try.prog 10 #[.slice ao len cap, .slice ao' len' cap'] w fun e w' => e = .returned (.bool true) ∧ Below w.heap.size w w' := by
  have hm : len ≤ 9223372036854775807 := Nat.le_trans S.hcap S.hmax
  have hm' : len' ≤ 9223372036854775807 := Nat.le_trans S'.hcap S'.hmax
  go_enter Try.func10, Try.ntmps10
  go_wp2_with fail
  refine (zz33_any w ao len cap ns S ao' len' cap' vs S').mono ?_
  rintro e w' ⟨rfl, b, rfl⟩
  cases b with
  | false =>
    go_wp2
    go_ret
    exact ⟨rfl, Below.refl _ _⟩
  | true =>
    by_cases hc : len ≤ 4096 ∧ len' ≤ 4096
    · obtain ⟨h1, h2⟩ := hc
      go_wp2_with fail
      refine (strBytes_sz w ao len cap ns S).mono ?_
      rintro e w' ⟨n1, hn1, hn1', rfl, rfl, hsz⟩
      go_wp2_with fail
      refine (strBytes_any w ao' len' cap' vs S').mono ?_
      rintro e w' ⟨n2, hn2, hn2', rfl, rfl⟩
      by_cases hsum : n1 + n2 ≤ 1048576
      · have hsum' : ¬ 1048576 < n1 + n2 := by omega
        have HZ : Hid (∀ i, i < len → (ns.getD i ByteArray.empty).size ≤ 1048576) := hsz.out (by omega)
        clear hsz
        go_wp2_with fail
        refine (cloneStrings_any w ao len cap ns S (by omega)).mono ?_
        rintro e w1 ⟨aoN, capN, rfl, SN, hb1⟩
        go_wp2_with fail
        refine (cloneStrings_any w1 ao' len' cap' vs (S'.below hb1) (by omega)).mono ?_
        rintro e w2 ⟨aoV, capV, rfl, SV, hb2⟩
        go_wp2_with fail
        obtain ⟨n, hnl, hnl', hmin⟩ : ∃ n : Nat, n ≤ len ∧ n ≤ len' ∧ min (len : Int) (len' : Int) = (n : Int) := ⟨min len len', by omega, by omega, by omega⟩
        refine (fieldsOf_any w2 aoN len capN ns (SN.below hb2) aoV len' capV vs SV (by omega) (by omega) n 0 hnl hnl' hmin (by omega)).mono ?_
        rintro e w3 ⟨rfl, hown, hb3⟩
        clear hmin
        have S5 := stz_take S S' hnl hnl' (by omega) hown
        have SN5 := ((SN.below hb2).below hb3).below ((Below.refl _ w3).alloc (Nat.le_refl _) (.cells #[.slice (some ⟨w2.heap.size, 0, none⟩) n n, .int .u8 0, .int .u8 0, .string ⟨#[]⟩] 45))
        have hb5 : Below w.heap.size w (w3.alloc (.cells #[.slice (some ⟨w2.heap.size, 0, none⟩) n n, .int .u8 0, .int .u8 0, .string ⟨#[]⟩] 45)) := by
          have z1 := hb1.size
          have z2 := hb2.size
          have z3 := hb3.size
          exact ((hb1.trans (hb2.mono z1)).trans (hb3.mono (by omega))).alloc (by omega) _
        have el : (ns.take n).length = n := by simp [S.hlen]; omega
        have EL : Hid ((ns.take n).length = n) := el
        clear hown hb1 hb2 hb3 SN SV hsum hsum' el
        go_wp2_with fail
        refine (unique_any _ _ _ _ (ns.take n) (vs.take n) S5 (fun i hi => ?_)).mono ?_
        · rw [EL.out] at hi
          rw [getD_take hi]
          exact HZ.out i (by omega)
        rintro e w6 ⟨g, cu, un, uv, rfl, FU, U, hb6⟩
        have S6 := S5.below hb6
        have SN6 := SN5.below hb6
        have hb7 : Below w.heap.size w w6 := hb5.trans (hb6.mono (by have := hb5.size; exact this))
        have hun : un.length ≤ n := by have := U.le; rw [EL.out] at this; exact this
        have hun' : decide ((n : Int) < (un.length : Int)) = false := by simp; omega
        have hun'' : ¬ n < un.length := by omega
        generalize hB : w3.heap.size = B at *
        clear S5 SN5 hb5 hb6 hB
        go_wp2
        go_loopw [8] (fun i wr => ∃ k : Nat, k ≤ un.length ∧ i = .int .i64 k ∧ Hid (∃ m, wr = w6.drewN m)) (fun i _ => un.length - (intOf i).toNat)
        case atStart => exact ⟨0, Nat.zero_le _, rfl, 0, rfl⟩
        case round =>
          obtain ⟨k, hk, rfl, hw⟩ := hrel
          by_cases hlt : k < un.length
          · have FU7 := FU.quiet hw
            have S7 := S6.quiet hw
            have c0 := FU7.name k hlt
            have c1 := FU7.value k hlt
            have hki : (k : Int) < (un.length : Int) := by omega
            have HV : Hid (valOf (ns.take n) (vs.take n) (un.getD k ByteArray.empty) = uv.getD k ByteArray.empty ∧ hasOf (ns.take n) (un.getD k ByteArray.empty) = true) := U.val k hlt
            clear FU7
            generalize un.getD k ByteArray.empty = s1 at *
            generalize uv.getD k ByteArray.empty = s2 at *
            go_wp2_with fail
            refine (value_any _ _ _ _ _ _ s1 S7).mono ?_
            rintro e w' ⟨rfl, m, rfl⟩
            rw [HV.out.1, HV.out.2]
            clear S7
            go_wp2
            go_roundw
            case rel => exact ⟨k + 1, by omega, by go_num, drewN_more hw m⟩
            case measure => simp [intOf]; omega
          · go_wp2
            obtain ⟨wo, hwo⟩ : ∃ wo : World, wo = wr := ⟨_, rfl⟩
            go_loopw [11] (fun i wr => ∃ k : Nat, k ≤ n ∧ i = .int .i64 k ∧ Hid (∃ m, wr = w6.drewN m)) (fun i _ => n - (intOf i).toNat)
            case atStart => exact ⟨0, Nat.zero_le _, rfl, hw⟩
            case round =>
              obtain ⟨k, hk, rfl, hw⟩ := hrel
              by_cases hlt : k < n
              · have SN7 := SN6.quiet hw
                have S7 := S6.quiet hw
                obtain ⟨b, off, rfl, hcN⟩ := SN7.cells (by omega)
                have hcN := hcN k (by omega)
                have hki : (k : Int) < (n : Int) := by omega
                have HV : Hid (hasOf (ns.take n) (ns.getD k ByteArray.empty) = true) := by
                  have h := hasTo_mem (ns := ns.take n) (nm := ns.getD k ByteArray.empty) (i := k) (by rw [getD_take hlt]; exact sameN_iff.2 rfl) (k := (ns.take n).length) (by rw [EL.out]; exact hlt)
                  exact h
                clear SN7
                generalize ns.getD k ByteArray.empty = s1 at *
                go_wp2_with fail
                refine (value_any _ _ _ _ _ _ s1 S7).mono ?_
                rintro e w' ⟨rfl, m, rfl⟩
                rw [HV.out]
                generalize valOf (ns.take n) (vs.take n) s1 = sv
                clear S7
                go_wp2
                go_roundw
                case rel => exact ⟨k + 1, by omega, by go_num, drewN_more hw m⟩
                case measure => simp [intOf]; omega
              · have HB : Below w.heap.size w wr := by
                  obtain ⟨m', rfl⟩ := hw.out
                  exact below_drewN hb7 m'
                go_wp2
                go_ret
                exact ⟨rfl, HB⟩
      · have hsum' : 1048576 < n1 + n2 := by omega
        go_wp2
        go_ret
        exact ⟨rfl, Below.refl _ _⟩
    · go_wp2_with fail
      all_goals first
        | (go_ret; exact ⟨rfl, Below.refl _ _⟩)
        | (exfalso; omega)

end Go.Proofs.Qxb6001694a
