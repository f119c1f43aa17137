import Derived.Test.Qxb6001694aFld
namespace Go.Proofs.Qxb6001694a
open Go.RowKit

theorem Strs.below {w w' : World} {ao : Option Addr} {len cap : Nat} {ss : List ByteArray} (S : Strs w ao len cap ss) (hb : Below w.heap.size w w') : Strs w' ao len cap ss :=
  ⟨S.hlen, S.hcap, S.hmax, S.hnil, fun h => by
    obtain ⟨b, off, ha, hc⟩ := S.cells h
    exact ⟨b, off, ha, fun i hi => (hb.cell (p := ⟨b, off + i, none⟩) (by exact World.block_lt_of_cell? w _ (hc i hi))).trans (hc i hi)⟩, S.size⟩

theorem flat_congr {ns vs ns' vs' : List ByteArray} : ∀ {n : Nat}, (∀ i, i < n → ns.getD i ByteArray.empty = ns'.getD i ByteArray.empty) → (∀ i, i < n → vs.getD i ByteArray.empty = vs'.getD i ByteArray.empty) → flat ns vs n = flat ns' vs' n
  | 0, _, _ => rfl
  | n + 1, h, h' => by
    unfold flat
    rw [flat_congr (fun i hi => h i (by omega)) (fun i hi => h' i (by omega)), h n (by omega), h' n (by omega)]

theorem getD_take {l : List ByteArray} {n i : Nat} (h : i < n) : (l.take n).getD i ByteArray.empty = l.getD i ByteArray.empty := by
  rw [List.getD_eq_getElem?_getD, List.getD_eq_getElem?_getD, List.getElem?_take, if_pos h]

theorem getD_snoc_lt {l : List ByteArray} {x : ByteArray} {i : Nat} (h : i < l.length) : (l ++ [x]).getD i ByteArray.empty = l.getD i ByteArray.empty := by
  rw [List.getD_eq_getElem?_getD, List.getD_eq_getElem?_getD, List.getElem?_append_left h]

theorem getD_snoc_eq {l : List ByteArray} {x : ByteArray} {i : Nat} (h : i = l.length) : (l ++ [x]).getD i ByteArray.empty = x := by
  subst h
  simp

theorem flat_at {ns vs : List ByteArray} : ∀ {n i : Nat}, i < n → (flat ns vs n)[i * 2]? = some (.string (ns.getD i ByteArray.empty)) ∧ (flat ns vs n)[i * 2 + 1]? = some (.string (vs.getD i ByteArray.empty))
  | n + 1, i, h => by
    unfold flat
    have hl := flat_len ns vs n
    by_cases hi : i < n
    · rw [List.getElem?_append_left (by omega), List.getElem?_append_left (by omega)]
      exact flat_at hi
    · obtain rfl : i = n := by omega
      rw [List.getElem?_append_right (by omega), List.getElem?_append_right (by omega), hl, Nat.sub_self, show i * 2 + 1 - i * 2 = 1 by omega]
      exact ⟨rfl, rfl⟩

/-- A stanza's block over a row of fields. -/
theorem stz_of_row {w : World} {base B g cap n : Nat} {ns vs : List ByteArray} (hn : ns.length = n) (hv : vs.length = n) (hb : n ≤ 1048576) (hs : ∀ i, i < n → (ns.getD i ByteArray.empty).size ≤ maxLen)
    (hown : w.ownsRow base 51 2 (.slice (some ⟨g, 0, none⟩) n cap) n (flat ns vs n))
    (h0 : w.cell? ⟨B, 0, none⟩ = some (.slice (some ⟨g, 0, none⟩) n cap)) (h2 : w.cell? ⟨B, 2, none⟩ = some (.int .u8 0)) : StzAt w B g cap ns vs := by
  subst hn
  refine ⟨hv, hb, h0, h2, fun i hi => ?_, fun i hi => ?_, hs⟩
  · rw [hown.cellAt (i * 2) (by omega), (flat_at hi).1]
  · rw [hown.cellAt (i * 2 + 1) (by omega), (flat_at hi).2]

theorem lastIx_snoc {ns : List ByteArray} {nm t : ByteArray} (h : keyL t = keyL nm) : lastIx (ns ++ [nm]) t (ns ++ [nm]).length = (ns.length : Int) := by
  rw [List.length_append, List.length_singleton]
  unfold lastIx
  rw [getD_snoc_eq rfl, if_pos]
  unfold sameN
  rw [decide_eq_true_iff]
  exact h.symm

theorem valOf_snoc {ns vs : List ByteArray} {nm vl t : ByteArray} (hl : vs.length = ns.length) (h : keyL t = keyL nm) : valOf (ns ++ [nm]) (vs ++ [vl]) t = vl ∧ hasOf (ns ++ [nm]) t = true := by
  unfold valOf hasOf
  rw [lastIx_snoc h, if_neg (by omega), getD_snoc_eq (by omega)]
  simp

theorem flat_snoc {ns vs : List ByteArray} {n : Nat} {nm vl : ByteArray} (h : n ≤ ns.length) (h' : n ≤ vs.length) :
    flat ns vs n ++ [.string nm, .string vl] = flat (ns.take n ++ [nm]) (vs.take n ++ [vl]) (n + 1) := by
  have e : (ns.take n).length = n := by simp; omega
  have e' : (vs.take n).length = n := by simp; omega
  show _ = flat (ns.take n ++ [nm]) (vs.take n ++ [vl]) n ++ [.string ((ns.take n ++ [nm]).getD n ByteArray.empty), .string ((vs.take n ++ [vl]).getD n ByteArray.empty)]
  rw [getD_snoc_eq e.symm, getD_snoc_eq e'.symm]
  rw [flat_congr (n := n) (ns := ns) (vs := vs) (ns' := ns.take n ++ [nm]) (vs' := vs.take n ++ [vl])]
  · intro i hi
    rw [getD_snoc_lt (by omega), getD_take hi]
  · intro i hi
    rw [getD_snoc_lt (by omega), getD_take hi]

theorem cells_two (w : World) (a b : Value) (t : TypeId) : ∀ j u, [a, b][j]? = some u → (w.alloc (.cells #[a, b] t)).cell? ((⟨w.heap.size, 0, none⟩ : Addr).add j) = some u := by
  intro j u hu
  have hj : j < 2 := by
    have := (List.getElem?_eq_some_iff.1 hu).1
    simpa using this
  rw [Addr.add_lit, Nat.zero_add, World.cell?_alloc_mark]
  simpa using hu

theorem StzAt.below {w w' : World} {B g cap : Nat} {ns vs : List ByteArray} (S : StzAt w B g cap ns vs) (hb : Below w.heap.size w w') : StzAt w' B g cap ns vs := by
  have old : ∀ {p : Addr} {v : Value}, w.cell? p = some v → w'.cell? p = some v := fun {p} {v} h => (hb.cell (by exact World.block_lt_of_cell? w _ h)).trans h
  exact ⟨S.len, S.bound, old S.fields, old S.rule, fun i hi => old (S.name i hi), fun i hi => old (S.value i hi), S.size⟩

set_option maxHeartbeats 1000000 in
theorem law9 (w : World) (ao : Option Addr) (len cap : Nat) (ns : List ByteArray) (S : Strs w ao len cap ns) (ao' : Option Addr) (len' cap' : Nat) (vs : List ByteArray) (S' : Strs w ao' len' cap' vs)
    (nm vl : ByteArray) (hnm : nm.size ≤ maxLen) (hvl : vl.size ≤ maxLen) :
    Calls Try.prog 9 #[.slice ao len cap, .slice ao' len' cap', .string nm, .string vl] w fun e w' => e = .returned (.bool true) ∧ Below w.heap.size w w' := by
  have hm : len ≤ 9223372036854775807 := Nat.le_trans S.hcap S.hmax
  have hm' : len' ≤ 9223372036854775807 := Nat.le_trans S'.hcap S'.hmax
  have hnm' : nm.size ≤ 9223372036854775807 := hnm
  have hvl' : vl.size ≤ 9223372036854775807 := hvl
  go_enter Try.func9, Try.ntmps9
  go_wp2_with fail
  refine (zz31_any w ao len cap ns S ao' len' cap' vs S' nm hnm vl hvl).mono ?_
  rintro e w' ⟨rfl, b, rfl⟩
  cases b with
  | false =>
    go_wp2
    go_ret
    exact ⟨rfl, Below.refl _ _⟩
  | true =>
    by_cases hc : len ≤ 65536 ∧ len' ≤ 65536 ∧ nm.size ≤ 1048576 ∧ vl.size ≤ 1048576
    · obtain ⟨h1, h2, h3, h4⟩ := hc
      go_wp2_with fail
      refine (strBytes_any w ao len cap ns S).mono ?_
      rintro e w' ⟨n1, hn1, hn1', rfl, rfl⟩
      go_wp2_with fail
      refine (strBytes_any w ao' len' cap' vs S').mono ?_
      rintro e w' ⟨n2, hn2, hn2', rfl, rfl⟩
      by_cases hsum : n1 + n2 + nm.size + vl.size ≤ 1048576
      · have hsum' : ¬ 1048576 < n1 + n2 + nm.size + vl.size := by omega
        go_wp2_with fail
        refine (cloneStrings_any w ao len cap ns S (by omega)).mono ?_
        rintro e w1 ⟨aoN, capN, rfl, SN, hb1⟩
        go_wp2_with fail
        refine (cloneStrings_any w1 ao' len' cap' vs (S'.below hb1) (by omega)).mono ?_
        rintro e w2 ⟨aoV, capV, rfl, SV, hb2⟩
        go_wp2_with fail
        obtain ⟨n, hnl, hnl', hmin⟩ : ∃ n : Nat, n ≤ len ∧ n ≤ len' ∧ min (len : Int) (len' : Int) = (n : Int) := ⟨min len len', by omega, by omega, by omega⟩
        refine (fieldsOf_any w2 aoN len capN ns (SN.below hb2) aoV len' capV vs SV (by omega) (by omega) n 1 hnl hnl' hmin (by omega)).mono ?_
        rintro e w3 ⟨rfl, hown, hb3⟩
        clear hmin
        obtain ⟨i0, hi, hz0, hz1, hz2⟩ := info_parts Try.info51
        go_wp2_with (at_builtin; refine wpList_append_fits _ rfl _ _ 39 rfl w2.heap.size 51 i0 2 Try.underlying39 hi hz1 w2.heap.size n (n + 1) (flat ns vs n) rfl (hown.alloc _) ⟨w3.heap.size, 0, none⟩ 1 1 [.string nm, .string vl] rfl rfl ?c1 ?c2 (by omega) ?_)
        case c1 => exact cells_two _ _ _ _
        case c2 => intro u hu; simp at hu; rcases hu with rfl | rfl <;> rfl
        intro w4 hown4 hgrow4
        have hb4 : Below w2.heap.size w2 w4 := (hb3.alloc hb3.size _).grown hgrow4 (by have := hb3.size; simp; omega) (by intro k hk; simp at hk; omega)
        have HN : Hid (flat ns vs n ++ [.string nm, .string vl] = flat (ns.take n ++ [nm]) (vs.take n ++ [vl]) (n + 1)) := flat_snoc (by rw [S.hlen]; exact hnl) (by rw [S'.hlen]; exact hnl')
        rw [HN.out] at hown4
        clear hi hz0 hz1 hz2 hown hgrow4 hb3 HN
        have en : (ns.take n).length = n := by simp [S.hlen]; omega
        have ev : (vs.take n).length = n := by simp [S'.hlen]; omega
        have S5 : StzAt (w4.alloc (.cells #[.slice (some ⟨w2.heap.size, 0, none⟩) (n + 1) (n + 1), .int .u8 0, .int .u8 0, .string ⟨#[]⟩] 45)) w4.heap.size w2.heap.size (n + 1) (ns.take n ++ [nm]) (vs.take n ++ [vl]) := by
          refine stz_of_row (n := n + 1) (by simp [S.hlen]; omega) (by simp [S'.hlen]; omega) (by omega) ?_ (hown4.alloc _) (World.cell?_alloc_mark _ _ _ _ _) (World.cell?_alloc_mark _ _ _ _ _)
          intro i hi
          by_cases hin : i < n
          · rw [getD_snoc_lt (by omega), getD_take hin]
            exact S.size i (by omega)
          · rw [getD_snoc_eq (by omega)]
            exact hnm
        have hb5 : Below w.heap.size w (w4.alloc (.cells #[.slice (some ⟨w2.heap.size, 0, none⟩) (n + 1) (n + 1), .int .u8 0, .int .u8 0, .string ⟨#[]⟩] 45)) := by
          have z1 := hb1.size
          have z2 := hb2.size
          have z4 := hb4.size
          exact ((hb1.trans (hb2.mono z1)).trans (hb4.mono (by omega))).alloc (by omega) _
        have HV := fun t (h : keyL t = keyL nm) => valOf_snoc (ns := ns.take n) (vs := vs.take n) (nm := nm) (vl := vl) (t := t) (by rw [en, ev]) h
        have HS := S5.size
        clear hown4 hb4 SN SV en ev hb1 hb2
        go_wp2_with fail
        refine (value_any _ _ _ _ _ _ nm S5).mono ?_
        rintro e w' ⟨rfl, m, rfl⟩
        rw [(HV nm rfl).1, (HV nm rfl).2]
        go_wp2_with fail
        refine (swapCase_any _ nm h3).mono ?_
        rintro e w6 ⟨t, rfl, hkey, hts, hb6⟩
        have S6 := (S5.quiet ⟨m, rfl⟩).below hb6
        have HT := HV t hkey
        have HB : Below w.heap.size w w6 := (below_drewN hb5 m).trans (hb6.mono (by have := hb5.size; simpa using this))
        clear HV HS S5 hb5 hb6 hkey hts
        go_wp2_with fail
        refine (value_any _ _ _ _ _ _ t S6).mono ?_
        rintro e w' ⟨rfl, m', rfl⟩
        rw [HT.1, HT.2]
        go_wp2
        go_ret
        exact ⟨rfl, below_drewN HB m'⟩
      · have hsum' : 1048576 < n1 + n2 + nm.size + vl.size := by omega
        go_wp2
        go_ret
        exact ⟨rfl, Below.refl _ _⟩
    · go_wp2_with fail
      all_goals first
        | (go_ret; exact ⟨rfl, Below.refl _ _⟩)
        | (exfalso; omega)

end Go.Proofs.Qxb6001694a
