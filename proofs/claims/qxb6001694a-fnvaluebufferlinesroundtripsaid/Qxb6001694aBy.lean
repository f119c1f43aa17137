import Derived.Test.Qxb6001694aSnl
namespace Go.Proofs.Qxb6001694a
open Go.RowKit

def IsBo (e : Ending) : Prop := ∃ b : Bool, e = .returned (.bool b)

set_option maxHeartbeats 400000 in
theorem zz11_any (w : World) (a0 : Bool) (a1 : Bool) (o2 : Option Addr) (l2 c2 : Nat) (h2 : l2 ≤ maxLen) (o3 : Option Addr) (l3 c3 : Nat) (h3 : l3 ≤ maxLen) :
    Calls Try.prog 11 #[.bool a0, .bool a1, .slice o2 l2 c2, .slice o3 l3 c3] w fun e w' => w = w' ∧ IsBo e := by
  unfold maxLen at h2
  unfold maxLen at h3
  go_enter Try.func11, Try.ntmps11
  go_wp2
  all_goals
    go_ret
    exact ⟨rfl, _, rfl⟩

set_option maxHeartbeats 400000 in
theorem zz18_any (w : World) (a0 : Bool) (a1 : Bool) (o2 : Option Addr) (l2 c2 : Nat) (h2 : l2 ≤ maxLen) (o3 : Option Addr) (l3 c3 : Nat) (h3 : l3 ≤ maxLen) (a4 : Int) (a5 : Int) :
    Calls Try.prog 18 #[.bool a0, .bool a1, .slice o2 l2 c2, .slice o3 l3 c3, .int .i64 a4, .int .i64 a5] w fun e w' => w = w' ∧ IsBo e := by
  unfold maxLen at h2
  unfold maxLen at h3
  go_enter Try.func18, Try.ntmps18
  go_wp2
  all_goals
    go_ret
    exact ⟨rfl, _, rfl⟩

set_option maxHeartbeats 400000 in
theorem zz20_any (w : World) (a0 : Bool) (a1 : Bool) (o2 : Option Addr) (l2 c2 : Nat) (h2 : l2 ≤ maxLen) (o3 : Option Addr) (l3 c3 : Nat) (h3 : l3 ≤ maxLen) :
    Calls Try.prog 20 #[.bool a0, .bool a1, .slice o2 l2 c2, .slice o3 l3 c3] w fun e w' => w = w' ∧ IsBo e := by
  unfold maxLen at h2
  unfold maxLen at h3
  go_enter Try.func20, Try.ntmps20
  go_wp2
  all_goals
    go_ret
    exact ⟨rfl, _, rfl⟩

set_option maxHeartbeats 400000 in
theorem zz22_any (w : World) (a0 : Bool) (a1 : Bool) (o2 : Option Addr) (l2 c2 : Nat) (h2 : l2 ≤ maxLen) (o3 : Option Addr) (l3 c3 : Nat) (h3 : l3 ≤ maxLen) (o4 : Option Addr) (l4 c4 : Nat) (h4 : l4 ≤ maxLen) :
    Calls Try.prog 22 #[.bool a0, .bool a1, .slice o2 l2 c2, .slice o3 l3 c3, .slice o4 l4 c4] w fun e w' => w = w' ∧ IsBo e := by
  unfold maxLen at h2
  unfold maxLen at h3
  unfold maxLen at h4
  go_enter Try.func22, Try.ntmps22
  go_wp2
  all_goals
    go_ret
    exact ⟨rfl, _, rfl⟩

set_option maxHeartbeats 400000 in
theorem zz24_any (w : World) (a0 : Bool) (o1 : Option Addr) (l1 c1 : Nat) (h1 : l1 ≤ maxLen) :
    Calls Try.prog 24 #[.bool a0, .slice o1 l1 c1] w fun e w' => w = w' ∧ IsBo e := by
  unfold maxLen at h1
  go_enter Try.func24, Try.ntmps24
  go_wp2
  all_goals
    go_ret
    exact ⟨rfl, _, rfl⟩

theorem drewN_more' {w wr : World} (h : ∃ n, wr = w.drewN n) (m : Nat) : ∃ n, wr.drewN m = w.drewN n := by
  obtain ⟨n, rfl⟩ := h
  exact ⟨n + m, by rw [World.drewN_drewN]⟩

theorem Byts.up {w : World} {N N' : Nat} {ao : Option Addr} {len cap : Nat} {bs : List UInt8} (S : Byts w N ao len cap bs) (h : N ≤ N') : Byts w N' ao len cap bs :=
  ⟨S.hlen, S.hcap, S.hmax, S.hnil, fun h0 => by
    obtain ⟨b, off, ha, hb, hc⟩ := S.cells h0
    exact ⟨b, off, ha, by omega, hc⟩⟩

theorem Byts.below {w w' : World} {N : Nat} {ao : Option Addr} {len cap : Nat} {bs : List UInt8} (S : Byts w N ao len cap bs) (hb : Below w.heap.size w w') : Byts w' N ao len cap bs :=
  S.only (Below.only hb (fun _ => False)) (fun _ _ h => h)

theorem byts_row {w : World} {base N g n cap : Nat} {bs : List UInt8} (hl : bs.length = n) (hg : g < N) (hcm : cap ≤ maxLen) (h : w.ownsRow base 5 1 (.slice (some ⟨g, 0, none⟩) n cap) n (vals bs)) : Byts w N (some ⟨g, 0, none⟩) n cap bs := by
  refine ⟨hl, ?_, hcm, (fun h => by simp at h), fun _ => ⟨g, 0, rfl, hg, fun i hi => ?_⟩⟩
  · rcases h.2 with ⟨h', _⟩ | ⟨g', c', cur, h', _, _, hle, _⟩
    · simp at h'
    · simp only [Value.slice.injEq] at h'
      omega
  · rw [Nat.zero_add, h.cellAt i (by omega), vals_at (by omega)]

/-- The new row behind k rounds. -/
def halfB (vs : List UInt8) (len k : Nat) : List Value := vals (vs.take k) ++ List.replicate (len - k) (.int .u8 0)

theorem halfB_len {vs : List UInt8} {len k : Nat} (h : vs.length = len) (hk : k ≤ len) : (halfB vs len k).length = len := by
  simp [halfB, vals_length]; omega

theorem halfB_set {vs : List UInt8} {len k : Nat} (h : vs.length = len) (hk : k < len) : (halfB vs len k).set k (.int .u8 ((vs.getD k 0).toNat : Int)) = halfB vs len (k + 1) := by
  unfold halfB
  have e1 : (vals (vs.take k)).length = k := by rw [vals_length, List.length_take]; omega
  rw [List.set_append_right _ _ (by omega), e1, Nat.sub_self]
  have e2 : len - k = (len - (k + 1)) + 1 := by omega
  have e3 : vs[k]? = some (vs.getD k 0) := by
    rw [List.getD_eq_getElem?_getD, List.getElem?_eq_getElem (by omega)]; rfl
  rw [e2, List.replicate_succ, List.set_cons_zero, List.take_add_one, vals_append, List.append_assoc, e3]
  rfl

theorem halfB_full {vs : List UInt8} {len : Nat} (h : vs.length = len) : halfB vs len len = vals vs := by
  unfold halfB
  rw [List.take_of_length_le (by omega)]
  simp

/-- What cloneBytes leaves. -/
def ClonedB (w : World) (len : Nat) (vs : List UInt8) (e : Ending) (w' : World) : Prop :=
  ∃ ao cap, e = .returned (.slice ao len cap) ∧ Byts w' w'.heap.size ao len cap vs ∧ Below w.heap.size w w'

set_option maxHeartbeats 400000 in
theorem cloneBytes_any (w : World) (N : Nat) (ao : Option Addr) (len cap : Nat) (vs : List UInt8) (S : Byts w N ao len cap vs) (hb : len ≤ 1048576) :
    Calls Try.prog 12 #[.slice ao len cap] w (ClonedB w len vs) := by
  have heq := fun (wx : World) (a : Option Addr) (n c : Nat) => Lib.run_eql_slice_nil (P := Try.prog) wx 22 5 a n c 0 0 Try.underlying22
  have HB : Hid _ := hb
  have hm : len ≤ 9223372036854775807 := Nat.le_trans S.hcap S.hmax
  clear hb
  cases ao with
  | none =>
    go_enter Try.func12, Try.ntmps12
    go_wp2
    go_ret
    have h0 := S.hnil rfl
    have h1 := S.hcap
    exact ⟨none, 0, by rw [show len = 0 from by omega]; rfl, ⟨S.hlen, by omega, by simp [maxLen], fun _ => rfl, fun h => by omega⟩, Below.refl _ _⟩
  | some a =>
    obtain ⟨i0, hi, hz0, hz1, hz2⟩ := info_parts Try.info5b
    go_enter Try.func12, Try.ntmps12
    go_wp2_with (at_make; refine wpList_make_full _ rfl _ _ 22 rfl w.heap.size 5 i0 (.int .u8 0) 1 Try.underlying22 hi hz0 hz1 .i64 .i64 (len : Int) (len : Int) len rfl rfl rfl rfl (by rw [hz2]; have := HB.out; omega) (by unfold maxLen; omega) (Nat.le_refl _) ?_)
    intro w1 hown hgrow
    rw [toList_madeCells_one] at hown
    have hown0 : w1.ownsRow w.heap.size 5 1 (Value.slice (some ⟨w.heap.size, 0, none⟩) len len) len (halfB vs len 0) := by simpa [halfB, vals] using hown
    have hbel : Below w.heap.size w w1 := (Below.refl _ _).grown hgrow (Nat.le_refl _) (by simp)
    clear hown hgrow hi hz0 hz1 hz2 heq
    go_wp2
    go_loopw [4] (fun i wr => ∃ k : Nat, k ≤ len ∧ i = .int .i64 k ∧ wr.ownsRow w.heap.size 5 1 (Value.slice (some ⟨w.heap.size, 0, none⟩) len len) len (halfB vs len k) ∧ Below w.heap.size w wr) (fun i _ => len - (intOf i).toNat)
    case atStart => exact ⟨0, Nat.zero_le _, rfl, hown0, hbel⟩
    case round =>
      obtain ⟨k, hk, rfl, hown, hbw⟩ := hrel
      clear hown0 hbel
      by_cases hlt : k < len
      · obtain ⟨b, off, ha, _, hc⟩ := S.cells (by omega)
        simp only [Option.some.injEq] at ha
        subst ha
        have hcw := hc k hlt
        have hck : wr.cell? ⟨b, off + k, none⟩ = some (.int .u8 ((vs.getD k 0).toNat : Int)) := (hbw.cell (p := ⟨b, off + k, none⟩) (by exact World.block_lt_of_cell? w _ hcw)).trans hcw
        have hold := hown.cellAt k (by omega)
        obtain ⟨u, hu⟩ : ∃ u, (halfB vs len k)[k]? = some u := ⟨_, List.getElem?_eq_getElem (by rw [halfB_len S.hlen hk]; exact hlt)⟩
        rw [hu] at hold
        have hfz := hown.frozenAt k
        have hst := hown.stored k (.int .u8 ((vs.getD k 0).toNat : Int))
        rw [halfB_set S.hlen hlt] at hst
        have HBW : Below w.heap.size w (wr.setCell ⟨w.heap.size, k, none⟩ (.int .u8 ((vs.getD k 0).toNat : Int))) := hbw.setCell (by exact Nat.le_refl _) _
        have HO := hst.1
        clear hst hown hu hc hcw
        generalize ((vs.getD k 0).toNat : Int) = s at *
        go_wp2
        go_roundw
        case rel => exact ⟨k + 1, by omega, by go_num, HO, HBW⟩
        case measure => simp [intOf]; omega
      · have hkl : k = len := by omega
        subst hkl
        rw [halfB_full S.hlen] at hown
        have HS := byts_row (N := wr.heap.size) S.hlen (hown.lt w.heap.size rfl).2 (by unfold maxLen; omega) hown
        clear hown
        go_wp2
        go_ret
        exact ⟨_, _, rfl, HS, hbw⟩

/-- What bufBytes leaves. -/
def ReadB (w : World) (bs : List UInt8) (e : Ending) (w' : World) : Prop :=
  e = .returned (.slice (some ⟨w.heap.size, 0, none⟩) bs.length bs.length) ∧ w'.ownsRow w.heap.size 5 1 (.slice (some ⟨w.heap.size, 0, none⟩) bs.length bs.length) bs.length (vals bs) ∧ Below w.heap.size w w'

set_option maxHeartbeats 400000 in
theorem bufBytes_any (w : World) (B : Nat) (T : Nat → Prop) (lines trim : Bool) (bs : List UInt8) (X : Buf w T B lines trim bs) (hbs : bs.length ≤ 4194304) :
    Calls Try.prog 17 #[.pointer (some ⟨B, 0, none⟩)] w (ReadB w bs) := by
  obtain ⟨ls, fo, capf, gs, lo, n, cap, X, hT⟩ := X
  have HB : Hid _ := hbs
  obtain ⟨i0, hi, hz0, hz1, hz2⟩ := info_parts Try.info5b
  obtain ⟨L, hL⟩ : ∃ L, bs.length = L := ⟨_, rfl⟩
  have HL : Hid _ := hL
  have hLI : (L : Int) ≤ 4194304 := by omega
  clear hbs hT
  go_enter Try.func17, Try.ntmps17
  go_wp2_with fail
  refine (zzLen_any w B lines ls trim fo capf gs lo n cap bs X HB.out).mono ?_
  rintro e w' ⟨rfl, q, rfl⟩
  rw [hL]
  clear hL
  go_wp2_with (at_make; refine wpList_make_full _ rfl _ _ 22 rfl w.heap.size 5 i0 (.int .u8 0) 1 Try.underlying22 hi hz0 hz1 .i64 .i64 (L : Int) (L : Int) L rfl rfl rfl rfl (by rw [hz2]; omega) (by unfold maxLen; omega) (by simp) ?_)
  intro w1 hown hgrow
  rw [toList_madeCells_one] at hown
  have hown0 : w1.ownsRow w.heap.size 5 1 (Value.slice (some ⟨w.heap.size, 0, none⟩) L L) L (halfB bs L 0) := by simpa [halfB, vals] using hown
  have hbel : Below w.heap.size w w1 := (below_drewN (Below.refl _ w) q).grown hgrow (by simp) (by simp)
  clear hown hgrow hi hz0 hz1 hz2
  go_wp2
  go_loopw [5] (fun i wr => ∃ k : Nat, k ≤ L ∧ i = .int .i64 k ∧ wr.ownsRow w.heap.size 5 1 (Value.slice (some ⟨w.heap.size, 0, none⟩) L L) L (halfB bs L k) ∧ Below w.heap.size w wr) (fun i _ => L - (intOf i).toNat)
  case atStart => exact ⟨0, Nat.zero_le _, rfl, hown0, hbel⟩
  case round =>
    obtain ⟨k, hk, rfl, hown, hbw⟩ := hrel
    clear hown0 hbel
    by_cases hlt : k < L
    · have hold := hown.cellAt k (by omega)
      obtain ⟨u, hu⟩ : ∃ u, (halfB bs L k)[k]? = some u := ⟨_, List.getElem?_eq_getElem (by rw [halfB_len HL.out hk]; exact hlt)⟩
      rw [hu] at hold
      have hfz := hown.frozenAt k
      have hst := hown.stored k (.int .u8 ((bs.getD k 0).toNat : Int))
      rw [halfB_set HL.out hlt] at hst
      have HBW : Below w.heap.size w (wr.setCell ⟨w.heap.size, k, none⟩ (.int .u8 ((bs.getD k 0).toNat : Int))) := hbw.setCell (by exact Nat.le_refl _) _
      have HO := hst.1
      have XR := X.only (Below.only hbw (fun _ => False)) (fun _ _ h => h)
      clear hst hown hu
      go_wp2_with fail
      refine (zzByteAt_any wr B lines ls trim fo capf gs lo n cap bs XR HB.out k (by rw [HL.out]; exact hlt)).mono ?_
      rintro e w' ⟨rfl, rfl⟩
      generalize ((bs.getD k 0).toNat : Int) = s at *
      clear XR
      go_wp2
      go_roundw
      case rel => exact ⟨k + 1, by omega, by go_num, HO, HBW⟩
      case measure => simp [intOf]; omega
    · obtain rfl : k = L := by omega
      rw [halfB_full HL.out] at hown
      have HX : Hid _ := hown
      clear hown
      go_wp2
      go_ret
      refine ⟨?_, ?_, hbw⟩
      · rw [HL.out]; rfl
      · rw [HL.out]; exact HX.out

set_option maxHeartbeats 400000 in
theorem sameBytes_any (w : World) (N N' : Nat) (ao ao' : Option Addr) (la ca lb cb : Nat) (xs ys : List UInt8) (S : Byts w N ao la ca xs) (S' : Byts w N' ao' lb cb ys) :
    Calls Try.prog 16 #[.slice ao la ca, .slice ao' lb cb] w fun e w' => e = .returned (.bool (decide (xs = ys))) ∧ ∃ q, w' = w.drewN q := by
  have hm : la ≤ 9223372036854775807 := Nat.le_trans S.hcap S.hmax
  by_cases hl : la = lb
  · have hl0 : ((la : Int) != (lb : Int)) = false := by simp [hl]
    subst hl
    go_enter Try.func16, Try.ntmps16
    go_wp2
    go_loopw [5] (fun i wr => ∃ k : Nat, k ≤ la ∧ i = .int .i64 k ∧ Hid (xs.take k = ys.take k) ∧ Hid (∃ q, wr = w.drewN q)) (fun i _ => la - (intOf i).toNat)
    case atStart => exact ⟨0, Nat.zero_le _, rfl, rfl, 0, rfl⟩
    case round =>
      obtain ⟨k, hk, rfl, hpre, hw⟩ := hrel
      by_cases hlt : k < la
      · have hq : Only (fun _ => False) w wr := by obtain ⟨q, rfl⟩ := hw.out; exact only_drewN _ w q
        obtain ⟨b, off, rfl, _, hcA⟩ := (S.only hq (fun _ _ h => h)).cells (by omega)
        obtain ⟨b', off', rfl, _, hcB⟩ := (S'.only hq (fun _ _ h => h)).cells (by omega)
        have hc := hcA k hlt
        have hc' := hcB k hlt
        clear hcA hcB
        have hki : (k : Int) < (la : Int) := by omega
        have ea : xs[k]? = some (xs.getD k 0) := by rw [List.getD_eq_getElem?_getD, List.getElem?_eq_getElem (by rw [S.hlen]; exact hlt)]; rfl
        have eb : ys[k]? = some (ys.getD k 0) := by rw [List.getD_eq_getElem?_getD, List.getElem?_eq_getElem (by rw [S'.hlen]; exact hlt)]; rfl
        have EA : Hid _ := ea
        have EB : Hid _ := eb
        clear hq ea eb
        generalize xs.getD k 0 = x at *
        generalize ys.getD k 0 = y at *
        go_wp2_with fail
        go_quiet (fail)
        by_cases he : x = y
        · subst he
          have HP : Hid (xs.take (k + 1) = ys.take (k + 1)) := by
            unfold Hid
            rw [List.take_add_one, List.take_add_one, hpre.out, EA.out, EB.out]
          clear hpre EA EB
          go_wp2
          go_roundw
          case rel => exact ⟨k + 1, by omega, by go_num, HP, drewN_more' hw nq⟩
          case measure => simp [intOf]; omega
        · have he0 : ((x.toNat : Int) != (y.toNat : Int)) = true := by rw [bne_iff_ne]; exact fun e => he (UInt8.toNat_inj.1 (by omega))
          have HF : Hid (decide (xs = ys) = false) := by
            unfold Hid
            rw [decide_eq_false_iff_not]
            intro h
            have h1 := EA.out
            rw [h, EB.out] at h1
            exact he (Option.some.inj h1).symm
          clear hpre EA EB he
          go_wp2
          go_ret
          rw [HF.out]
          exact ⟨rfl, drewN_more' hw nq⟩
      · have HF : Hid (decide (xs = ys) = true) := by
          unfold Hid
          rw [decide_eq_true_iff]
          have h := hpre.out
          rw [List.take_of_length_le (by rw [S.hlen]; omega), List.take_of_length_le (by rw [S'.hlen]; omega)] at h
          exact h
        clear hpre
        go_wp2
        go_ret
        rw [HF.out]
        exact ⟨rfl, hw⟩
  · have hl0 : ((la : Int) != (lb : Int)) = true := by rw [bne_iff_ne]; omega
    have HF : Hid (decide (xs = ys) = false) := by
      unfold Hid
      rw [decide_eq_false_iff_not]
      intro h
      apply hl
      rw [← S.hlen, ← S'.hlen, h]
    clear hl
    go_enter Try.func16, Try.ntmps16
    go_wp2
    go_ret
    rw [HF.out]
    exact ⟨rfl, 0, rfl⟩

end Go.Proofs.Qxb6001694a
