import Derived.Test.Qxb6001694aWr
namespace Go.Proofs.Qxb6001694a
open Go.RowKit

/-- 'vs[:k]' and 'vs[k:]' of a slice of bytes. -/
theorem slice_head (b off len c k : Nat) (hk : k ≤ c) (w : World) : (Instr.slice 22 (.slice (some ⟨b, off, none⟩) len c) none (some (.int .i64 (k : Int))) none).run Try.prog w = .ok (.slice (some ⟨b, off, none⟩) k c) w := by
  rw [run_slice_h (P := Try.prog) w 22 (some ⟨b, off, none⟩) len c (by exact Try.underlying22) .i64 k (by omega) (by omega)]
  have hs : (sizeOf (Try.prog.elem 22)).run Try.prog w = .ok 1 w := by kernel_rfl
  rw [hs]
  simp [Result.andThen, sliced, Addr.add]

theorem slice_tail (b off len c k : Nat) (hk : k ≤ len) (hc : len ≤ c) : ∃ ad : Addr, (∀ w : World, (Instr.slice 22 (.slice (some ⟨b, off, none⟩) len c) (some (.int .i64 (k : Int))) none none).run Try.prog w = .ok (.slice (some ad) (len - k) (c - k)) w) ∧ (k < len → ad = ⟨b, off + k, none⟩) := by
  refine ⟨if c = k then ⟨b, off, none⟩ else (⟨b, off, none⟩ : Addr).add k, fun w => ?_, fun h => ?_⟩
  · rw [run_slice_l (P := Try.prog) w 22 (some ⟨b, off, none⟩) len c (by exact Try.underlying22) .i64 k (by omega) (by omega)]
    have hs : (sizeOf (Try.prog.elem 22)).run Try.prog w = .ok 1 w := by kernel_rfl
    rw [hs]
    by_cases h : c = k
    · simp [Result.andThen, sliced, h]
    · simp [Result.andThen, sliced, h]
  · rw [if_neg (by omega), Addr.add_lit]

/-- The rest of a slice of bytes. -/
theorem Byts.rest {w : World} {N b off len c k : Nat} {vs : List UInt8} {ad : Addr} (S : Byts w N (some ⟨b, off, none⟩) len c vs) (hk : k ≤ len) (had : k < len → ad = ⟨b, off + k, none⟩) : Byts w N (some ad) (len - k) (c - k) (vs.drop k) := by
  have h1 := S.hlen
  have h2 := S.hcap
  have h3 := S.hmax
  refine ⟨by rw [List.length_drop, h1], by omega, by omega, (fun h => by simp at h), fun h0 => ?_⟩
  obtain ⟨b', off', ha, hb, hc⟩ := S.cells (by omega)
  simp only [Option.some.injEq, Addr.mk.injEq, and_true] at ha
  obtain ⟨rfl, rfl⟩ := ha
  refine ⟨b, off + k, by rw [had (by omega)], hb, fun i hi => ?_⟩
  rw [Nat.add_assoc, hc (k + i) (by omega), List.getD_eq_getElem?_getD, List.getD_eq_getElem?_getD, List.getElem?_drop]

/-- The head of a slice of bytes. -/
theorem Byts.head {w : World} {N : Nat} {ao : Option Addr} {len c k : Nat} {vs : List UInt8} (S : Byts w N ao len c vs) (hk : k ≤ len) : Byts w N ao k c (vs.take k) := by
  have h1 := S.hlen
  have h2 := S.hcap
  refine ⟨by rw [List.length_take]; omega, by omega, S.hmax, S.hnil, fun h0 => ?_⟩
  obtain ⟨b, off, ha, hb, hc⟩ := S.cells (by omega)
  refine ⟨b, off, ha, hb, fun i hi => ?_⟩
  rw [hc i (by omega), List.getD_eq_getElem?_getD, List.getD_eq_getElem?_getD, List.getElem?_take, if_pos hi]

def lenOf : Value → Nat | .slice _ n _ => n | _ => 0

/-- The relation of writeOn's loop. -/
structure WOn (w : World) (N B : Nat) (lines : Bool) (ls : Int) (trim : Bool) (fo lo : Option Addr) (gs : List Nat) (bs vs : List UInt8) (ao : Option Addr) (len c : Nat) (wr : World) : Prop where
  src : ∃ j, j ≤ vs.length ∧ 0 < len ∧ Byts wr N ao len c (vs.drop j) ∧ Stepped w B lines ls trim fo lo gs (bs ++ vs.take j) wr

theorem Stepped.start {w : World} {B : Nat} {lines : Bool} {ls : Int} {trim : Bool} {fo : Option Addr} {capf : Nat} {gs : List Nat} {lo : Option Addr} {n cap : Nat} {bs : List UInt8} (X : BufX w B lines ls trim fo capf gs lo n cap bs) : Stepped w B lines ls trim fo lo gs bs w :=
  ⟨fo, capf, gs, lo, n, cap, X, Only.refl _ _, fun _ hk => .inl hk⟩

/-- Behind a round's append of k bytes. -/
theorem won_step {w w2 w0 w3 : World} {N B : Nat} {lines : Bool} {ls : Int} {trim : Bool} {fo lo fo2 : Option Addr} {gs gs2 : List Nat} {capf2 g n2 cap2 len' c' j k : Nat} {ao : Option Addr} {bs vs : List UInt8}
    (X2 : BufX w2 B lines ls trim fo2 capf2 gs2 (some ⟨g, 0, none⟩) n2 cap2 (bs ++ vs.take j)) (S2 : Byts w2 N ao len' c' (vs.drop j)) (hN : N ≤ B) (hO2 : Only (fpt B fo lo gs) w w2)
    (hf2 : ∀ k, fpt B fo2 (some ⟨g, 0, none⟩) gs2 k → fpt B fo lo gs k ∨ w.heap.size ≤ k) (hk : k ≤ len') (h0 : ∀ S : Nat → Prop, Only S w2 w0) (hg : w0.grownBy w3 (some g))
    (hown : w3.ownsRow (B + 1) 5 1 (.slice (some ⟨g, 0, none⟩) (n2 + k) cap2) (n2 + k) (vals ((bs ++ vs.take j).drop (gs2.length * 65536)) ++ vals ((vs.drop j).take k))) :
    (w3.cell? ⟨B, 1, none⟩ = some (.slice (some ⟨g, 0, none⟩) n2 cap2) ∧ w3.frozen? ⟨B, 1, none⟩ = false) ∧
    Stepped w B lines ls trim fo lo gs (bs ++ vs.take (j + k)) (w3.setCell ⟨B, 1, none⟩ (.slice (some ⟨g, 0, none⟩) (n2 + k) cap2)) ∧ Byts (w3.setCell ⟨B, 1, none⟩ (.slice (some ⟨g, 0, none⟩) (n2 + k) cap2)) N ao len' c' (vs.drop j) := by
  have hl := S2.hlen
  have E := X2.appended (m := k) (vs := (vs.drop j).take k) (by rw [List.length_take]; omega) h0 hg hown
  have e : (bs ++ vs.take j) ++ (vs.drop j).take k = bs ++ vs.take (j + k) := by rw [List.append_assoc, List.take_add]
  rw [e] at E
  exact ⟨E.2.2, Stepped.after hO2 hf2 ⟨fo2, capf2, gs2, _, _, _, E.1, E.2.1, fun k hk => .inl hk⟩, S2.only E.2.1 (fun i hi ht => by have := (X2.lt i ht).2; omega)⟩

theorem take_all {j len' : Nat} {vs : List UInt8} (hl : (vs.drop j).length = len') (hj : j ≤ vs.length) : vs.take (j + len') = vs := by
  rw [List.length_drop] at hl
  exact List.take_of_length_le (by omega)

set_option maxHeartbeats 1000000 in
theorem writeOn_any (w : World) (N B : Nat) (lines : Bool) (ls : Int) (trim : Bool) (fo : Option Addr) (capf : Nat) (gs : List Nat) (lo : Option Addr) (n cap : Nat) (bs : List UInt8) (X : BufX w B lines ls trim fo capf gs lo n cap bs)
    (ao : Option Addr) (len c : Nat) (vs : List UInt8) (S : Byts w N ao len c vs) (hN : N ≤ B) (h0 : 0 < len) (hbs : bs.length + vs.length ≤ 4194304) :
    Calls Try.prog 52 #[.pointer (some ⟨B, 0, none⟩), .slice ao len c] w (Wrote w B lines ls trim fo lo gs (bs ++ vs)) := by
  have HBS : Hid _ := hbs
  clear hbs
  have R0 : WOn w N B lines ls trim fo lo gs bs vs ao len c w := ⟨0, Nat.zero_le _, h0, by simpa using S, by simpa using Stepped.start X⟩
  obtain ⟨i0, hi, hz0, hz1, hz2⟩ := info_parts Try.info5b
  have hlen := S.hlen
  have HL : Hid _ := hlen
  clear X S hlen h0
  go_enter Try.func52, Try.ntmps52
  go_wp2_with fail
  go_loopw [1] (fun v wr => ∃ (ao' : Option Addr) (len' c' : Nat), v = .slice ao' len' c' ∧ WOn w N B lines ls trim fo lo gs bs vs ao' len' c' wr) (fun v _ => lenOf v)
  case atStart => exact ⟨ao, len, c, rfl, R0⟩
  case round =>
    obtain ⟨ao', len', c', rfl, j, hj, h0', S', fo1, capf1, gs1, lo1, n1, cap1, X1, hO1, hf1⟩ := hrel
    clear R0
    obtain ⟨b, off, rfl, hbN, hcell⟩ := S'.cells h0'
    have h1 := X1.c1
    have hlj : (bs ++ vs.take j).length ≤ 4194304 := by rw [List.length_append, List.length_take]; have := HBS.out; omega
    have HLJ : Hid _ := hlj
    clear hlj
    by_cases hfull : n1 = cap1
    case' pos =>
      subst hfull
      go_wp2_with fail
      go_quiet (fail)
      go_wp2_with fail
      have XQ := X1.only (only_drewN (fun _ => False) wr nq) (fun _ _ h => h)
      refine (grow_any _ B lines ls trim fo1 capf1 gs1 lo1 n1 _ XQ HLJ.out).mono ?_
      rintro e w2 ⟨rfl, fo2, capf2, gs2, lo2, n2, cap2, ⟨X2, hlt⟩, hOg, hfg⟩
      have hO2 := hO1.after ((only_drewN _ wr nq).trans hOg) (fun i hi ht => by
        rcases hf1 i ht with h | h
        · exact h
        · omega)
      have hf2 : ∀ k, fpt B fo2 lo2 gs2 k → fpt B fo lo gs k ∨ w.heap.size ≤ k := fun k hk => by
        rcases hfg k hk with h | h
        · exact hf1 k h
        · right; have := hO1.size; simp at h; omega
      have S2 := (S'.only (only_drewN (fun _ => False) wr nq) (fun _ _ h => h)).only hOg (fun k hk ht => by have := (X1.lt k ht).2; omega)
    case' neg =>
      have hlt : n1 < cap1 := by have := X1.room; omega
      have hne : ((n1 : Int) == (cap1 : Int)) = false := by rw [beq_eq_false_iff_ne]; omega
      go_wp2_with fail
      go_quiet (fail)
      have X2 := X1.only (only_drewN (fun _ => False) wr nq) (fun _ _ h => h)
      have hO2 := hO1.trans (only_drewN _ wr nq)
      have hf2 := hf1
      have S2 := S'.only (only_drewN (fun _ => False) wr nq) (fun _ _ h => h)
      clear hne
      generalize wr.drewN nq = w2 at *
      generalize fo1 = fo2 at *
      generalize capf1 = capf2 at *
      generalize gs1 = gs2 at *
      generalize lo1 = lo2 at *
      generalize n1 = n2 at *
      generalize cap1 = cap2 at *
    all_goals
      clear X1 h1 hO1 hf1 S'
      obtain ⟨g, rfl⟩ := X2.addr (by omega)
      have k1 := X2.c1
      go_wp2_with fail
      have hcapI : (cap2 : Int) ≤ 65536 := by have := X2.capb; omega
      have hltI : (n2 : Int) < (cap2 : Int) := by omega
      have hlenI : (len' : Int) ≤ 4194304 := by have h1 := S2.hlen; rw [List.length_drop] at h1; have := HBS.out; omega
      have hc' := S2.hcap
      clear hcell
      by_cases hmin : (len' : Int) ≤ (cap2 : Int) - (n2 : Int)
      · have hsl := slice_head b off len' c' len' hc'
        obtain ⟨ad, htl, had⟩ := slice_tail b off len' c' len' (Nat.le_refl _) hc'
        rw [Nat.sub_self] at htl
        have SH := S2.head (Nat.le_refl len')
        have HTA : Hid _ := take_all S2.hlen hj
        go_quiet (fail)
        go_wp2_with fail
        go_region_law (refine step_append_fits_any rfl (.tmp 36) (.tmp 39) 22 rfl (B + 1) 5 i0 1 Try.underlying22 hi hz1 g n2 cap2 _ rfl (by exact X2.last) (some ⟨b, off, none⟩) len' c' (vals ((vs.drop j).take len')) rfl (by rw [vals_length, SH.hlen, Nat.mul_one]) (fun h => by simp at h) (by exact SH.src) (vals_one _) (by omega) ?_; intro w3 hown3 hg3; have E := won_step X2 S2 hN hO2 hf2 (Nat.le_refl len') (fun S => only_drewN S w2 _) hg3 hown3; have e1 := E.1.1; have ef := E.1.2; have HE : Hid _ := E.2.1)
        all_goals
          clear E hown3 hg3 X2 S2 SH hf2 hO2 k1 hsl had hi hz0 hz1 hz2
          go_wp2
          go_end0
          refine ⟨rfl, ?_⟩
          have := HE.out
          rw [HTA.out] at this
          exact this
      · obtain ⟨k, hk⟩ : ∃ k : Nat, (cap2 : Int) - (n2 : Int) = (k : Int) := ⟨cap2 - n2, by omega⟩
        have hk0 : 0 < k := by omega
        have hkl : k < len' := by omega
        have hkc : n2 + k ≤ cap2 := by omega
        have HK : Hid _ := hk
        clear hk
        have hsl := slice_head b off len' c' k (by omega)
        obtain ⟨ad, htl, had⟩ := slice_tail b off len' c' k (by omega) hc'
        have SH := S2.head (k := k) (by omega)
        go_quiet (fail)
        rw [HK.out]
        go_wp2_with fail
        go_region_law (refine step_append_fits_any rfl (.tmp 36) (.tmp 39) 22 rfl (B + 1) 5 i0 1 Try.underlying22 hi hz1 g n2 cap2 _ rfl (by exact X2.last) (some ⟨b, off, none⟩) k c' (vals ((vs.drop j).take k)) rfl (by rw [vals_length, SH.hlen, Nat.mul_one]) (fun h => by simp at h) (by exact SH.src) (vals_one _) (by omega) ?_; intro w3 hown3 hg3; have E := won_step X2 S2 hN hO2 hf2 (Nat.le_of_lt hkl) (fun S => only_drewN S w2 _) hg3 hown3; have e1 := E.1.1; have ef := E.1.2; have HE : Hid _ := E.2.1; have HS : Hid _ := E.2.2)
        all_goals
          have hr : ((len' : Int) - (k : Int) == 0) = false := by rw [beq_eq_false_iff_ne]; omega
          clear E hown3 hg3 X2 S2 SH hf2 hO2 k1 hsl hi hz0 hz1 hz2
          go_wp2
          go_roundw
          case rel =>
            have S3 := Byts.rest HS.out (Nat.le_of_lt hkl) had
            rw [List.drop_drop, had hkl] at S3
            exact ⟨some ⟨b, off + k, none⟩, len' - k, c' - k, rfl, j + k, by have := HS.out.hlen; rw [List.length_drop] at this; omega, by omega, S3, HE.out⟩
          case measure => simp [lenOf]; omega

end Go.Proofs.Qxb6001694a
