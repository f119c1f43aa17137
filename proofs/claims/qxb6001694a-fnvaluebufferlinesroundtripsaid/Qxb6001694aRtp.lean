import Derived.Test.Qxb6001694aPar
namespace Go.Proofs.Qxb6001694a
open Go.RowKit

/-- The buffer, the wanted row and the text in memory. -/
structure RM (w3 : World) (lines : Bool) (text : List UInt8) (aT : Option Addr) (cT B gW L m : Nat) (wa bs : List UInt8) (wr : World) : Prop where
  buf : ∃ T trim, Buf wr T B lines trim bs ∧ (lines = false → trim = false) ∧ ∀ k, T k → B ≤ k ∧ k ≠ gW
  want : wr.ownsRow (B + 1) 5 1 (.slice (some ⟨gW, 0, none⟩) m L) m (vals wa)
  txt : Byts wr B aT L cT text
  bel : Below B w3 wr
  big : B ≤ wr.heap.size
  len : wa.length = m

theorem RM.wrote {w3 wr w' : World} {lines trim' : Bool} {text wa bs bs' : List UInt8} {aT : Option Addr} {cT B gW L m : Nat} {T T' : Nat → Prop} (R : RM w3 lines text aT cT B gW L m wa bs wr) (hT : ∀ k, T k → B ≤ k ∧ k ≠ gW)
    (X' : Buf w' T' B lines trim' bs') (hO : Only T wr w') (hT' : ∀ k, T' k → T k ∨ wr.heap.size ≤ k) (htr : lines = false → trim' = false) : RM w3 lines text aT cT B gW L m wa bs' w' := by
  have hg := (R.want.lt gW rfl).2
  refine ⟨⟨T', trim', X', htr, fun k hk => ?_⟩, hO.owns R.want (fun k hk h => ?_), R.txt.apart hO (Nat.le_refl _) (fun k hk => (hT k hk).1), (chain R.bel R.big (fun k hk => (hT k hk).1) hO hT').1, Nat.le_trans R.big hO.size, R.len⟩
  · rcases hT' k hk with h | h
    · exact hT k h
    · exact ⟨Nat.le_trans R.big h, by omega⟩
  · have hk' : gW = k := by simpa [Value.ownBlock] using hk
    exact (hT k h).2 hk'.symm

theorem RM.app {w3 wr W0 w' : World} {lines : Bool} {text wa bs vs : List UInt8} {aT : Option Addr} {cT B gW L m k m' : Nat} (R : RM w3 lines text aT cT B gW L m wa bs wr) (h0 : ∀ S : Nat → Prop, Only S wr W0) (hg : W0.grownBy w' (some gW)) (hk : vs.length = k)
    (hown : w'.ownsRow (B + 1) 5 1 (.slice (some ⟨gW, 0, none⟩) m' L) m' (vals wa ++ vals vs)) (hm : m + k = m') : RM w3 lines text aT cT B gW L m' (wa ++ vs) bs w' := by
  subst hm
  have hge := (hown.lt gW rfl).1
  have hO : Only (fun k => k = gW) wr w' := (h0 _).trans (only_grown hg (fun k hk => (Option.some.inj hk).symm))
  obtain ⟨T, trim, X, htr, hT⟩ := R.buf
  refine ⟨⟨T, trim, X.only hO (fun k hk h => (hT k hk).2 h), htr, hT⟩, by rw [vals_append]; exact hown, R.txt.only hO (fun k hk h => by omega), R.bel.trans (hO.below R.big (fun k hk h => by omega)), Nat.le_trans R.big hO.size, by rw [List.length_append, R.len, hk]⟩

/-- The relation of the law's loop. -/
structure RT (w3 : World) (lines : Bool) (text : List UInt8) (aT : Option Addr) (cT B gW L : Nat) (first : Bool) (start k m : Nat) (bs : List UInt8) (wr : World) : Prop where
  mem : RM w3 lines text aT cT B gW L m bs bs wr
  sk : start ≤ k
  kL : k ≤ L + 1
  fin : k = L + 1 → start = k ∧ first = false
  fst : first = true → start = 0 ∧ bs = []
  more : first = false → 1 ≤ start ∧ m + 1 ≤ start ∧ (lines = false → bs = text.take (start - 1)) ∧ (start ≤ L → text.getD (start - 1) 0 = 10)

theorem RT.miss {w3 wr : World} {lines first : Bool} {text bs : List UInt8} {aT : Option Addr} {cT B gW L start k m : Nat} (R : RT w3 lines text aT cT B gW L first start k m bs wr) (hk : k < L) : RT w3 lines text aT cT B gW L first start (k + 1) m bs wr :=
  ⟨R.mem, Nat.le_succ_of_le R.sk, by omega, fun h => by omega, R.fst, R.more⟩

theorem RT.room {w3 wr : World} {lines first : Bool} {text bs : List UInt8} {aT : Option Addr} {cT B gW L start k m : Nat} (R : RT w3 lines text aT cT B gW L first start k m bs wr) : m + (feed first).length + (k - start) ≤ k := by
  cases first with
  | true =>
    obtain ⟨h1, h2⟩ := R.fst rfl
    have := R.mem.len
    rw [h2] at this
    simp at this
    subst this
    simp [feed, h1]
  | false =>
    obtain ⟨h1, h2, _⟩ := R.more rfl
    have := R.sk
    simp [feed]
    omega

theorem take_join {text : List UInt8} {a b : Nat} (h : a ≤ b) : text.take a ++ (text.drop a).take (b - a) = text.take b := by
  have e : b = a + (b - a) := by omega
  rw [congrArg (fun n => text.take n) e, List.take_add]

/-- Behind a line: the next round's relation. -/
theorem RT.next {w3 wr w' : World} {lines first : Bool} {text bs : List UInt8} {aT : Option Addr} {cT B gW L start k m m' : Nat} (R : RT w3 lines text aT cT B gW L first start k m bs wr) (hk : k ≤ L) (hhit : k < L → text.getD k 0 = 10)
    (M : RM w3 lines text aT cT B gW L m' (bs ++ sbytes lines first ((text.drop start).take (k - start))) (bs ++ sbytes lines first ((text.drop start).take (k - start))) w') :
    RT w3 lines text aT cT B gW L false (k + 1) (k + 1) m' (bs ++ sbytes lines first ((text.drop start).take (k - start))) w' := by
  have hroom := R.room
  have hlt := R.mem.txt.hlen
  have hsk := R.sk
  have hpl : ((text.drop start).take (k - start)).length = k - start := by rw [List.length_take, List.length_drop]; omega
  have hwl := wbytes_len lines ((text.drop start).take (k - start))
  have hm' : m' = m + (feed first).length + (wbytes lines ((text.drop start).take (k - start))).length := by
    have := M.len
    rw [List.length_append, R.mem.len, sbytes, List.length_append] at this
    omega
  refine ⟨M, Nat.le_refl _, by omega, fun _ => ⟨rfl, rfl⟩, fun h => by simp at h, fun _ => ⟨by omega, by omega, fun hl => ?_, fun h => ?_⟩⟩
  · subst hl
    rw [Nat.add_sub_cancel]
    show bs ++ (feed first ++ (text.drop start).take (k - start)) = text.take k
    cases first with
    | true =>
      obtain ⟨h1, h2⟩ := R.fst rfl
      subst h1
      subst h2
      simp [feed]
    | false =>
      obtain ⟨h1, _, h3, h4⟩ := R.more rfl
      have e1 : text.take (start - 1) ++ [10] = text.take start := by
        have e0 : text.take start = text.take ((start - 1) + 1) := by congr 1; omega
        have e2 : text[start - 1]? = some 10 := by
          have := h4 (by omega)
          rw [List.getD_eq_getElem?_getD, List.getElem?_eq_getElem (by omega)] at this
          rw [List.getElem?_eq_getElem (by omega)]
          exact congrArg some this
        rw [e0, List.take_add_one, e2]
        rfl
      rw [h3 rfl]
      show text.take (start - 1) ++ ([10] ++ (text.drop start).take (k - start)) = text.take k
      rw [← List.append_assoc, e1, take_join hsk]
  · rw [Nat.add_sub_cancel]
    exact hhit (by omega)

set_option maxHeartbeats 4000000 in
theorem law7 (w : World) (lines : Bool) (a1 : Option Addr) (l1 c1 : Nat) (text : List UInt8) (S1 : Byts w w.heap.size a1 l1 c1 text) :
    Calls Try.prog 7 #[.bool lines, .slice a1 l1 c1] w fun e w' => e = .returned (.bool true) ∧ Below w.heap.size w w' := by
  have hm1 : l1 ≤ 9223372036854775807 := Nat.le_trans S1.hcap S1.hmax
  go_enter Try.func7, Try.ntmps7
  go_wp2_with fail
  refine (zz24_any w lines a1 l1 c1 (Nat.le_trans S1.hcap S1.hmax)).mono ?_
  rintro e w' ⟨rfl, b, rfl⟩
  cases b with
  | false =>
    go_wp2
    go_ret
    exact ⟨rfl, Below.refl _ _⟩
  | true =>
    by_cases hc : (l1 : Int) ≤ 1048576
    · go_wp2_with fail
      refine (cloneBytes_any w _ a1 l1 c1 text S1 (by omega)).mono ?_
      rintro e w1 ⟨aT, cT, rfl, ST, hb1⟩
      have HLT : Hid (text.length = l1) := ST.hlen
      go_wp2_with fail
      refine (zzNew_any w1 lines).mono ?_
      rintro e w3 ⟨rfl, X3, hO3, hz3⟩
      have z1 := hb1.size
      have ST3 := ST.only (hO3 (fun _ => False)) (fun _ _ h => h)
      have hb3 : Below w.heap.size w w3 := hb1.trans ((hO3 (fun _ => False)).below (by omega) (fun _ _ h => h))
      clear ST hb1 hO3 S1
      generalize hB : w1.heap.size = B at *
      clear hB
      obtain ⟨i0, hi, hz0, hz1, hz2⟩ := info_parts Try.info5b
      have HZ3 : Hid _ := hz3
      clear hz3
      go_wp2_with (at_make; refine wpList_make_own _ rfl _ _ 22 rfl (B + 1) 5 i0 (.int .u8 0) 1 Try.underlying22 hi hz0 hz1 .i64 .i64 _ l1 rfl rfl rfl (by rw [hz2]; omega) (by unfold maxLen; omega) (by have := HZ3.out; omega) ?_)
      intro w4 hown4 hg4
      have hz3 := HZ3.out
      have hb4 : Below w3.heap.size w3 w4 := (Below.refl _ _).grown hg4 (Nat.le_refl _) (by simp)
      obtain ⟨gW, hgW⟩ : ∃ gW, w3.heap.size = gW := ⟨_, rfl⟩
      have R0 : RT w3 lines text aT cT B gW l1 true 0 0 0 [] w4 := by
        refine ⟨⟨⟨fun k => k = B, false, X3.below hb4, fun _ => rfl, fun k hk => ⟨by omega, by omega⟩⟩, by rw [← hgW]; exact hown4, ST3.below hb4, hb4.mono (by omega), by have := hb4.size; omega, rfl⟩, Nat.le_refl _, Nat.zero_le _, fun h => by omega, fun _ => ⟨rfl, rfl⟩, fun h => by simp at h⟩
      rw [hgW]
      have hBw : w.heap.size ≤ B := by omega
      have hcI : (l1 : Int) ≤ 1048576 := hc
      clear hown4 hg4 hb4 X3 ST3 hgW hz3
      go_wp2
      go_loopw [6, 7, 8, 9] (fun v6 v7 v8 v9 wr => ∃ (first : Bool) (start k m : Nat) (bs : List UInt8), v6 = .slice (some ⟨gW, 0, none⟩) m l1 ∧ v7 = .int .i64 start ∧ v8 = .bool first ∧ v9 = .int .i64 k ∧ RT w3 lines text aT cT B gW l1 first start k m bs wr) (fun _ _ _ v9 _ => l1 + 1 - (intOf v9).toNat)
      case atStart => exact ⟨true, 0, 0, 0, [], rfl, rfl, rfl, rfl, R0⟩
      case round =>
        obtain ⟨first, start, k, m, bs, rfl, rfl, rfl, rfl, R⟩ := hrel
        clear R0
        have hsk := R.sk
        have hkL1 := R.kL
        by_cases hkL : k ≤ l1
        · have hkLI : (k : Int) ≤ (l1 : Int) := by omega
          have hskI : (start : Int) ≤ (k : Int) := by omega
          by_cases hend : k = l1
          · have tend : ((k : Int) == (l1 : Int)) = true := by rw [beq_iff_eq]; omega
            have HHIT : Hid (k < l1 → text.getD k 0 = 10) := fun h => by omega
            have HEND : Hid _ := hend
            clear hend
            cases lines with
            | false =>
              cases first with
              | true =>
                obtain ⟨aM, hsM, SM⟩ := slice_mid R.mem.txt start k hsk hkL
                obtain ⟨T, trim, X, htr, hT⟩ := R.mem.buf
                obtain rfl := htr rfl
                have hroom := R.room
                have HBS : Hid (bs.length + ((text.drop start).take (k - start)).length + 1 ≤ 4194304) := by unfold Hid; rw [R.mem.len, SM.hlen]; simp only [feed] at hroom; omega
                have hwl := wbytes_len false ((text.drop start).take (k - start))
                rw [SM.hlen] at hwl
                have HROOM : Hid (m + 0 + (k - start) ≤ k) := hroom
                have hroomI := HROOM.out
                clear hroom
                go_wp2_with fail
                refine (zzStartLine_any wr B B T false false true (fun _ => rfl) bs X aM (k - start) (cT - start) _ SM (Nat.le_refl _) HBS.out).mono ?_
                rintro e w4 ⟨rfl, T', X', hO, hT'⟩
                have R4 := R.mem.wrote hT X' hO hT' (fun h => by first | rfl | simp at h)
                have SM4 := SM.apart hO (Nat.le_refl _) (fun k hk => (hT k hk).1)
                clear SM X X' hO hT hT'
                go_wp2_with (at_builtin; refine wpList_append_fits_any _ rfl (.tmp 62) (.tmp 63) 22 rfl (B + 1) 5 i0 1 Try.underlying22 hi hz1 gW m l1 _ rfl (by exact R4.want) aM (k - start) (cT - start) (vals ((text.drop start).take (k - start))) rfl (by rw [vals_length, SM4.hlen, Nat.mul_one]) (fun h => SM4.none_len h) (by exact SM4.src) (vals_one _) (by omega) ?_)
                intro w6 hown6 hg6
                have R6 := R4.app (fun S => Only.refl S w4) hg6 SM4.hlen hown6 (by omega)
                have HN : Hid _ := R.next hkL HHIT.out (by have e : bs ++ sbytes false true ((text.drop start).take (k - start)) = bs ++ ((text.drop start).take (k - start)) := (by simp [sbytes, feed, wbytes]); rw [← e] at R6; exact R6)
                clear hown6 hg6 R6 R4 SM4 R hsM
                go_wp2
                go_roundw
                case rel => exact ⟨false, k + 1, k + 1, _, _, rfl, by go_num, rfl, by go_num, HN.out⟩
                case measure => simp [intOf]; omega
              | false =>
                obtain ⟨aM, hsM, SM⟩ := slice_mid R.mem.txt start k hsk hkL
                obtain ⟨T, trim, X, htr, hT⟩ := R.mem.buf
                obtain rfl := htr rfl
                have hroom := R.room
                have HBS : Hid (bs.length + ((text.drop start).take (k - start)).length + 1 ≤ 4194304) := by unfold Hid; rw [R.mem.len, SM.hlen]; simp only [feed] at hroom; omega
                have hwl := wbytes_len false ((text.drop start).take (k - start))
                rw [SM.hlen] at hwl
                have HROOM : Hid (m + 1 + (k - start) ≤ k) := hroom
                have hroomI := HROOM.out
                clear hroom
                go_wp2_with fail
                refine (zzStartNext_any wr B B T false false false bs X aM (k - start) (cT - start) _ SM (Nat.le_refl _) HBS.out).mono ?_
                rintro e w4 ⟨rfl, T', X', hO, hT'⟩
                have R4 := R.mem.wrote hT X' hO hT' (fun h => by first | rfl | simp at h)
                have SM4 := SM.apart hO (Nat.le_refl _) (fun k hk => (hT k hk).1)
                clear SM X X' hO hT hT'
                go_wp2_with (at_builtin; refine wpList_append_fits _ rfl (.tmp 54) (.tmp 55) 22 rfl (B + 1) 5 i0 1 Try.underlying22 hi hz1 gW m l1 _ rfl (by exact R4.want.alloc _) ⟨w4.heap.size, 0, none⟩ 1 1 (vals [10]) rfl rfl (by exact cell_one_new _ _ _) (vals_one _) (by omega) ?_)
                intro w5 hown5 hg5
                have R5 := R4.app (k := 1) (vs := [10]) (fun S => only_alloc S w4 _) hg5 rfl hown5 (by omega)
                have SM5 := SM4.only ((only_alloc (fun k => k = gW) w4 _).trans (only_grown hg5 (fun k hk => (Option.some.inj hk).symm))) (fun k hk h => by have := (R4.want.lt gW rfl).1; omega)
                clear hown5 hg5 R4 SM4
                go_wp2_with (at_builtin; refine wpList_append_fits_any _ rfl (.tmp 62) (.tmp 63) 22 rfl (B + 1) 5 i0 1 Try.underlying22 hi hz1 gW (m + 1) l1 _ rfl (by exact R5.want) aM (k - start) (cT - start) (vals ((text.drop start).take (k - start))) rfl (by rw [vals_length, SM5.hlen, Nat.mul_one]) (fun h => SM5.none_len h) (by exact SM5.src) (vals_one _) (by omega) ?_)
                intro w6 hown6 hg6
                have R6 := R5.app (fun S => Only.refl S w5) hg6 SM5.hlen hown6 (by omega)
                have HN : Hid _ := R.next hkL HHIT.out (by have e : bs ++ sbytes false false ((text.drop start).take (k - start)) = (bs ++ [10]) ++ ((text.drop start).take (k - start)) := (by simp [sbytes, feed, wbytes]); rw [← e] at R6; exact R6)
                clear hown6 hg6 R6 R5 SM5 R hsM
                go_wp2
                go_roundw
                case rel => exact ⟨false, k + 1, k + 1, _, _, rfl, by go_num, rfl, by go_num, HN.out⟩
                case measure => simp [intOf]; omega
            | true =>
              cases first with
              | true =>
                obtain ⟨aM, hsM, SM⟩ := slice_mid R.mem.txt start k hsk hkL
                obtain ⟨T, trim, X, htr, hT⟩ := R.mem.buf
                clear htr
                have hroom := R.room
                have HBS : Hid (bs.length + ((text.drop start).take (k - start)).length + 1 ≤ 4194304) := by unfold Hid; rw [R.mem.len, SM.hlen]; simp only [feed] at hroom; omega
                have hwl := wbytes_len true ((text.drop start).take (k - start))
                rw [SM.hlen] at hwl
                have HROOM : Hid (m + 0 + (k - start) ≤ k) := hroom
                have hroomI := HROOM.out
                clear hroom
                go_wp2_with fail
                refine (zzStartLine_any wr B B T true trim true (fun h => by simp at h) bs X aM (k - start) (cT - start) _ SM (Nat.le_refl _) HBS.out).mono ?_
                rintro e w4 ⟨rfl, T', X', hO, hT'⟩
                have R4 := R.mem.wrote hT X' hO hT' (fun h => by first | rfl | simp at h)
                have SM4 := SM.apart hO (Nat.le_refl _) (fun k hk => (hT k hk).1)
                clear SM X X' hO hT hT'
                have hle : leadN ((text.drop start).take (k - start)) ≤ k - start := by have := leadN_le ((text.drop start).take (k - start)); rw [SM4.hlen] at this; exact this
                obtain ⟨aS, hsS, SS⟩ := slice_from SM4 (leadN ((text.drop start).take (k - start))) hle
                go_wp2_with fail
                refine (lead_any w4 _ aM (k - start) (cT - start) _ SM4).mono ?_
                rintro e w' ⟨rfl, rfl⟩
                go_wp2_with (at_builtin; refine wpList_append_fits_any _ rfl (.tmp 62) (.tmp 63) 22 rfl (B + 1) 5 i0 1 Try.underlying22 hi hz1 gW m l1 _ rfl (by exact R4.want) aS (k - start - leadN ((text.drop start).take (k - start))) (cT - start - leadN ((text.drop start).take (k - start))) (vals (((text.drop start).take (k - start)).drop (leadN ((text.drop start).take (k - start))))) rfl (by rw [vals_length, SS.hlen, Nat.mul_one]) (fun h => SS.none_len h) (by exact SS.src) (vals_one _) (by omega) ?_)
                intro w6 hown6 hg6
                have R6 := R4.app (fun S => Only.refl S w4) hg6 SS.hlen hown6 (by omega)
                have HN : Hid _ := R.next hkL HHIT.out (by have e : bs ++ sbytes true true ((text.drop start).take (k - start)) = bs ++ (((text.drop start).take (k - start)).drop (leadN ((text.drop start).take (k - start)))) := (by simp [sbytes, feed, wbytes]); rw [← e] at R6; exact R6)
                clear hown6 hg6 R6 R4 SM4 R hsM
                clear SS hsS hle
                go_wp2
                go_roundw
                case rel => exact ⟨false, k + 1, k + 1, _, _, rfl, by go_num, rfl, by go_num, HN.out⟩
                case measure => simp [intOf]; omega
              | false =>
                obtain ⟨aM, hsM, SM⟩ := slice_mid R.mem.txt start k hsk hkL
                obtain ⟨T, trim, X, htr, hT⟩ := R.mem.buf
                clear htr
                have hroom := R.room
                have HBS : Hid (bs.length + ((text.drop start).take (k - start)).length + 1 ≤ 4194304) := by unfold Hid; rw [R.mem.len, SM.hlen]; simp only [feed] at hroom; omega
                have hwl := wbytes_len true ((text.drop start).take (k - start))
                rw [SM.hlen] at hwl
                have HROOM : Hid (m + 1 + (k - start) ≤ k) := hroom
                have hroomI := HROOM.out
                clear hroom
                go_wp2_with fail
                refine (zzStartNext_any wr B B T true trim false bs X aM (k - start) (cT - start) _ SM (Nat.le_refl _) HBS.out).mono ?_
                rintro e w4 ⟨rfl, T', X', hO, hT'⟩
                have R4 := R.mem.wrote hT X' hO hT' (fun h => by first | rfl | simp at h)
                have SM4 := SM.apart hO (Nat.le_refl _) (fun k hk => (hT k hk).1)
                clear SM X X' hO hT hT'
                go_wp2_with (at_builtin; refine wpList_append_fits _ rfl (.tmp 54) (.tmp 55) 22 rfl (B + 1) 5 i0 1 Try.underlying22 hi hz1 gW m l1 _ rfl (by exact R4.want.alloc _) ⟨w4.heap.size, 0, none⟩ 1 1 (vals [10]) rfl rfl (by exact cell_one_new _ _ _) (vals_one _) (by omega) ?_)
                intro w5 hown5 hg5
                have R5 := R4.app (k := 1) (vs := [10]) (fun S => only_alloc S w4 _) hg5 rfl hown5 (by omega)
                have SM5 := SM4.only ((only_alloc (fun k => k = gW) w4 _).trans (only_grown hg5 (fun k hk => (Option.some.inj hk).symm))) (fun k hk h => by have := (R4.want.lt gW rfl).1; omega)
                clear hown5 hg5 R4 SM4
                have hle : leadN ((text.drop start).take (k - start)) ≤ k - start := by have := leadN_le ((text.drop start).take (k - start)); rw [SM5.hlen] at this; exact this
                obtain ⟨aS, hsS, SS⟩ := slice_from SM5 (leadN ((text.drop start).take (k - start))) hle
                go_wp2_with fail
                refine (lead_any w5 _ aM (k - start) (cT - start) _ SM5).mono ?_
                rintro e w' ⟨rfl, rfl⟩
                go_wp2_with (at_builtin; refine wpList_append_fits_any _ rfl (.tmp 62) (.tmp 63) 22 rfl (B + 1) 5 i0 1 Try.underlying22 hi hz1 gW (m + 1) l1 _ rfl (by exact R5.want) aS (k - start - leadN ((text.drop start).take (k - start))) (cT - start - leadN ((text.drop start).take (k - start))) (vals (((text.drop start).take (k - start)).drop (leadN ((text.drop start).take (k - start))))) rfl (by rw [vals_length, SS.hlen, Nat.mul_one]) (fun h => SS.none_len h) (by exact SS.src) (vals_one _) (by omega) ?_)
                intro w6 hown6 hg6
                have R6 := R5.app (fun S => Only.refl S w5) hg6 SS.hlen hown6 (by omega)
                have HN : Hid _ := R.next hkL HHIT.out (by have e : bs ++ sbytes true false ((text.drop start).take (k - start)) = (bs ++ [10]) ++ (((text.drop start).take (k - start)).drop (leadN ((text.drop start).take (k - start)))) := (by simp [sbytes, feed, wbytes]); rw [← e] at R6; exact R6)
                clear hown6 hg6 R6 R5 SM5 R hsM
                clear SS hsS hle
                go_wp2
                go_roundw
                case rel => exact ⟨false, k + 1, k + 1, _, _, rfl, by go_num, rfl, by go_num, HN.out⟩
                case measure => simp [intOf]; omega
          · have tend : ((k : Int) == (l1 : Int)) = false := by rw [beq_eq_false_iff_ne]; omega
            have hlt : k < l1 := by omega
            have hltI : (k : Int) < (l1 : Int) := by omega
            obtain ⟨b, off, rfl, _, hcA⟩ := R.mem.txt.cells (by omega)
            have hck := hcA k hlt
            clear hcA hend
            by_cases h10 : text.getD k 0 = 10
            · have t10 : (((text.getD k 0).toNat : Int) == 10) = true := by rw [h10]; rfl
              have HHIT : Hid (k < l1 → text.getD k 0 = 10) := fun _ => h10
              generalize hv : ((text.getD k 0).toNat : Int) = v at hck t10
              clear h10 hv
              cases lines with
              | false =>
                cases first with
                | true =>
                  obtain ⟨aM, hsM, SM⟩ := slice_mid R.mem.txt start k hsk hkL
                  obtain ⟨T, trim, X, htr, hT⟩ := R.mem.buf
                  obtain rfl := htr rfl
                  have hroom := R.room
                  have HBS : Hid (bs.length + ((text.drop start).take (k - start)).length + 1 ≤ 4194304) := by unfold Hid; rw [R.mem.len, SM.hlen]; simp only [feed] at hroom; omega
                  have hwl := wbytes_len false ((text.drop start).take (k - start))
                  rw [SM.hlen] at hwl
                  have HROOM : Hid (m + 0 + (k - start) ≤ k) := hroom
                  have hroomI := HROOM.out
                  clear hroom
                  go_wp2_with fail
                  refine (zzStartLine_any wr B B T false false true (fun _ => rfl) bs X aM (k - start) (cT - start) _ SM (Nat.le_refl _) HBS.out).mono ?_
                  rintro e w4 ⟨rfl, T', X', hO, hT'⟩
                  have R4 := R.mem.wrote hT X' hO hT' (fun h => by first | rfl | simp at h)
                  have SM4 := SM.apart hO (Nat.le_refl _) (fun k hk => (hT k hk).1)
                  clear SM X X' hO hT hT'
                  go_wp2_with (at_builtin; refine wpList_append_fits_any _ rfl (.tmp 62) (.tmp 63) 22 rfl (B + 1) 5 i0 1 Try.underlying22 hi hz1 gW m l1 _ rfl (by exact R4.want) aM (k - start) (cT - start) (vals ((text.drop start).take (k - start))) rfl (by rw [vals_length, SM4.hlen, Nat.mul_one]) (fun h => SM4.none_len h) (by exact SM4.src) (vals_one _) (by omega) ?_)
                  intro w6 hown6 hg6
                  have R6 := R4.app (fun S => Only.refl S w4) hg6 SM4.hlen hown6 (by omega)
                  have HN : Hid _ := R.next hkL HHIT.out (by have e : bs ++ sbytes false true ((text.drop start).take (k - start)) = bs ++ ((text.drop start).take (k - start)) := (by simp [sbytes, feed, wbytes]); rw [← e] at R6; exact R6)
                  clear hown6 hg6 R6 R4 SM4 R hsM
                  go_wp2
                  go_roundw
                  case rel => exact ⟨false, k + 1, k + 1, _, _, rfl, by go_num, rfl, by go_num, HN.out⟩
                  case measure => simp [intOf]; omega
                | false =>
                  obtain ⟨aM, hsM, SM⟩ := slice_mid R.mem.txt start k hsk hkL
                  obtain ⟨T, trim, X, htr, hT⟩ := R.mem.buf
                  obtain rfl := htr rfl
                  have hroom := R.room
                  have HBS : Hid (bs.length + ((text.drop start).take (k - start)).length + 1 ≤ 4194304) := by unfold Hid; rw [R.mem.len, SM.hlen]; simp only [feed] at hroom; omega
                  have hwl := wbytes_len false ((text.drop start).take (k - start))
                  rw [SM.hlen] at hwl
                  have HROOM : Hid (m + 1 + (k - start) ≤ k) := hroom
                  have hroomI := HROOM.out
                  clear hroom
                  go_wp2_with fail
                  refine (zzStartNext_any wr B B T false false false bs X aM (k - start) (cT - start) _ SM (Nat.le_refl _) HBS.out).mono ?_
                  rintro e w4 ⟨rfl, T', X', hO, hT'⟩
                  have R4 := R.mem.wrote hT X' hO hT' (fun h => by first | rfl | simp at h)
                  have SM4 := SM.apart hO (Nat.le_refl _) (fun k hk => (hT k hk).1)
                  clear SM X X' hO hT hT'
                  go_wp2_with (at_builtin; refine wpList_append_fits _ rfl (.tmp 54) (.tmp 55) 22 rfl (B + 1) 5 i0 1 Try.underlying22 hi hz1 gW m l1 _ rfl (by exact R4.want.alloc _) ⟨w4.heap.size, 0, none⟩ 1 1 (vals [10]) rfl rfl (by exact cell_one_new _ _ _) (vals_one _) (by omega) ?_)
                  intro w5 hown5 hg5
                  have R5 := R4.app (k := 1) (vs := [10]) (fun S => only_alloc S w4 _) hg5 rfl hown5 (by omega)
                  have SM5 := SM4.only ((only_alloc (fun k => k = gW) w4 _).trans (only_grown hg5 (fun k hk => (Option.some.inj hk).symm))) (fun k hk h => by have := (R4.want.lt gW rfl).1; omega)
                  clear hown5 hg5 R4 SM4
                  go_wp2_with (at_builtin; refine wpList_append_fits_any _ rfl (.tmp 62) (.tmp 63) 22 rfl (B + 1) 5 i0 1 Try.underlying22 hi hz1 gW (m + 1) l1 _ rfl (by exact R5.want) aM (k - start) (cT - start) (vals ((text.drop start).take (k - start))) rfl (by rw [vals_length, SM5.hlen, Nat.mul_one]) (fun h => SM5.none_len h) (by exact SM5.src) (vals_one _) (by omega) ?_)
                  intro w6 hown6 hg6
                  have R6 := R5.app (fun S => Only.refl S w5) hg6 SM5.hlen hown6 (by omega)
                  have HN : Hid _ := R.next hkL HHIT.out (by have e : bs ++ sbytes false false ((text.drop start).take (k - start)) = (bs ++ [10]) ++ ((text.drop start).take (k - start)) := (by simp [sbytes, feed, wbytes]); rw [← e] at R6; exact R6)
                  clear hown6 hg6 R6 R5 SM5 R hsM
                  go_wp2
                  go_roundw
                  case rel => exact ⟨false, k + 1, k + 1, _, _, rfl, by go_num, rfl, by go_num, HN.out⟩
                  case measure => simp [intOf]; omega
              | true =>
                cases first with
                | true =>
                  obtain ⟨aM, hsM, SM⟩ := slice_mid R.mem.txt start k hsk hkL
                  obtain ⟨T, trim, X, htr, hT⟩ := R.mem.buf
                  clear htr
                  have hroom := R.room
                  have HBS : Hid (bs.length + ((text.drop start).take (k - start)).length + 1 ≤ 4194304) := by unfold Hid; rw [R.mem.len, SM.hlen]; simp only [feed] at hroom; omega
                  have hwl := wbytes_len true ((text.drop start).take (k - start))
                  rw [SM.hlen] at hwl
                  have HROOM : Hid (m + 0 + (k - start) ≤ k) := hroom
                  have hroomI := HROOM.out
                  clear hroom
                  go_wp2_with fail
                  refine (zzStartLine_any wr B B T true trim true (fun h => by simp at h) bs X aM (k - start) (cT - start) _ SM (Nat.le_refl _) HBS.out).mono ?_
                  rintro e w4 ⟨rfl, T', X', hO, hT'⟩
                  have R4 := R.mem.wrote hT X' hO hT' (fun h => by first | rfl | simp at h)
                  have SM4 := SM.apart hO (Nat.le_refl _) (fun k hk => (hT k hk).1)
                  clear SM X X' hO hT hT'
                  have hle : leadN ((text.drop start).take (k - start)) ≤ k - start := by have := leadN_le ((text.drop start).take (k - start)); rw [SM4.hlen] at this; exact this
                  obtain ⟨aS, hsS, SS⟩ := slice_from SM4 (leadN ((text.drop start).take (k - start))) hle
                  go_wp2_with fail
                  refine (lead_any w4 _ aM (k - start) (cT - start) _ SM4).mono ?_
                  rintro e w' ⟨rfl, rfl⟩
                  go_wp2_with (at_builtin; refine wpList_append_fits_any _ rfl (.tmp 62) (.tmp 63) 22 rfl (B + 1) 5 i0 1 Try.underlying22 hi hz1 gW m l1 _ rfl (by exact R4.want) aS (k - start - leadN ((text.drop start).take (k - start))) (cT - start - leadN ((text.drop start).take (k - start))) (vals (((text.drop start).take (k - start)).drop (leadN ((text.drop start).take (k - start))))) rfl (by rw [vals_length, SS.hlen, Nat.mul_one]) (fun h => SS.none_len h) (by exact SS.src) (vals_one _) (by omega) ?_)
                  intro w6 hown6 hg6
                  have R6 := R4.app (fun S => Only.refl S w4) hg6 SS.hlen hown6 (by omega)
                  have HN : Hid _ := R.next hkL HHIT.out (by have e : bs ++ sbytes true true ((text.drop start).take (k - start)) = bs ++ (((text.drop start).take (k - start)).drop (leadN ((text.drop start).take (k - start)))) := (by simp [sbytes, feed, wbytes]); rw [← e] at R6; exact R6)
                  clear hown6 hg6 R6 R4 SM4 R hsM
                  clear SS hsS hle
                  go_wp2
                  go_roundw
                  case rel => exact ⟨false, k + 1, k + 1, _, _, rfl, by go_num, rfl, by go_num, HN.out⟩
                  case measure => simp [intOf]; omega
                | false =>
                  obtain ⟨aM, hsM, SM⟩ := slice_mid R.mem.txt start k hsk hkL
                  obtain ⟨T, trim, X, htr, hT⟩ := R.mem.buf
                  clear htr
                  have hroom := R.room
                  have HBS : Hid (bs.length + ((text.drop start).take (k - start)).length + 1 ≤ 4194304) := by unfold Hid; rw [R.mem.len, SM.hlen]; simp only [feed] at hroom; omega
                  have hwl := wbytes_len true ((text.drop start).take (k - start))
                  rw [SM.hlen] at hwl
                  have HROOM : Hid (m + 1 + (k - start) ≤ k) := hroom
                  have hroomI := HROOM.out
                  clear hroom
                  go_wp2_with fail
                  refine (zzStartNext_any wr B B T true trim false bs X aM (k - start) (cT - start) _ SM (Nat.le_refl _) HBS.out).mono ?_
                  rintro e w4 ⟨rfl, T', X', hO, hT'⟩
                  have R4 := R.mem.wrote hT X' hO hT' (fun h => by first | rfl | simp at h)
                  have SM4 := SM.apart hO (Nat.le_refl _) (fun k hk => (hT k hk).1)
                  clear SM X X' hO hT hT'
                  go_wp2_with (at_builtin; refine wpList_append_fits _ rfl (.tmp 54) (.tmp 55) 22 rfl (B + 1) 5 i0 1 Try.underlying22 hi hz1 gW m l1 _ rfl (by exact R4.want.alloc _) ⟨w4.heap.size, 0, none⟩ 1 1 (vals [10]) rfl rfl (by exact cell_one_new _ _ _) (vals_one _) (by omega) ?_)
                  intro w5 hown5 hg5
                  have R5 := R4.app (k := 1) (vs := [10]) (fun S => only_alloc S w4 _) hg5 rfl hown5 (by omega)
                  have SM5 := SM4.only ((only_alloc (fun k => k = gW) w4 _).trans (only_grown hg5 (fun k hk => (Option.some.inj hk).symm))) (fun k hk h => by have := (R4.want.lt gW rfl).1; omega)
                  clear hown5 hg5 R4 SM4
                  have hle : leadN ((text.drop start).take (k - start)) ≤ k - start := by have := leadN_le ((text.drop start).take (k - start)); rw [SM5.hlen] at this; exact this
                  obtain ⟨aS, hsS, SS⟩ := slice_from SM5 (leadN ((text.drop start).take (k - start))) hle
                  go_wp2_with fail
                  refine (lead_any w5 _ aM (k - start) (cT - start) _ SM5).mono ?_
                  rintro e w' ⟨rfl, rfl⟩
                  go_wp2_with (at_builtin; refine wpList_append_fits_any _ rfl (.tmp 62) (.tmp 63) 22 rfl (B + 1) 5 i0 1 Try.underlying22 hi hz1 gW (m + 1) l1 _ rfl (by exact R5.want) aS (k - start - leadN ((text.drop start).take (k - start))) (cT - start - leadN ((text.drop start).take (k - start))) (vals (((text.drop start).take (k - start)).drop (leadN ((text.drop start).take (k - start))))) rfl (by rw [vals_length, SS.hlen, Nat.mul_one]) (fun h => SS.none_len h) (by exact SS.src) (vals_one _) (by omega) ?_)
                  intro w6 hown6 hg6
                  have R6 := R5.app (fun S => Only.refl S w5) hg6 SS.hlen hown6 (by omega)
                  have HN : Hid _ := R.next hkL HHIT.out (by have e : bs ++ sbytes true false ((text.drop start).take (k - start)) = (bs ++ [10]) ++ (((text.drop start).take (k - start)).drop (leadN ((text.drop start).take (k - start)))) := (by simp [sbytes, feed, wbytes]); rw [← e] at R6; exact R6)
                  clear hown6 hg6 R6 R5 SM5 R hsM
                  clear SS hsS hle
                  go_wp2
                  go_roundw
                  case rel => exact ⟨false, k + 1, k + 1, _, _, rfl, by go_num, rfl, by go_num, HN.out⟩
                  case measure => simp [intOf]; omega
            · have t10 : (((text.getD k 0).toNat : Int) == 10) = false := byte_ne (n := 10) h10
              generalize hv : ((text.getD k 0).toNat : Int) = v at hck t10
              have HN : Hid _ := R.miss hlt
              clear h10 hv R
              go_wp2
              go_roundw
              case rel => exact ⟨first, start, k + 1, m, bs, rfl, rfl, rfl, by go_num, HN.out⟩
              case measure => simp [intOf]; omega
        · have hkLI : ¬ (k : Int) ≤ (l1 : Int) := by omega
          obtain ⟨hst, rfl⟩ := R.fin (by omega)
          obtain ⟨_, hm, hbs, _⟩ := R.more rfl
          obtain ⟨T, trim, X, htr, hT⟩ := R.mem.buf
          have HBS : Hid (bs.length ≤ 4194304) := by unfold Hid; rw [R.mem.len]; omega
          have HTX : Hid (lines = false → bs = text) := fun h => by
            rw [hbs h, List.take_of_length_le (by rw [HLT.out]; omega)]
          have hbw : Below w.heap.size w wr := hb3.trans (R.mem.bel.mono hBw)
          have hwant := R.mem.want
          have htxt := R.mem.txt
          have hlenb := R.mem.len
          have HLB : Hid _ := hlenb
          clear R hbs htr hT hlenb
          go_wp2_with fail
          refine (bufBytes_any wr B T _ _ _ X HBS.out).mono ?_
          rintro e w5 ⟨rfl, own5, hb5⟩
          have own6 := (Below.only hb5 (fun _ => False)).owns hwant (fun _ _ h => h)
          have SA := byts_row (N := w5.heap.size) rfl (own5.lt _ rfl).2 (row_max own5) own5
          have SW := byts_row (N := w5.heap.size) HLB.out (own6.lt _ rfl).2 (row_max own6) own6
          have STX := htxt.below hb5
          have hb5w : Below w.heap.size w w5 := hbw.trans (hb5.mono hbw.size)
          clear own5 own6 hb5 hwant htxt X hbw
          generalize wr.heap.size = gA at *
          cases lines with
          | false =>
            go_wp2_with fail
            refine (sameBytes_any w5 _ _ _ _ _ _ _ _ _ _ SA STX).mono ?_
            rintro e w' ⟨rfl, q, rfl⟩
            rw [decide_eq_true (HTX.out trivial)]
            have SA' := SA.only (only_drewN (fun _ => False) w5 q) (fun _ _ h => h)
            have SW' := SW.only (only_drewN (fun _ => False) w5 q) (fun _ _ h => h)
            go_wp2_with fail
            refine (sameBytes_any _ _ _ _ _ _ _ _ _ _ _ SA' SW').mono ?_
            rintro e w' ⟨rfl, q', rfl⟩
            rw [decide_eq_true rfl]
            go_wp2
            go_ret
            exact ⟨rfl, below_drewN hb5w _⟩
          | true =>
            go_wp2_with fail
            refine (sameBytes_any w5 _ _ _ _ _ _ _ _ _ _ SA SW).mono ?_
            rintro e w' ⟨rfl, q, rfl⟩
            rw [decide_eq_true rfl]
            go_wp2
            go_ret
            exact ⟨rfl, below_drewN hb5w q⟩
    · go_wp2_with fail
      all_goals first
        | (go_ret; exact ⟨rfl, Below.refl _ _⟩)
        | (exfalso; omega)

end Go.Proofs.Qxb6001694a
