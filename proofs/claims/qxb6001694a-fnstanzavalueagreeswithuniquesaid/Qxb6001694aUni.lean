import Derived.Test.Qxb6001694aEar
namespace Go.Proofs.Qxb6001694a
open Go.RowKit Go.Maps

/-- The list of unique fields behind k fields. -/
structure Uq (ns vs : List ByteArray) (k : Nat) (un uv : List ByteArray) : Prop where
  len : uv.length = un.length
  le : un.length ≤ k
  inj : ∀ a b, a < un.length → b < un.length → keyL (un.getD a ByteArray.empty) = keyL (un.getD b ByteArray.empty) → a = b
  val : ∀ j, j < un.length → valTo ns vs (un.getD j ByteArray.empty) k = uv.getD j ByteArray.empty ∧ hasTo ns (un.getD j ByteArray.empty) k = true
  size : ∀ j, j < un.length → (un.getD j ByteArray.empty).size ≤ 1048576

theorem sameN_iff {a b : ByteArray} : sameN a b = true ↔ keyL a = keyL b := by unfold sameN; rw [decide_eq_true_iff]

theorem sameN_no {a b : ByteArray} (h : ¬ keyL a = keyL b) : sameN a b = false := by
  cases hs : sameN a b with
  | false => rfl
  | true => exact absurd (sameN_iff.1 hs) h

theorem Uq.start (ns vs : List ByteArray) : Uq ns vs 0 [] [] :=
  ⟨rfl, Nat.le_refl _, fun a b ha => by simp at ha, fun j hj => by simp at hj, fun j hj => by simp at hj⟩

theorem getD_set_eq {l : List ByteArray} {i : Nat} {x : ByteArray} (h : i < l.length) : (l.set i x).getD i ByteArray.empty = x := by
  rw [List.getD_eq_getElem?_getD, List.getElem?_set_self h]; rfl

theorem getD_set_ne {l : List ByteArray} {i j : Nat} {x : ByteArray} (h : i ≠ j) : (l.set i x).getD j ByteArray.empty = l.getD j ByteArray.empty := by
  rw [List.getD_eq_getElem?_getD, List.getElem?_set_ne h, List.getD_eq_getElem?_getD]

theorem Uq.hit {ns vs un uv : List ByteArray} {k i : Nat} (U : Uq ns vs k un uv) (hi : i < un.length) (hs : sameN (un.getD i ByteArray.empty) (ns.getD k ByteArray.empty) = true) :
    Uq ns vs (k + 1) un (uv.set i (vs.getD k ByteArray.empty)) := by
  have hk := sameN_iff.1 hs
  refine ⟨by simpa using U.len, Nat.le_succ_of_le U.le, U.inj, fun j hj => ?_, U.size⟩
  by_cases hji : j = i
  · subst hji
    rw [getD_set_eq (by rw [U.len]; exact hi)]
    exact val_hit (sameN_iff.2 hk.symm)
  · rw [getD_set_ne (fun e => hji e.symm)]
    have hno : sameN (ns.getD k ByteArray.empty) (un.getD j ByteArray.empty) = false := sameN_no (fun e => hji (U.inj j i hj hi (e.symm.trans hk.symm)))
    rw [(val_miss (vs := vs) hno).1, (val_miss (vs := vs) hno).2]
    exact U.val j hj

theorem Uq.miss {ns vs un uv : List ByteArray} {k : Nat} (U : Uq ns vs k un uv) (hs : ∀ i, i < un.length → sameN (un.getD i ByteArray.empty) (ns.getD k ByteArray.empty) = false) (hz : (ns.getD k ByteArray.empty).size ≤ 1048576) :
    Uq ns vs (k + 1) (un ++ [ns.getD k ByteArray.empty]) (uv ++ [vs.getD k ByteArray.empty]) := by
  have hne : ∀ i, i < un.length → ¬ keyL (un.getD i ByteArray.empty) = keyL (ns.getD k ByteArray.empty) := fun i hi e => by
    have := hs i hi
    rw [sameN_iff.2 e] at this
    cases this
  refine ⟨by simp [U.len], by simp; exact U.le, ?_, ?_, ?_⟩
  · intro a b ha hb he
    rw [snoc_len] at ha hb
    by_cases h1 : a < un.length
    · by_cases h2 : b < un.length
      · rw [getD_snoc_lt h1, getD_snoc_lt h2] at he
        exact U.inj a b h1 h2 he
      · rw [getD_snoc_lt h1, getD_snoc_eq (by omega)] at he
        exact absurd he (hne a h1)
    · by_cases h2 : b < un.length
      · rw [getD_snoc_eq (by omega), getD_snoc_lt h2] at he
        exact absurd he.symm (hne b h2)
      · omega
  · intro j hj
    rw [snoc_len] at hj
    by_cases h1 : j < un.length
    · rw [getD_snoc_lt h1, getD_snoc_lt (by rw [U.len]; exact h1)]
      have hno : sameN (ns.getD k ByteArray.empty) (un.getD j ByteArray.empty) = false := sameN_no (fun e => hne j h1 e.symm)
      rw [(val_miss (vs := vs) hno).1, (val_miss (vs := vs) hno).2]
      exact U.val j h1
    · rw [getD_snoc_eq (by omega), getD_snoc_eq (by rw [U.len]; omega)]
      exact val_hit (sameN_iff.2 rfl)
  · intro j hj
    rw [snoc_len] at hj
    by_cases h1 : j < un.length
    · rw [getD_snoc_lt h1]; exact U.size j h1
    · rw [getD_snoc_eq (by omega)]; exact hz

theorem flat_set {un uv : List ByteArray} {x : ByteArray} {i : Nat} : ∀ {m : Nat}, i < m → i < uv.length → (flat un uv m).set (i * 2 + 1) (.string x) = flat un (uv.set i x) m
  | m + 1, hi, hl => by
    unfold flat
    have hlen := flat_len un uv m
    by_cases h : i < m
    · rw [List.set_append_left _ _ (by omega), flat_set h hl, getD_set_ne (by omega)]
    · obtain rfl : i = m := by omega
      rw [List.set_append_right _ _ (by omega), hlen, show i * 2 + 1 - i * 2 = 1 by omega, getD_set_eq hl, flat_congr (ns := un) (vs := uv) (ns' := un) (vs' := uv.set i x) (n := i) (fun _ _ => rfl) (fun j hj => (getD_set_ne (by omega)).symm)]
      rfl

theorem flat_snoc' {un uv : List ByteArray} {nm vl : ByteArray} (hl : uv.length = un.length) :
    flat un uv un.length ++ [.string nm, .string vl] = flat (un ++ [nm]) (uv ++ [vl]) (un.length + 1) := by
  have h := flat_snoc (ns := un) (vs := uv) (n := un.length) (nm := nm) (vl := vl) (Nat.le_refl _) (by omega)
  rw [List.take_length, show uv.take un.length = uv by rw [← hl, List.take_length]] at h
  exact h

theorem fld_of_row {w : World} {base g cap m : Nat} {un uv : List ByteArray} (hs : ∀ i, i < m → (un.getD i ByteArray.empty).size ≤ 1048576)
    (hown : w.ownsRow base 51 2 (.slice (some ⟨g, 0, none⟩) m cap) m (flat un uv m)) : FldAt w g m un uv :=
  ⟨fun i hi => by rw [hown.cellAt (i * 2) (by omega), (flat_at hi).1], fun i hi => by rw [hown.cellAt (i * 2 + 1) (by omega), (flat_at hi).2], hs⟩

theorem FnAt.kept {w w' : World} {F : Nat} {st : Option Nat} {un : List ByteArray} (N : FnAt w F st un) (hb : Below w.heap.size w w') : FnAt w' F st un := by
  have hF := World.block_lt_of_cell? w _ N.rule
  exact ⟨(hb.cell (p := ⟨F, 0, none⟩) hF).trans N.rule, (hb.cell (p := ⟨F, 1, none⟩) hF).trans N.idx, (hb.frozen (p := ⟨F, 1, none⟩) hF).trans N.soft, fun b h => by
    obtain ⟨h1, h2, h3⟩ := N.map b h
    exact ⟨h1, h2, h3.kept (row := none) ⟨hb.os, hb.tape, hb.output, hb.size, fun k hk _ => hb.block k hk⟩ (by simp)⟩⟩

/-- What Unique leaves. -/
def Uniq (w : World) (ns vs : List ByteArray) (e : Ending) (w' : World) : Prop :=
  ∃ g cap un uv, e = .returned (.slice (some ⟨g, 0, none⟩) un.length cap) ∧ FldAt w' g un.length un uv ∧ Uq ns vs ns.length un uv ∧ Below w.heap.size w w'

/-- The round's relation. -/
structure UqAt (w : World) (ns vs : List ByteArray) (k : Nat) (un uv : List ByteArray) (st : Option Nat) (wr : World) : Prop where
  uq : Uq ns vs k un uv
  own : wr.ownsRow w.heap.size 51 2 (.slice (some ⟨w.heap.size + 1, 0, none⟩) un.length ns.length) un.length (flat un uv un.length)
  fn : FnAt wr w.heap.size st un
  apart : ∀ b, st = some b → w.heap.size + 1 < b
  bel : Below w.heap.size w wr

theorem uq_start {w w1 : World} {ns : List ByteArray} (vs : List ByteArray) (hown : w1.ownsRow w.heap.size 51 2 (.slice (some ⟨w.heap.size + 1, 0, none⟩) 0 ns.length) 0 [])
    (hg : (w.alloc (.cells #[.int .u8 0, .map none] 68)).grownBy w1 none) : UqAt w ns vs 0 [] [] none w1 := by
  have hb : Below w.heap.size w w1 := ((Below.refl _ w).alloc (Nat.le_refl _) _).grown hg (by simp) (by simp)
  have hblk : w1.heap[w.heap.size]? = (w.alloc (.cells #[.int .u8 0, .map none] 68)).heap[w.heap.size]? := hg.block _ (by simp) (by simp)
  refine ⟨Uq.start ns vs, hown, ⟨?_, ?_, ?_, (fun b h => by simp at h)⟩, (fun b h => by simp at h), hb⟩
  · exact (World.cell?_of_block (a := ⟨w.heap.size, 0, none⟩) hblk).trans (World.cell?_alloc_mark _ _ _ _ _)
  · exact (World.cell?_of_block (a := ⟨w.heap.size, 1, none⟩) hblk).trans (World.cell?_alloc_mark _ _ _ _ _)
  · rw [World.frozen?_of_block (a := ⟨w.heap.size, 1, none⟩) hblk]
    simp

/-- Behind the laying of the round's field. -/
theorem UqAt.enter {w wr : World} {ns vs un uv : List ByteArray} {k : Nat} {st : Option Nat} (R : UqAt w ns vs k un uv st wr) (a b : Value) :
    FnAt (wr.alloc (.cells #[a, b] 51)) w.heap.size st un ∧ FldAt (wr.alloc (.cells #[a, b] 51)) (w.heap.size + 1) un.length un uv := by
  have up := (Below.refl _ wr).alloc (Nat.le_refl _) (.cells #[a, b] 51)
  refine ⟨R.fn.kept up, (fld_of_row R.uq.size R.own).below up⟩

/-- Behind the call of earlier in a round. -/
structure UqMid (w wr w2 : World) (ns un uv : List ByteArray) (s1 s2 : ByteArray) : Prop where
  f0 : w2.cell? ⟨wr.heap.size, 0, none⟩ = some (.string s1)
  f1 : w2.cell? ⟨wr.heap.size, 0 + 1, none⟩ = some (.string s2)
  own : w2.ownsRow w.heap.size 51 2 (.slice (some ⟨w.heap.size + 1, 0, none⟩) un.length ns.length) un.length (flat un uv un.length)
  bel : Below w.heap.size w w2
  lt : wr.heap.size < w2.heap.size

theorem UqAt.base {w wr : World} {ns vs un uv : List ByteArray} {k : Nat} {st : Option Nat} (R : UqAt w ns vs k un uv st wr) : w.heap.size + 1 < wr.heap.size := by
  have := (R.own.lt (w.heap.size + 1) rfl).2
  exact this

theorem UqAt.after {w wr w2 : World} {ns vs un uv : List ByteArray} {k : Nat} {st : Option Nat} {s1 s2 : ByteArray} (R : UqAt w ns vs k un uv st wr)
    (hO : Only (fun k => k = w.heap.size ∨ st = some k) (wr.alloc (.cells #[.string s1, .string s2] 51)) w2) : UqMid w wr w2 ns un uv s1 s2 := by
  have hG := R.base
  have hst : ∀ b, st = some b → w.heap.size + 1 < b ∧ b < wr.heap.size := fun b hb => ⟨R.apart b hb, (R.fn.map b hb).2.2.lt⟩
  have hz : (wr.alloc (.cells #[.string s1, .string s2] 51)).heap.size = wr.heap.size + 1 := by simp
  have hf : ¬ (wr.heap.size = w.heap.size ∨ st = some wr.heap.size) := fun h => by
    rcases h with h | h
    · omega
    · have := (hst _ h).2; omega
  refine ⟨hO.cell (p := ⟨wr.heap.size, 0, none⟩) (World.cell?_alloc_mark _ _ _ _ _) hf, hO.cell (p := ⟨wr.heap.size, 1, none⟩) (World.cell?_alloc_mark _ _ _ _ _) hf, hO.owns (R.own.alloc _) (fun k hk => ?_), ?_, by have := hO.size; omega⟩
  · obtain rfl : w.heap.size + 1 = k := by simpa [Value.ownBlock] using hk
    intro h
    rcases h with h | h
    · omega
    · have := (hst _ h).1; omega
  · refine (R.bel.alloc (by omega) _).trans (hO.below (by omega) (fun k hk h => ?_))
    rcases h with h | h
    · omega
    · have := (hst _ h).1; omega

theorem FnAt.aside {w w' : World} {F G : Nat} {st : Option Nat} {un : List ByteArray} (N : FnAt w F st un) (hg : w.grownBy w' (some G)) (hF : F ≠ G) (hst : ∀ b, st = some b → b ≠ G) : FnAt w' F st un := by
  have hlt := World.block_lt_of_cell? w _ N.rule
  have hblk : w'.heap[F]? = w.heap[F]? := hg.block F hlt (fun e => hF (Option.some.inj e))
  exact ⟨(World.cell?_of_block (a := ⟨F, 0, none⟩) hblk).trans N.rule, (World.cell?_of_block (a := ⟨F, 1, none⟩) hblk).trans N.idx, (World.frozen?_of_block (a := ⟨F, 1, none⟩) hblk).trans N.soft, fun b h => by
    obtain ⟨h1, h2, h3⟩ := N.map b h
    exact ⟨h1, h2, h3.kept hg (fun e => hst b h (Option.some.inj e))⟩⟩

theorem UqMid.hit_end {w wr w2 : World} {ns vs un uv : List ByteArray} {k i : Nat} {st st' : Option Nat} {s1 s2 : ByteArray} (P : UqMid w wr w2 ns un uv s1 s2) (R : UqAt w ns vs k un uv st wr)
    (hst' : ∀ b, st' = some b → st = some b ∨ (wr.alloc (.cells #[.string s1, .string s2] 51)).heap.size ≤ b) (hi : i < un.length) (hfn : FnAt w2 w.heap.size st' un) (hs2 : vs.getD k ByteArray.empty = s2)
    (hs : sameN (un.getD i ByteArray.empty) (ns.getD k ByteArray.empty) = true) :
    UqAt w ns vs (k + 1) un (uv.set i s2) st' (w2.setCell ⟨w.heap.size + 1, i * 2 + 1, none⟩ (.string s2)) := by
  have hG := R.base
  have hst : ∀ b, st' = some b → w.heap.size + 1 < b := fun b hb => by
    rcases hst' b hb with h | h
    · exact R.apart b h
    · simp at h; omega
  have hstore := P.own.stored (i * 2 + 1) (.string s2)
  rw [flat_set hi (by rw [R.uq.len]; exact hi)] at hstore
  subst hs2
  exact ⟨R.uq.hit hi hs, hstore.1, hfn.aside hstore.2 (by omega) (fun b hb => by have := hst b hb; omega), hst, P.bel.setCell (by show w.heap.size ≤ w.heap.size + 1; omega) _⟩

theorem UqMid.miss_end {w wr w2 w3 : World} {ns vs un uv : List ByteArray} {k : Nat} {st st' : Option Nat} {s1 s2 : ByteArray} (P : UqMid w wr w2 ns un uv s1 s2) (R : UqAt w ns vs k un uv st wr)
    (hst' : ∀ b, st' = some b → st = some b ∨ (wr.alloc (.cells #[.string s1, .string s2] 51)).heap.size ≤ b) (hfn : FnAt w2 w.heap.size st' (un ++ [s1]))
    (hno : ∀ i, i < un.length → sameN (un.getD i ByteArray.empty) s1 = false) (hs1 : ns.getD k ByteArray.empty = s1) (hs2 : vs.getD k ByteArray.empty = s2) (hz : s1.size ≤ 1048576)
    (hown : w3.ownsRow w.heap.size 51 2 (.slice (some ⟨w.heap.size + 1, 0, none⟩) (un.length + 1) ns.length) (un.length + 1) (flat un uv un.length ++ [.string s1, .string s2]))
    (hg : (w2.alloc (.cells #[.string s1, .string s2] 51)).grownBy w3 (some (w.heap.size + 1))) :
    UqAt w ns vs (k + 1) (un ++ [s1]) (uv ++ [s2]) st' w3 := by
  have hG := R.base
  have hlt := P.lt
  have hst : ∀ b, st' = some b → w.heap.size + 1 < b := fun b hb => by
    rcases hst' b hb with h | h
    · exact R.apart b h
    · simp at h; omega
  rw [flat_snoc' R.uq.len] at hown
  subst hs1
  subst hs2
  refine ⟨R.uq.miss hno hz, ?_, ?_, hst, (P.bel.alloc (by omega) _).grown hg (by simp; omega) (fun k hk => by have := Option.some.inj hk; omega)⟩
  · rw [snoc_len]; exact hown
  · exact (hfn.kept ((Below.refl _ w2).alloc (Nat.le_refl _) _)).aside hg (by omega) (fun b hb => by have := hst b hb; omega)

set_option maxHeartbeats 1000000 in
theorem unique_any (w : World) (B g cap : Nat) (ns vs : List ByteArray) (S : StzAt w B g cap ns vs) (hz : ∀ i, i < ns.length → (ns.getD i ByteArray.empty).size ≤ 1048576) :
    Calls Try.prog 34 #[.pointer (some ⟨B, 0, none⟩)] w (Uniq w ns vs) := by
  have h0 := S.fields
  have h2 := S.rule
  have hn := S.bound
  have hB := World.block_lt_of_cell? w _ h0
  obtain ⟨i0, hi, hz0, hz1, hz2⟩ := info_parts Try.info51
  go_enter Try.func34, Try.ntmps34
  go_wp2_with (at_make; refine wpList_make_own _ rfl _ _ 39 rfl w.heap.size 51 i0 (.agg #[.string ⟨#[]⟩, .string ⟨#[]⟩]) 2 Try.underlying39 hi hz0 hz1 .i64 .i64 _ ns.length rfl rfl rfl (by rw [hz2]; omega) (by unfold maxLen; omega) (by simp) ?_)
  intro w1 hown hgrow
  have hst := uq_start vs (by simpa using hown) hgrow
  have hb1 := hst.bel
  have k0 := (hb1.cell (p := ⟨B, 0, none⟩) hB).trans h0
  clear hown hgrow h0 h2
  go_wp2
  go_loopw [4, 24] (fun u i wr => ∃ (k : Nat) (un uv : List ByteArray) (st : Option Nat), k ≤ ns.length ∧ i = .int .i64 k ∧ u = .slice (some ⟨w.heap.size + 1, 0, none⟩) un.length ns.length ∧ UqAt w ns vs k un uv st wr) (fun _ i _ => ns.length - (intOf i).toNat)
  case atStart => exact ⟨0, [], [], none, Nat.zero_le _, rfl, rfl, hst⟩
  case round =>
    obtain ⟨k, un, uv, st, hk, rfl, rfl, R⟩ := hrel
    clear hst hb1 k0
    by_cases hlt : k < ns.length
    · have S' := S.below R.bel
      have hnm := S'.name k hlt
      have hvl := S'.value k hlt
      have hki : (k : Int) < (ns.length : Int) := by omega
      have hzk := hz k hlt
      have hle := R.uq.le
      have A := R.enter (.string (ns.getD k ByteArray.empty)) (.string (vs.getD k ByteArray.empty))
      clear S'
      generalize hs1 : ns.getD k ByteArray.empty = s1 at *
      generalize hs2 : vs.getD k ByteArray.empty = s2 at *
      have HS1 : Hid (ns.getD k ByteArray.empty = s1) := hs1
      have HS2 : Hid (vs.getD k ByteArray.empty = s2) := hs2
      clear hs1 hs2
      go_wp2_with fail
      refine (earlier_any _ w.heap.size (w.heap.size + 1) ns.length st un uv s1 A.1 A.2 (by omega) (by omega) hzk).mono ?_
      rintro e w2 ⟨st', hO, hst', hr⟩
      rcases hr with ⟨i, hi', rfl, hsame, hfn⟩ | ⟨rfl, hno, hfn⟩
      · have P := R.after hO
        have HX := P.hit_end R hst' hi' hfn (i := i) HS2.out (by rw [HS1.out]; exact hsame)
        have c0 := P.f0
        have c1 := P.f1
        have hold := P.own.cellAt (i * 2 + 1) (by omega)
        rw [(flat_at hi').2] at hold
        have hfz := P.own.frozenAt (i * 2 + 1)
        have hii : (i : Int) < (un.length : Int) := by omega
        have hik : (i : Int) < 9223372036854775807 := by omega
        clear R A hfn hst' hO hsame P hnm hvl
        go_wp2
        go_roundw
        case rel => exact ⟨k + 1, un, _, st', by omega, by go_num, rfl, HX⟩
        case measure => simp [intOf]; omega
      · have P := R.after hO
        have c0 := P.f0
        have c1 := P.f1
        have hown := P.own
        have HE := fun w3 h1 h2 => P.miss_end R (w3 := w3) hst' hfn hno HS1.out HS2.out hzk h1 h2
        clear R A hfn hst' hO hno P hnm hvl
        go_wp2_with (at_builtin; refine wpList_append_fits _ rfl _ _ 39 rfl w.heap.size 51 i0 2 Try.underlying39 hi hz1 (w.heap.size + 1) un.length ns.length (flat un uv un.length) rfl (hown.alloc _) ⟨w2.heap.size, 0, none⟩ 1 1 [.string s1, .string s2] rfl rfl (cells_two _ _ _ _) (by intro u hu; simp at hu; rcases hu with rfl | rfl <;> rfl) (by omega) ?_)
        intro w3 hown3 hgrow3
        have HX := HE w3 hown3 hgrow3
        clear HE hown3 hgrow3
        go_wp2
        go_roundw
        case rel => exact ⟨k + 1, un ++ [s1], uv ++ [s2], st', by omega, by go_num, by rw [snoc_len], HX⟩
        case measure => simp [intOf]; omega
    · obtain rfl : k = ns.length := by omega
      have HF := fld_of_row R.uq.size R.own
      go_wp2
      go_ret
      exact ⟨_, _, un, uv, rfl, HF, R.uq, R.bel⟩

end Go.Proofs.Qxb6001694a
