import Derived.Test.Qxb6001694aKey
import Derived.Test.Qxb6001694aOnly
import Derived.Maps.OwnSet
import Derived.Deep.RegionHeld3
namespace Go.Proofs.Qxb6001694a
open Go.RowKit Go.Maps

theorem keyed9 : Keyed Try.prog 9 := string_keyed Try.underlying9
theorem zero3 (w : World) : (zeroValue 3).run Try.prog w = .ok (.int .i64 0) w := by kernel_rfl

/-- The key as the map's datum has it. -/
def kl (s : ByteArray) : Lit := .string (keyS s).data.toList

/-- The map behind k entries: the key of each name, at its index. -/
def mapD (un : List ByteArray) : Nat → DataW Unit
  | 0 => .map []
  | k + 1 => (mapD un k).put (kl (un.getD k ByteArray.empty)) (.lit (.int .i64 k))

theorem mapD_isMap (un : List ByteArray) : ∀ k, IsMap (mapD un k)
  | 0 => isMap_empty
  | k + 1 => (mapD_isMap un k).put _ _

theorem kl_eq {a b : ByteArray} : kl a = kl b ↔ sameN a b = true := by
  unfold kl sameN
  rw [decide_eq_true_iff, ← keyS_eq]
  constructor
  · intro h
    have h1 : (keyS a).data.toList = (keyS b).data.toList := by simpa using h
    have h2 : (keyS a).data = (keyS b).data := by rw [← Array.toList_inj]; exact h1
    have h3 : ∀ x : ByteArray, x = ⟨x.data⟩ := fun x => rfl
    rw [h3 (keyS a), h3 (keyS b), h2]
  · intro h
    rw [h]

theorem kl_key (s : ByteArray) : WideAt.IsKeyLit (kl s) := by
  unfold kl
  exact trivial

/-- What a look-up gives. -/
theorem mapD_look (un : List ByteArray) (nm : ByteArray) : ∀ m : Nat,
    (Maps.has (mapD un m) (kl nm) = false ∧ ∀ i, i < m → sameN (un.getD i ByteArray.empty) nm = false) ∨
    (Maps.has (mapD un m) (kl nm) = true ∧ ∃ i : Nat, i < m ∧ (∀ z, (mapD un m).atKey (kl nm) z = .lit (.int .i64 i)) ∧ sameN (un.getD i ByteArray.empty) nm = true)
  | 0 => .inl ⟨rfl, fun i hi => by omega⟩
  | m + 1 => by
    unfold mapD
    cases hs : sameN (un.getD m ByteArray.empty) nm with
    | true =>
      have e := kl_eq.2 hs
      rw [e]
      exact .inr ⟨has_put_same (mapD_isMap un m) (kl_key nm) _, m, by omega, fun z => atKey_put_same (mapD_isMap un m) (kl_key nm) _ z, hs⟩
    | false =>
      have hne : kl nm ≠ kl (un.getD m ByteArray.empty) := fun e => by rw [kl_eq.1 e.symm] at hs; cases hs
      rcases mapD_look un nm m with ⟨h1, h2⟩ | ⟨h1, i, hi, h2, h3⟩
      · refine .inl ⟨by rw [has_put_other hne]; exact h1, fun i hi => ?_⟩
        by_cases him : i = m
        · subst him; exact hs
        · exact h2 i (by omega)
      · exact .inr ⟨by rw [has_put_other hne]; exact h1, i, by omega, fun z => by rw [atKey_put_other hne]; exact h2 z, h3⟩

theorem mapD_congr {un un' : List ByteArray} : ∀ {m : Nat}, (∀ i, i < m → un.getD i ByteArray.empty = un'.getD i ByteArray.empty) → mapD un m = mapD un' m
  | 0, _ => rfl
  | m + 1, h => by
    unfold mapD
    rw [mapD_congr (fun i hi => h i (by omega)), h m (by omega)]

/-- The list's finder lies at block F: its rule; no map yet, or one in block b that holds each name's key. -/
structure FnAt (w : World) (F : Nat) (st : Option Nat) (un : List ByteArray) : Prop where
  rule : w.cell? ⟨F, 0, none⟩ = some (.int .u8 0)
  idx : w.cell? ⟨F, 1, none⟩ = some (.map st)
  soft : w.frozen? ⟨F, 1, none⟩ = false
  map : ∀ b, st = some b → 32 ≤ un.length ∧ b ≠ F ∧ w.ownsMap Try.prog 9 (plainElem Try.prog 3) b un.length (mapD un un.length)

/-- What earlier answers and leaves. -/
def Earlier (w : World) (F : Nat) (st : Option Nat) (un : List ByteArray) (nm : ByteArray) (e : Ending) (w' : World) : Prop :=
  ∃ st', Only (fun k => k = F ∨ st = some k) w w' ∧ (∀ b, st' = some b → st = some b ∨ w.heap.size ≤ b) ∧
    ((∃ i : Nat, i < un.length ∧ e = .returned (.int .i64 i) ∧ sameN (un.getD i ByteArray.empty) nm = true ∧ FnAt w' F st' un) ∨
     (e = .returned (.int .i64 (-1)) ∧ (∀ i, i < un.length → sameN (un.getD i ByteArray.empty) nm = false) ∧ FnAt w' F st' (un ++ [nm])))

theorem FnAt.bare {w w' : World} {F : Nat} {un un' : List ByteArray} (N : FnAt w F none un) (hb : Below w.heap.size w w') : FnAt w' F none un' := by
  have hF := World.block_lt_of_cell? w _ N.rule
  exact ⟨(hb.cell (p := ⟨F, 0, none⟩) hF).trans N.rule, (hb.cell (p := ⟨F, 1, none⟩) hF).trans N.idx, (hb.frozen (p := ⟨F, 1, none⟩) hF).trans N.soft, fun b h => by cases h⟩

set_option maxHeartbeats 400000 in
theorem earlier_few (w : World) (F g cap : Nat) (un uv : List ByteArray) (nm : ByteArray) (N : FnAt w F none un) (L : FldAt w g un.length un uv) (hm : un.length < 32) :
    Calls Try.prog 42 #[.pointer (some ⟨F, 0, none⟩), .slice (some ⟨g, 0, none⟩) un.length cap, .string nm] w (Earlier w F none un nm) := by
  have h0 := N.rule
  go_enter Try.func42, Try.ntmps42
  go_wp2_with fail
  refine (indexOf_any w g un.length cap un uv nm L (by omega)).mono ?_
  rintro e w1 ⟨hr, hb⟩
  rcases hr with ⟨i, hi, rfl, hs⟩ | ⟨rfl, hs⟩
  · have HS : Hid _ := hs
    clear hs h0
    go_wp2
    go_ret
    exact ⟨none, Below.only hb _, fun b h => by simp at h, .inl ⟨i, hi, rfl, HS.out, N.bare hb⟩⟩
  · have HS : Hid _ := hs
    clear hs h0
    go_wp2
    go_ret
    exact ⟨none, Below.only hb _, fun b h => by simp at h, .inr ⟨rfl, HS.out, N.bare hb⟩⟩

theorem heap_of_cell {w : World} {F o : Nat} {v : Value} (h : w.cell? ⟨F, o, none⟩ = some v) {b : Nat} {es : Array MapEntry} {c : Nat} (hb : w.heap[b]? = some (.map es c)) : b ≠ F := by
  rintro rfl
  simp [World.cell?, hb] at h

theorem snoc_len (un : List ByteArray) (nm : ByteArray) : (un ++ [nm]).length = un.length + 1 := by simp

theorem FnAt.put {w w1 w2 : World} {F b : Nat} {un : List ByteArray} {nm : ByteArray} (N : FnAt w F (some b) un) (hb : Below w.heap.size w w1)
    (hown2 : w2.ownsMap Try.prog 9 (plainElem Try.prog 3) b (un.length + 1) ((mapD un un.length).put (kl nm) (.lit (.int .i64 un.length)))) (hg : w1.grownBy w2 (some b)) :
    Only (fun k => k = F ∨ some b = some k) w w2 ∧ FnAt w2 F (some b) (un ++ [nm]) := by
  obtain ⟨h32, hbF, _⟩ := N.map b rfl
  have hF := World.block_lt_of_cell? w _ N.rule
  have hO : Only (fun k => k = F ∨ some b = some k) w w2 := (Below.only hb _).trans (only_grown hg (fun k hk => .inr hk))
  have hblk : w2.heap[F]? = w.heap[F]? := (hg.block F (Nat.lt_of_lt_of_le hF hb.size) (fun e => hbF (Option.some.inj e).symm)).trans (hb.block F hF)
  refine ⟨hO, (World.cell?_of_block (a := ⟨F, 0, none⟩) hblk).trans N.rule, (World.cell?_of_block (a := ⟨F, 1, none⟩) hblk).trans N.idx, (World.frozen?_of_block (a := ⟨F, 1, none⟩) hblk).trans N.soft, fun b' h => ?_⟩
  obtain rfl := Option.some.inj h
  refine ⟨by rw [snoc_len]; omega, hbF, ?_⟩
  rw [snoc_len]
  have e : mapD (un ++ [nm]) (un.length + 1) = (mapD un un.length).put (kl nm) (.lit (.int .i64 un.length)) := by
    show (mapD (un ++ [nm]) un.length).put (kl ((un ++ [nm]).getD un.length ByteArray.empty)) (.lit (.int .i64 un.length)) = _
    rw [getD_snoc_eq rfl, mapD_congr (un := un ++ [nm]) (un' := un) (fun i hi => getD_snoc_lt hi)]
  rw [e]
  exact hown2

theorem FnAt.look {w w1 : World} {F b : Nat} {un : List ByteArray} (N : FnAt w F (some b) un) (hb : Below w.heap.size w w1)
    (hown1 : w1.ownsMap Try.prog 9 (plainElem Try.prog 3) b un.length (mapD un un.length)) :
    Only (fun k => k = F ∨ some b = some k) w w1 ∧ FnAt w1 F (some b) un := by
  obtain ⟨h32, hbF, _⟩ := N.map b rfl
  have hF := World.block_lt_of_cell? w _ N.rule
  exact ⟨Below.only hb _, (hb.cell (p := ⟨F, 0, none⟩) hF).trans N.rule, (hb.cell (p := ⟨F, 1, none⟩) hF).trans N.idx, (hb.frozen (p := ⟨F, 1, none⟩) hF).trans N.soft, fun b' h => by
    obtain rfl := Option.some.inj h
    exact ⟨h32, hbF, hown1⟩⟩

set_option maxHeartbeats 400000 in
theorem earlier_map (w : World) (F g b cap : Nat) (un : List ByteArray) (nm : ByteArray) (N : FnAt w F (some b) un) (hm : un.length ≤ 1048576) (hnm : nm.size ≤ 1048576) :
    Calls Try.prog 42 #[.pointer (some ⟨F, 0, none⟩), .slice (some ⟨g, 0, none⟩) un.length cap, .string nm] w (Earlier w F (some b) un nm) := by
  have h0 := N.rule
  have h1 := N.idx
  obtain ⟨h32, hbF, hown⟩ := N.map b rfl
  have heq := fun (wx : World) (r : Option Nat) => run_eql_map_nil (P := Try.prog) wx 66 9 3 r Try.underlying66
  go_enter Try.func42, Try.ntmps42
  go_wp2_with fail
  refine (key_any w nm hnm).mono ?_
  rintro e w1 ⟨rfl, hb⟩
  have g0 := (hb.cell (p := ⟨F, 0, none⟩) (World.block_lt_of_cell? w _ h0)).trans h0
  have g1 := (hb.cell (p := ⟨F, 1, none⟩) (World.block_lt_of_cell? w _ h1)).trans h1
  have hown1 : w1.ownsMap Try.prog 9 (plainElem Try.prog 3) b un.length (mapD un un.length) := hown.kept (row := none) ⟨hb.os, hb.tape, hb.output, hb.size, fun k hk _ => hb.block k hk⟩ (by simp)
  have hkey : keyOf Try.prog 9 (.string (keyS nm)) = some (kl nm) := WideMaps.keyOf_string_mk Try.underlying9 (by rw [keyS_size]; unfold maxLen; omega)
  clear hown h0 h1
  go_wp2_with (at_lookup; refine wpList_lookup_own_ok_int _ rfl _ _ 66 rfl 9 3 .i64 keyed9 Try.underlying66 Try.underlying3 (zero3 _) b un.length _ rfl hown1 _ _ rfl hkey ?_)
  intro c hat _
  rcases mapD_look un nm un.length with ⟨hhas, hno⟩ | ⟨hhas, i, hi, hval, hs⟩
  · rw [hhas]
    have HNO : Hid _ := hno
    clear hat hhas hno
    go_wp2_with (at_mapUpdate; refine wpList_mapUpdate_own _ rfl _ _ _ 66 rfl 9 3 keyed9 Try.underlying66 _ b un.length _ rfl hown1 (by unfold maxLen; omega) _ _ _ rfl rfl hkey _ [] (plainElem_int Try.underlying3 (WalkArith.wf_i64 (by omega))) ?_)
    intro w2 hown2 hgrow2
    have HE := N.put hb hown2 hgrow2
    clear hown1 hown2 hgrow2 g0 g1
    go_wp2
    go_ret
    exact ⟨some b, HE.1, fun b' h => .inl h, .inr ⟨rfl, HNO.out, HE.2⟩⟩
  · rw [hhas]
    have hc : c = (i : Int) := by
      have := hval (.lit (.int .i64 0))
      rw [hat] at this
      simpa using this
    subst hc
    have HS : Hid _ := hs
    have HE := N.look hb hown1
    clear hat hval hs hhas hown1 g0 g1
    go_wp2
    go_ret
    exact ⟨some b, HE.1, fun b' h => .inl h, .inl ⟨i, hi, rfl, HS.out, HE.2⟩⟩

theorem run_makeMap64 (w : World) : (Instr.makeMap 66 (some (.int .i64 64))).run Try.prog w = .ok (.map (some w.heap.size)) (w.alloc (.map #[] 0)) := by
  kernel_rfl

/-- The map behind k rounds of the filling loop. -/
structure Filled (w : World) (F : Nat) (un : List ByteArray) (k : Nat) (wr : World) : Prop where
  rule : wr.cell? ⟨F, 0, none⟩ = some (.int .u8 0)
  idx : wr.cell? ⟨F, 1, none⟩ = some (.map (some w.heap.size))
  soft : wr.frozen? ⟨F, 1, none⟩ = false
  own : wr.ownsMap Try.prog 9 (plainElem Try.prog 3) w.heap.size k (mapD un k)
  only : Only (fun k => k = F) w wr
  old : F < w.heap.size

theorem make_start {w : World} {F : Nat} {un : List ByteArray} (N : FnAt w F none un) : Filled w F un 0 ((w.setCell ⟨F, 1, none⟩ (.map (some w.heap.size))).alloc (.map #[] 0)) := by
  have hF := World.block_lt_of_cell? w _ N.rule
  have hz : (w.setCell ⟨F, 1, none⟩ (.map (some w.heap.size))).heap.size = w.heap.size := by simp
  have up := (Below.refl _ (w.setCell ⟨F, 1, none⟩ (.map (some w.heap.size)))).alloc (Nat.le_refl _) (.map #[] 0)
  rw [hz] at up
  refine ⟨?_, ?_, ?_, ?_, ?_, hF⟩
  · rw [up.cell (p := ⟨F, 0, none⟩) hF, World.cell?_setCell_other _ _ _ _ (by simp)]
    exact N.rule
  · rw [up.cell (p := ⟨F, 1, none⟩) hF, World.cell?_setCell_same _ _ _ N.idx]
  · rw [up.frozen (p := ⟨F, 1, none⟩) hF, World.frozen?_setCell]
    exact N.soft
  · have := World.ownsMap_made (w.setCell ⟨F, 1, none⟩ (.map (some w.heap.size))) Try.prog 9 (plainElem (H := Unit) Try.prog 3)
    rw [hz] at this
    exact this
  · exact (only_setCell (S := fun k => k = F) (p := ⟨F, 1, none⟩) rfl _).trans (only_alloc _ _ _)

theorem upd_choice (b k : Nat) (D : DataW Unit) (s : ByteArray) (hs : s.size ≤ maxLen) (hk : k < maxLen) : ∃ f : World → World, ∀ W : World, W.ownsMap Try.prog 9 (plainElem Try.prog 3) b k D →
    (Instr.mapUpdate 66 (.map (some b)) (.string s) (.int .i64 k)).run Try.prog W = .ok () (f W) ∧ ((f W).ownsMap Try.prog 9 (plainElem Try.prog 3) b (k + 1) (D.put (.string s.data.toList) (.lit (.int .i64 k))) ∧ W.grownBy (f W) (some b)) := by
  have h : ∀ W : World, ∃ W' : World, W.ownsMap Try.prog 9 (plainElem Try.prog 3) b k D →
      (Instr.mapUpdate 66 (.map (some b)) (.string s) (.int .i64 k)).run Try.prog W = .ok () W' ∧ (W'.ownsMap Try.prog 9 (plainElem Try.prog 3) b (k + 1) (D.put (.string s.data.toList) (.lit (.int .i64 k))) ∧ W.grownBy W' (some b)) := by
    intro W
    by_cases ho : W.ownsMap Try.prog 9 (plainElem Try.prog 3) b k D
    · obtain ⟨W', h1, h2, h3⟩ := ho.update keyed9 Try.underlying66 hk (WideMaps.keyOf_string_mk Try.underlying9 hs) (plainElem_int Try.underlying3 (WalkArith.wf_i64 (n := (k : Int)) (by simp only [maxLen] at hk; omega)))
      exact ⟨W', fun _ => ⟨h1, h2, h3⟩⟩
    · exact ⟨W, fun h => absurd h ho⟩
  exact ⟨fun W => Classical.choose (h W), fun W => Classical.choose_spec (h W)⟩

theorem Filled.fields {w wr : World} {F g m k : Nat} {un uv : List ByteArray} (hf : Filled w F un k wr) (L : FldAt w g m un uv) (hg : g ≠ F) : FldAt wr g m un uv :=
  ⟨fun i hi => hf.only.cell (L.name i hi) hg, fun i hi => hf.only.cell (L.value i hi) hg, L.size⟩

theorem fill_alloc {w : World} {p : Addr} {v : Value} (h : w.cell? p = some v) (o : Obj) : (w.alloc o).cell? p = some v :=
  (((Below.refl _ w).alloc (Nat.le_refl _) o).cell (World.block_lt_of_cell? w _ h)).trans h

/-- Behind the call of key in a round. -/
theorem fill_key {w wr wk : World} {F k : Nat} {un : List ByteArray} {s1 s2 : ByteArray} {q : Nat} (hf : Filled w F un k wr)
    (hb : Below ((wr.alloc (.cells #[.string s1, .string s2] 51)).drewN q).heap.size ((wr.alloc (.cells #[.string s1, .string s2] 51)).drewN q) wk) :
    wk.cell? ⟨F, 0, none⟩ = some (.int .u8 0) ∧ wk.cell? ⟨F, 1, none⟩ = some (.map (some w.heap.size)) ∧ wk.cell? ⟨wr.heap.size, 0, none⟩ = some (.string s1) ∧ wk.ownsMap Try.prog 9 (plainElem Try.prog 3) w.heap.size k (mapD un k) ∧ Filled w F un k wk := by
  have hz : ((wr.alloc (.cells #[.string s1, .string s2] 51)).drewN q).heap.size = wr.heap.size + 1 := by simp
  have ha : Below wr.heap.size wr ((wr.alloc (.cells #[.string s1, .string s2] 51)).drewN q) := below_drewN ((Below.refl _ wr).alloc (Nat.le_refl _) _) q
  have hall : Below wr.heap.size wr wk := ha.trans (hb.mono (by rw [hz]; omega))
  have hF : F < wr.heap.size := World.block_lt_of_cell? wr _ hf.rule
  have c0 := (hall.cell (p := ⟨F, 0, none⟩) hF).trans hf.rule
  have c1 := (hall.cell (p := ⟨F, 1, none⟩) hF).trans hf.idx
  have c2 := (hall.frozen (p := ⟨F, 1, none⟩) hF).trans hf.soft
  have c3 : ((wr.alloc (.cells #[.string s1, .string s2] 51)).drewN q).cell? ⟨wr.heap.size, 0, none⟩ = some (.string s1) := World.cell?_alloc_mark _ _ _ _ _
  have c3' := (hb.cell (p := ⟨wr.heap.size, 0, none⟩) (by show wr.heap.size < _; rw [hz]; omega)).trans c3
  have own : wk.ownsMap Try.prog 9 (plainElem Try.prog 3) w.heap.size k (mapD un k) := hf.own.kept (row := none) ⟨hall.os, hall.tape, hall.output, hall.size, fun k hk _ => hall.block k hk⟩ (by simp)
  exact ⟨c0, c1, c3', own, c0, c1, c2, own, hf.only.trans (Below.only hall _), hf.old⟩

theorem fill_step {w wk w2 : World} {F k : Nat} {un : List ByteArray} {s1 : ByteArray} (hf : Filled w F un k wk) (hs : un.getD k ByteArray.empty = s1)
    (h : w2.ownsMap Try.prog 9 (plainElem Try.prog 3) w.heap.size (k + 1) ((mapD un k).put (.string (keyS s1).data.toList) (.lit (.int .i64 k))) ∧ wk.grownBy w2 (some w.heap.size)) : Filled w F un (k + 1) w2 := by
  have hF : F < wk.heap.size := World.block_lt_of_cell? wk _ hf.rule
  have hne : F ≠ w.heap.size := Nat.ne_of_lt hf.old
  have hblk : w2.heap[F]? = wk.heap[F]? := h.2.block F hF (fun e => hne (Option.some.inj e))
  refine ⟨(World.cell?_of_block (a := ⟨F, 0, none⟩) hblk).trans hf.rule, (World.cell?_of_block (a := ⟨F, 1, none⟩) hblk).trans hf.idx, (World.frozen?_of_block (a := ⟨F, 1, none⟩) hblk).trans hf.soft, ?_, ?_, hf.old⟩
  · show w2.ownsMap Try.prog 9 (plainElem Try.prog 3) w.heap.size (k + 1) ((mapD un k).put (kl (un.getD k ByteArray.empty)) (.lit (.int .i64 k)))
    rw [hs]
    exact h.1
  · exact hf.only.after (T := fun k => k = w.heap.size) (only_grown h.2 (fun k hk => (Option.some.inj hk).symm)) (fun i hi ht => by omega)

theorem filled_fn {w wr : World} {F : Nat} {un : List ByteArray} (hf : Filled w F un un.length wr) (h32 : 32 ≤ un.length) : FnAt wr F (some w.heap.size) un :=
  ⟨hf.rule, hf.idx, hf.soft, fun b hb => by
    obtain rfl := Option.some.inj hb
    exact ⟨h32, (Nat.ne_of_lt hf.old).symm, hf.own⟩⟩

theorem filled_only {w wr w2 : World} {F : Nat} {un : List ByteArray} {k : Nat} (hf : Filled w F un k wr) (h : Only (fun k => k = F ∨ some w.heap.size = some k) wr w2) : Only (fun k => k = F ∨ none = some k) w w2 :=
  (hf.only.mono (fun i hi => .inl hi)).after h (fun i hi ht => by
    rcases ht with ht | ht
    · exact .inl ht
    · have := Option.some.inj ht
      omega)

set_option maxHeartbeats 400000 in
theorem earlier_make (w : World) (F g cap : Nat) (un uv : List ByteArray) (nm : ByteArray) (N : FnAt w F none un) (L : FldAt w g un.length un uv) (hgF : g ≠ F) (h32 : 32 ≤ un.length) (hm : un.length ≤ 1048576) (hnm : nm.size ≤ 1048576) :
    Calls Try.prog 42 #[.pointer (some ⟨F, 0, none⟩), .slice (some ⟨g, 0, none⟩) un.length cap, .string nm] w (Earlier w F none un nm) := by
  have h0 := N.rule
  have h1 := N.idx
  have h2 := N.soft
  have heq := fun (wx : World) (r : Option Nat) => run_eql_map_nil (P := Try.prog) wx 66 9 3 r Try.underlying66
  have hmm := run_makeMap64
  have hF := World.block_lt_of_cell? w _ h0
  have h1' : ∀ o, (w.alloc o).cell? ⟨F, 1, none⟩ = some (.map none) := fun o => ((((Below.refl _ w).alloc (Nat.le_refl _) o).cell (p := ⟨F, 1, none⟩) hF)).trans h1
  have h2' : ∀ o, (w.alloc o).frozen? ⟨F, 1, none⟩ = false := fun o => ((((Below.refl _ w).alloc (Nat.le_refl _) o).frozen (p := ⟨F, 1, none⟩) hF)).trans h2
  have hs := make_start N
  clear h2
  go_enter Try.func42, Try.ntmps42
  go_wp2
  go_loopw [33] (fun i wr => ∃ k : Nat, k ≤ un.length ∧ i = .int .i64 k ∧ Filled w F un k wr) (fun i _ => un.length - (intOf i).toNat)
  case atStart => exact ⟨0, Nat.zero_le _, rfl, hs⟩
  case round =>
    obtain ⟨k, hk, rfl, hfil⟩ := hrel
    clear hs h1' h2' h0 h1
    by_cases hlt : k < un.length
    · have L' := hfil.fields L hgF
      have hn := L'.name k hlt
      have hv := L'.value k hlt
      have hz := L'.size k hlt
      have hki : (k : Int) < (un.length : Int) := by omega
      have g0 := fun o => fill_alloc hfil.rule o
      have g1 := fun o => fill_alloc hfil.idx o
      clear L'
      generalize hnk : un.getD k ByteArray.empty = s1 at *
      generalize uv.getD k ByteArray.empty = s2 at *
      have HNK : Hid (un.getD k ByteArray.empty = s1) := hnk
      clear hnk
      obtain ⟨f, hf⟩ := upd_choice w.heap.size k (mapD un k) (keyS s1) (by rw [keyS_size]; unfold maxLen; omega) (by unfold maxLen; omega)
      have hrun := fun (W : World) (h : W.ownsMap Try.prog 9 (plainElem Try.prog 3) w.heap.size k (mapD un k)) => (hf W h).1
      have HF : Hid (∀ W : World, W.ownsMap Try.prog 9 (plainElem Try.prog 3) w.heap.size k (mapD un k) → _) := fun W h => (hf W h).2
      clear hf
      go_wp2_with fail
      go_region_with (go_at_call 51; refine (key_any _ s1 hz).mono ?_; rintro e wk ⟨rfl, hbk⟩; have K := fill_key hfil hbk; have k0 := K.1; have k1 := K.2.1; have k2 := K.2.2.1; have k3 := K.2.2.2.1)
      all_goals
        have HX := fill_step K.2.2.2.2 HNK.out (HF.out wk k3)
        clear hrun HF k0 k1 k2 k3 K hbk hn hv g0 g1
        go_wp2
        go_roundw
        case rel => exact ⟨k + 1, by omega, by go_num, HX⟩
        case measure => simp [intOf]; omega
    · obtain rfl : k = un.length := by omega
      have N2 := filled_fn hfil h32
      have h0 := N2.rule
      have h1 := N2.idx
      have hown := hfil.own
      go_wp2_with fail
      refine (key_any wr nm hnm).mono ?_
      rintro e w1 ⟨rfl, hb⟩
      have g0 := (hb.cell (p := ⟨F, 0, none⟩) (World.block_lt_of_cell? wr _ h0)).trans h0
      have g1 := (hb.cell (p := ⟨F, 1, none⟩) (World.block_lt_of_cell? wr _ h1)).trans h1
      have hown1 : w1.ownsMap Try.prog 9 (plainElem Try.prog 3) w.heap.size un.length (mapD un un.length) := hown.kept (row := none) ⟨hb.os, hb.tape, hb.output, hb.size, fun k hk _ => hb.block k hk⟩ (by simp)
      have hkey : keyOf Try.prog 9 (.string (keyS nm)) = some (kl nm) := WideMaps.keyOf_string_mk Try.underlying9 (by rw [keyS_size]; unfold maxLen; omega)
      clear hown h0 h1
      go_wp2_with (at_lookup; refine wpList_lookup_own_ok_int _ rfl _ _ 66 rfl 9 3 .i64 keyed9 Try.underlying66 Try.underlying3 (zero3 _) w.heap.size un.length _ rfl hown1 _ _ rfl hkey ?_)
      intro c hat _
      rcases mapD_look un nm un.length with ⟨hhas, hno⟩ | ⟨hhas, i, hi, hval, hs⟩
      · rw [hhas]
        have HNO : Hid _ := hno
        clear hat hhas hno
        go_wp2_with (at_mapUpdate; refine wpList_mapUpdate_own _ rfl _ _ _ 66 rfl 9 3 keyed9 Try.underlying66 _ w.heap.size un.length _ rfl hown1 (by unfold maxLen; omega) _ _ _ rfl rfl hkey _ [] (plainElem_int Try.underlying3 (WalkArith.wf_i64 (by omega))) ?_)
        intro w2 hown2 hgrow2
        have HE := N2.put hb hown2 hgrow2
        clear hown1 hown2 hgrow2 g0 g1
        go_wp2
        go_ret
        exact ⟨some w.heap.size, filled_only hfil HE.1, fun b' h => .inr (Nat.le_of_eq (Option.some.inj h)), .inr ⟨rfl, HNO.out, HE.2⟩⟩
      · rw [hhas]
        have hc : c = (i : Int) := by
          have := hval (.lit (.int .i64 0))
          rw [hat] at this
          simpa using this
        subst hc
        have HS : Hid _ := hs
        have HE := N2.look hb hown1
        clear hat hval hs hhas hown1 g0 g1
        go_wp2
        go_ret
        exact ⟨some w.heap.size, filled_only hfil HE.1, fun b' h => .inr (Nat.le_of_eq (Option.some.inj h)), .inl ⟨i, hi, rfl, HS.out, HE.2⟩⟩

/-- The whole of earlier. -/
theorem earlier_any (w : World) (F g cap : Nat) (st : Option Nat) (un uv : List ByteArray) (nm : ByteArray) (N : FnAt w F st un) (L : FldAt w g un.length un uv) (hgF : g ≠ F) (hm : un.length ≤ 1048576) (hnm : nm.size ≤ 1048576) :
    Calls Try.prog 42 #[.pointer (some ⟨F, 0, none⟩), .slice (some ⟨g, 0, none⟩) un.length cap, .string nm] w (Earlier w F st un nm) := by
  cases st with
  | some b => exact earlier_map w F g b cap un nm N hm hnm
  | none =>
    by_cases h : un.length < 32
    · exact earlier_few w F g cap un uv nm N L h
    · exact earlier_make w F g cap un uv nm N L hgF (by omega) hm hnm

end Go.Proofs.Qxb6001694a
