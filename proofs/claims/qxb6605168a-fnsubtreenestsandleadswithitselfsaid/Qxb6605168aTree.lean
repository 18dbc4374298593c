/- cloneStrings (9), ZZEmptyTree (18), ZZPut (27), subtreeTree (10): what lies in memory behind them. -/
import Derived.Test.Qxb6605168aLeaf
import Derived.Maps.OwnSet
import Derived.WalkSmall
namespace Go.Proofs.Qxb6605168a
open Go.RowKit Go.Maps

theorem law9 : Keyed Try.prog 9 := string_keyed Try.underlying9
theorem Try.info9 : (Try.prog.info? 9).map (fun i => (i.zero, i.size, i.bytes)) = some (some (.string ⟨#[]⟩), 1, 16) := by kernel_rfl

theorem Row.below {w w' : World} {a : Option Addr} {n B : Nat} {f : Nat → ByteArray} (h : Row w a n f) (hb : Below B w w') (hB : w.heap.size ≤ B) : Row w' a n f := by
  intro hn
  obtain ⟨b, off, ha, hc⟩ := h hn
  refine ⟨b, off, ha, fun i hi => ?_⟩
  have hlt := World.block_lt_of_cell? w _ (hc i hi)
  rw [hb.cell (Nat.lt_of_lt_of_le hlt hB)]
  exact hc i hi

theorem clone_nil (w : World) :
    Calls Try.prog 9 #[.slice none 0 0] w fun e w' => e = .returned (.slice none 0 0) ∧ w' = w := by
  have q22 : ∀ (w : World) (a : Option Addr) (n c n' c' : Nat), (binOp .eql 22 (.slice a n c) (.slice none n' c')).run Try.prog w = .ok (.bool a.isNone) w := fun w a n c n' c' => Lib.run_eql_slice_nil w _ _ a n c n' c' Try.underlying22
  go_enter Try.func9, Try.ntmps9
  go_wp2
  go_ret
  exact ⟨rfl, rfl⟩

set_option maxHeartbeats 400000 in
theorem clone_any (ad : Addr) (n cap : Nat) (f : Nat → ByteArray) (w : World) (hn : n ≤ 4096) (hr : Row w (some ad) n f) :
    Calls Try.prog 9 #[.slice (some ad) n cap] w fun e w' => e = .returned (.slice (some ⟨w.heap.size, 0, none⟩) n n) ∧ Row w' (some ⟨w.heap.size, 0, none⟩) n f ∧ Below w.heap.size w w' := by
  have q22 : ∀ (w : World) (a : Option Addr) (n c n' c' : Nat), (binOp .eql 22 (.slice a n c) (.slice none n' c')).run Try.prog w = .ok (.bool a.isNone) w := fun w a n c n' c' => Lib.run_eql_slice_nil w _ _ a n c n' c' Try.underlying22
  obtain ⟨i0, hi, hz0, hz1, hz2⟩ := info_parts Try.info9
  go_enter Try.func9, Try.ntmps9
  go_wp2_with (first
    | (at_make; refine wpList_make_full _ rfl _ _ 22 rfl w.heap.size 9 i0 (.string ⟨#[]⟩) 1 Try.underlying22 hi hz0 hz1 _ _ _ _ n rfl rfl rfl rfl (by rw [hz2]; omega) (by unfold maxLen; omega) (Nat.le_refl _) ?_; intro w1 hrow1 hg1)
    | go_in)
  have hlen1 := hrow1.1
  go_loopw [4] (fun i wr => ∃ (k : Nat) (xs : List Value), k ≤ n ∧ i = .int .i64 k ∧ wr.ownsRow w.heap.size 9 1 (.slice (some ⟨w.heap.size, 0, none⟩) n n) n xs ∧ (∀ j, j < k → xs[j]? = some (.string (f j))) ∧ Below w.heap.size w wr) (fun i _ => n - (intOf i).toNat)
  case atStart => exact ⟨0, _, Nat.zero_le _, rfl, hrow1, fun j hj => absurd hj (Nat.not_lt_zero _), (Below.refl _ _).grown hg1 (Nat.le_refl _) (fun j hj => by cases hj)⟩
  case round =>
    obtain ⟨k, xs, hk, rfl, hrow, hxs, hnx⟩ := hrel
    have HX : Hid (∀ j, j < k → xs[j]? = some (.string (f j))) := hxs
    clear hxs
    by_cases hlt : k < n
    · obtain ⟨b, off, hab, hc⟩ := hr (by omega)
      obtain rfl : ad = ⟨b, off, none⟩ := by simpa using hab
      have hck := hc k hlt
      have hbl := World.block_lt_of_cell? w _ hck
      have hckr : wr.cell? ⟨b, off + k, none⟩ = some (.string (f k)) := (hnx.cell hbl).trans hck
      have hxl := hrow.1
      obtain ⟨u, hu⟩ : ∃ u, xs[k]? = some u := ⟨_, List.getElem?_eq_getElem (by omega)⟩
      have hcu : wr.cell? ⟨w.heap.size, k, none⟩ = some u := (hrow.cellAt k (by omega)).trans hu
      have hfu := hrow.frozenAt k
      have HU : Hid (xs[k]? = some u) := hu
      clear hu hab
      go_wp2
      go_roundw
      case rel =>
        refine ⟨k + 1, xs.set k (.string (f k)), by omega, by go_num, (hrow.stored k _).1, fun j hj => ?_, hnx.grown (hrow.stored k _).2 hnx.size (fun j hj => by cases hj; exact Nat.le_refl _)⟩
        by_cases hjk : j = k
        · subst hjk
          rw [List.getElem?_set_self (by omega)]
        · rw [List.getElem?_set_ne (by omega)]
          exact HX.out j (by omega)
      case measure => simp [intOf]; omega
    · go_wp2
      go_ret
      refine ⟨rfl, fun _ => ⟨w.heap.size, 0, rfl, fun j hj => ?_⟩, hnx⟩
      rw [Nat.zero_add, hrow.cellAt j (by omega)]
      exact HX.out j (by omega)

/-- A *node in a map: whatever it leads to. -/
def ptrElem (v : Value) : Option (DataW Unit × List MemPlace) :=
  match v with
  | .pointer (some _) => some (.lit (.bool true), [])
  | _ => none

theorem ptrElem_inv {v : Value} {y : DataW Unit × List MemPlace} (h : ptrElem v = some y) : ∃ a : Addr, v = .pointer (some a) := by
  unfold ptrElem at h
  split at h
  · exact ⟨_, rfl⟩
  · cases h

/-- Block tb is a tree whose nodes are the map in block mb, which reads as D. -/
def IsTree (w : World) (tb mb n : Nat) (D : DataW Unit) : Prop := w.cell? ⟨tb, 0, none⟩ = some (.map (some mb)) ∧ w.ownsMap Try.prog 9 ptrElem mb n D

theorem empty_any (w : World) :
    Calls Try.prog 18 #[] w fun e w' => e = .returned (.pointer (some ⟨w.heap.size + 2, 0, none⟩)) ∧ IsTree w' (w.heap.size + 2) w.heap.size 0 (.map []) ∧ Below w.heap.size w w' ∧ w.heap.size + 2 < w'.heap.size := by
  have hmm := @run_makeMap Try.prog
  go_enter Try.func18, Try.ntmps18
  go_wp2
  go_ret
  refine ⟨rfl, ?_, ?_, ?_⟩
  · refine ⟨World.cell?_alloc_at _ _ _ _ (by simp), ?_⟩
    exact ((World.ownsMap_made w Try.prog 9 ptrElem).alloc _).alloc _
  · exact (((Below.refl _ _).alloc (Nat.le_refl _) _).alloc (by simp) _).alloc (by simp; omega) _
  · simp

set_option maxHeartbeats 400000 in
theorem put_any (tb mb n : Nat) (D : DataW Unit) (s : ByteArray) (w : World) (ht : IsTree w tb mb n D) (hn : n < 4096) (hs : s.size ≤ maxLen) :
    Calls Try.prog 27 #[.pointer (some ⟨tb, 0, none⟩), .string s] w fun e w' => e = .returned (.tuple #[]) ∧ IsTree w' tb mb (n + 1) (D.put (.string s.data.toList) (.lit (.bool true))) ∧ w.grownBy w' (some mb) := by
  obtain ⟨c0, hown⟩ := ht
  have hkey := WideMaps.keyOf_string_mk Try.underlying9 hs
  go_enter Try.func27, Try.ntmps27
  go_wp2_with (first
    | (at_mapUpdate; refine wpList_mapUpdate_own _ rfl _ _ _ 45 rfl 9 59 law9 Try.underlying45 ptrElem mb n D rfl (hown.alloc _) (by unfold maxLen; omega) _ _ _ rfl rfl hkey (.lit (.bool true)) [] rfl ?_; intro w1 hown1 hgrow1)
    | go_in)
  go_end0
  have hg := (World.grownBy_alloc w _ (some mb)).trans hgrow1
  have hne : some tb ≠ some mb := fun e => by
    obtain ⟨es, cl, hb, _⟩ := hown
    cases e
    simp [World.cell?, hb] at c0
  exact ⟨rfl, ⟨hg.cell c0 hne, hown1⟩, hg⟩

/-- The keys of D are the first k strings of f. -/
def Keys (D : DataW Unit) (k : Nat) (f : Nat → ByteArray) : Prop := Maps.IsMap D ∧ ∀ x : List UInt8, Maps.has D (.string x) = true ↔ ∃ j, j < k ∧ (f j).data.toList = x

theorem Keys.start (f : Nat → ByteArray) : Keys (.map []) 0 f := ⟨Maps.isMap_empty, fun x => ⟨fun h => by simp [Maps.has] at h, fun ⟨j, hj, _⟩ => absurd hj (Nat.not_lt_zero _)⟩⟩

theorem Keys.step {D : DataW Unit} {k : Nat} {f : Nat → ByteArray} (h : Keys D k f) (d : DataW Unit) : Keys (D.put (.string (f k).data.toList) d) (k + 1) f := by
  refine ⟨h.1.put _ _, fun x => ?_⟩
  by_cases hx : (f k).data.toList = x
  · subst hx
    rw [Maps.has_put_same h.1 (by simp [WideAt.IsKeyLit]) d]
    exact ⟨fun _ => ⟨k, by omega, rfl⟩, fun _ => rfl⟩
  · rw [Maps.has_put_other (by simpa using fun e => hx e.symm) d, h.2 x]
    constructor
    · rintro ⟨j, hj, e⟩
      exact ⟨j, by omega, e⟩
    · rintro ⟨j, hj, e⟩
      refine ⟨j, ?_, e⟩
      rcases Nat.lt_or_ge j k with h1 | h1
      · exact h1
      · obtain rfl : j = k := by omega
        exact absurd e hx

set_option maxHeartbeats 400000 in
theorem tree_any (a : Option Addr) (n cap : Nat) (f : Nat → ByteArray) (w : World) (hn : n ≤ 4096) (hr : Row w a n f) (hf : ∀ i, i < n → (f i).size ≤ maxLen) :
    Calls Try.prog 10 #[.slice a n cap] w fun e w' => e = .returned (.pointer (some ⟨w.heap.size + 2, 0, none⟩)) ∧ (∃ D, IsTree w' (w.heap.size + 2) w.heap.size n D ∧ Keys D n f) ∧ Below w.heap.size w w' ∧ w.heap.size + 2 < w'.heap.size := by
  go_enter Try.func10, Try.ntmps10
  go_wp2_with (go_at_call 18; refine (empty_any _).mono ?_; rintro e w' ⟨rfl, ht0, hb0, hz0⟩)
  rename_i w1
  go_loopw [4] (fun i wr => ∃ (k : Nat) (D : DataW Unit), k ≤ n ∧ i = .int .i64 k ∧ IsTree wr (w.heap.size + 2) w.heap.size k D ∧ Keys D k f ∧ Below w.heap.size w wr ∧ w.heap.size + 2 < wr.heap.size) (fun i _ => n - (intOf i).toNat)
  case atStart => exact ⟨0, _, Nat.zero_le _, rfl, ht0, Keys.start f, hb0, hz0⟩
  case round =>
    obtain ⟨k, D, hk, rfl, ht, hK, hnx, hz⟩ := hrel
    by_cases hlt : k < n
    · obtain ⟨b, off, rfl, hc⟩ := hr (by omega)
      have hck := hc k hlt
      have hckr : wr.cell? ⟨b, off + k, none⟩ = some (.string (f k)) := (hnx.cell (World.block_lt_of_cell? w _ hck)).trans hck
      have hfk := hf k hlt
      go_wp2_with (go_at_call 27; refine (put_any _ _ _ D _ _ ht (by omega) hfk).mono ?_; rintro e w' ⟨rfl, ht1, hg1⟩)
      go_roundw
      case rel => exact ⟨k + 1, _, by omega, by go_num, ht1, hK.step _, hnx.grown hg1 hnx.size (fun j hj => by cases hj; exact Nat.le_refl _), Nat.lt_of_lt_of_le hz hg1.size⟩
      case measure => simp [intOf]; omega
    · obtain rfl : k = n := by omega
      go_wp2
      go_ret
      exact ⟨rfl, ⟨D, ht, hK⟩, hnx, hz⟩

end Go.Proofs.Qxb6605168a
