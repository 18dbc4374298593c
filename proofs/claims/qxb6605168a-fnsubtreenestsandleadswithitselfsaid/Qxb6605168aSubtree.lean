/- (*Tree).Subtree (11): the keys at or below path, each once, in rising order. -/
import Derived.Test.Qxb6605168aTree
import Derived.Test.Qxb6605168aSortNil
import Derived.Test.Qxb6605168aShelf
import Derived.Maps.RangeWalk
import Derived.Maps.AppendAt
import Derived.Sort.KeysCollected
import Derived.Sort.OwnSorted
namespace Go.Proofs.Qxb6605168a
open Go.RowKit Go.Maps Go.Sort

/-- What has been gathered: no key twice; a key is there just where the map has it, it has come, and it is at or below p. -/
def Got (D : DataW Unit) (p : List UInt8) (left : Lit → Bool) (ss : List (List UInt8)) : Prop :=
  ss.Nodup ∧ ∀ x, x ∈ ss ↔ (Maps.has D (.string x) = true ∧ left (.string x) = false ∧ ab x p = true)

theorem Got.start (D : DataW Unit) (p : List UInt8) : Got D p (Maps.has D) [] := ⟨List.nodup_nil, fun x => by cases Maps.has D (.string x) <;> simp⟩

theorem Got.hit {D : DataW Unit} {p : List UInt8} {left : Lit → Bool} {ss : List (List UInt8)} (h : Got D p left ss) {x : List UInt8} {y : DataW Unit} (hlk : left (.string x) = true) (hat : ∀ zd, D.atKey (.string x) zd = y) (hab : ab x p = true) :
    Got D p (fun z => left z && !z.sameKey (.string x)) (ss ++ [x]) := by
  have hhas : Maps.has D (.string x) = true := has_true_of_atKey hat
  have hnew : x ∉ ss := fun hx => by have := ((h.2 x).1 hx).2.1; rw [hlk] at this; cases this
  refine ⟨List.nodup_append.2 ⟨h.1, by simp, fun a ha b hb => by simp at hb; subst hb; exact fun e => hnew (e ▸ ha)⟩, fun y => ?_⟩
  by_cases hy : y = x
  · subst hy; simp [hhas, hab, Lit.sameKey]
  · simp [h.2 y, hy, Lit.sameKey]

theorem Got.miss {D : DataW Unit} {p : List UInt8} {left : Lit → Bool} {ss : List (List UInt8)} (h : Got D p left ss) {x : List UInt8} (hab : ab x p = false) :
    Got D p (fun z => left z && !z.sameKey (.string x)) ss := by
  refine ⟨h.1, fun y => ?_⟩
  by_cases hy : y = x
  · subst hy; rw [h.2 y, hab]; simp
  · simp [h.2 y, hy, Lit.sameKey]

/-- Sorted, what has been gathered rises, and holds just what is asked. -/
theorem Got.fin {D : DataW Unit} {p : List UInt8} {left : Lit → Bool} {ss : List (List UInt8)} (h : Got D p left ss) (hl : ∀ kl, left kl = false) :
    (ss.mergeSort leB).Pairwise (· < ·) ∧ ∀ x, x ∈ ss.mergeSort leB ↔ (Maps.has D (.string x) = true ∧ ab x p = true) := by
  have tr : ∀ a b c : List UInt8, leB a b = true → leB b c = true → leB a c = true := fun a b c h1 h2 => by simp only [leB, decide_eq_true_eq] at *; exact List.le_trans h1 h2
  have to : ∀ a b : List UInt8, (leB a b || leB b a) = true := fun a b => by simp only [leB, Bool.or_eq_true, decide_eq_true_eq]; exact List.le_total a b
  have hnd : (ss.mergeSort leB).Nodup := (List.mergeSort_perm ss leB).nodup_iff.2 h.1
  constructor
  · refine List.Pairwise.imp_of_mem (fun {a b} _ _ hab => ?_) ((List.pairwise_mergeSort tr to ss).and hnd)
    obtain ⟨h1, h2⟩ := hab
    simp only [leB, decide_eq_true_eq] at h1
    rcases List.le_iff_lt_or_eq.1 h1 with h3 | h3
    · exact h3
    · exact absurd h3 h2
  · intro x
    rw [List.mem_mergeSort, h.2 x, hl]
    simp

/-- The answer: a slice of ts, rising, just the keys at or below p. -/
def Answer (w : World) (e : Ending) (w' : World) (n : Nat) (D : DataW Unit) (p : List UInt8) : Prop :=
  ∃ (a : Option Addr) (cap : Nat) (ts : List (List UInt8)), e = .returned (.slice a ts.length cap) ∧ Row w' a ts.length (fun i => ⟨(ts.getD i []).toArray⟩) ∧ ts.Pairwise (· < ·) ∧
    (∀ x, x ∈ ts ↔ (Maps.has D (.string x) = true ∧ ab x p = true)) ∧ ts.length ≤ n ∧ Below w.heap.size w w'

theorem answer_nil {w wr : World} {n : Nat} {D : DataW Unit} {p : List UInt8} {left : Lit → Bool} {ss : List (List UInt8)} (h0 : ss.length = 0) (hG : Got D p left ss) (hl : ∀ kl, left kl = false) (hb : Below w.heap.size w wr) : Answer w (.returned (.slice none 0 0)) wr n D p := by
  have e : ss = [] := List.eq_nil_of_length_eq_zero h0
  subst e
  have hf := hG.fin hl
  exact ⟨none, 0, [], rfl, fun h => absurd h (Nat.not_lt_zero _), List.Pairwise.nil, by simpa using hf.2, Nat.zero_le _, hb⟩

theorem answer_row {w wr : World} {n g cap : Nat} {D : DataW Unit} {p : List UInt8} {left : Lit → Bool} {ss : List (List UInt8)} (hG : Got D p left ss) (hl : ∀ kl, left kl = false) (hn : ss.length ≤ n)
    (hown : wr.ownsRow w.heap.size 9 1 (.slice (some ⟨g, 0, none⟩) ss.length cap) ss.length ((ss.mergeSort (fun x y => decide (x ≤ y))).map encStr)) (hb : Below w.heap.size w wr) : Answer w (.returned (.slice (some ⟨g, 0, none⟩) ss.length cap)) wr n D p := by
  have hf := hG.fin hl
  have hlen : (ss.mergeSort leB).length = ss.length := List.length_mergeSort ss
  refine ⟨some ⟨g, 0, none⟩, cap, ss.mergeSort leB, by rw [hlen], fun _ => ⟨g, 0, rfl, fun i hi => ?_⟩, hf.1, hf.2, by omega, hb⟩
  rw [Nat.zero_add, hown.cellAt i (by omega)]
  show ((ss.mergeSort leB).map encStr)[i]? = _
  simp [List.getD, List.getElem?_eq_getElem hi]

theorem app_toList (p : ByteArray) : (p ++ { data := #[47] }).toList = p.toList ++ [47] := by
  simp [ByteArray.toList_eq]

/-- strings.HasPrefix at a key. -/
theorem hp_key (x : List UInt8) (p : ByteArray) (w : World) : Calls Try.prog 28 #[encStr x, .string p] w fun e w' => e = .returned (.bool (p.toList.isPrefixOf x)) ∧ w = w' := by
  have h := hasPrefix_any ⟨x.toArray⟩ p w
  have e : (⟨x.toArray⟩ : ByteArray).toList = x := by simp [ByteArray.toList_eq]
  rw [e] at h
  exact h.mono fun e w' ⟨h1, h2⟩ => ⟨h1, h2.symm⟩

set_option maxRecDepth 100000 in
set_option maxHeartbeats 1000000 in
theorem subtree_root (tb mb n : Nat) (D : DataW Unit) (p : ByteArray) (w : World) (ht : IsTree w tb mb n D) (hn : n ≤ 4096) (hp : p.size ≤ 1048576) (hroot : (p.toList == [47]) = true) :
    Calls Try.prog 11 #[.pointer (some ⟨tb, 0, none⟩), .string p] w fun e w' => Answer w e w' n D p.toList := by
  obtain ⟨i0, hi, hz0, hz1, hz2⟩ := info_parts Try.info9
  obtain ⟨c0, hown⟩ := ht
  have hbl := hown.lt
  have hsz := hown.size_le
  have HB : Hid (∀ x, (decide (x = p.toList) || (p).toList.isPrefixOf x) = ab x p.toList) := fun x => ab_root x p.toList (beq_iff_eq.1 hroot)
  go_enter Try.func11, Try.ntmps11
  go_wp2_with (first
    | (at_range; refine wpList_range_own _ rfl _ 45 rfl 9 59 law9 Try.underlying45 ptrElem mb n _ rfl hown ?_; intro w0 hrg0 hg0 hs0)
    | go_in)
  go_frame
  clear hs0
  go_loopw [6] (fun v wr => ∃ (left : Lit → Bool) (cnt : Nat) (ss : List (List UInt8)), wr.ranges Try.prog 9 ptrElem mb w.heap.size n D left cnt ∧ ss.length + cnt ≤ n ∧
      wr.ownsRow w.heap.size 9 1 v ss.length (ss.map encStr) ∧ Got D p.toList left ss ∧ Below w.heap.size w wr)
    (fun _ wr => wr.rangeLeft mb w.heap.size)
  case atStart =>
    exact ⟨_, _, [], hrg0, by simpa using hsz, World.ownsRow_nil _ _ _ _, Got.start D p.toList, (Below.refl _ _).grown hg0 (Nat.le_refl _) (fun j hj => by cases hj)⟩
  case round =>
    obtain ⟨left, cnt, ss, hrg, hcs, hrow, hG, hnx⟩ := hrel
    go_wp2_with (first
      | (at_next; refine wpList_next_ranges _ rfl _ rfl 9 law9 ptrElem encStr (fun a : Addr => .pointer (some a)) (fun key kl hk => by obtain ⟨x, hx, _⟩ := Maps.keyOf_str Try.underlying9 hk; exact ⟨x, hx⟩) (fun v y hv => ptrElem_inv hv) mb w.heap.size n _ _ _ rfl hrg ?_ ?_)
      | go_in)
    · intro hc0 hl0
      rcases hrow.2 with ⟨rfl, h0⟩ | ⟨g, cap, cur, rfl, hbase, hb, h1, h2, h3, h4⟩
      · clear hc0
        have HL : Hid (∀ kl, left kl = false) := hl0
        have H0 : Hid (ss.length = 0) := h0
        clear hl0 h0 hrow
        go_wp2_with (go_at_call 29; refine (sort_nil none 0 _).mono ?_; rintro e w' ⟨rfl, rfl⟩)
        go_ret
        exact answer_nil H0.out hG HL.out hnx
      · have hH : Holds encStr wr g 0 ss.toArray := holds_of_block hb (by simpa using h4)
        have hgl : g < wr.heap.size := (Array.getElem?_eq_some_iff.1 hb).1
        have hc := Try.sort_any g 0 cap ss wr hH hgl (by omega)
        clear hc0
        have HL : Hid (∀ kl, left kl = false) := hl0
        clear hl0
        go_wp2_with (go_at_call 29; refine hc.mono ?_; rintro e w' ⟨rfl, nn, os, rfl⟩)
        go_ret
        exact answer_row hG HL.out (by omega) (ownsRow_sorted (by simp) hbase hb h1 h2 h3) (hnx.grown (grownBy_sorted _) hnx.size (fun j hj => by cases hj; exact hbase))
    · intro x c kl yd yp w2 cnt2 hkey hlk hv hat hrg2 hlt hg2 hs2 hen
      obtain ⟨x', ex, rfl, _⟩ := Maps.keyOf_str Try.underlying9 hkey
      obtain rfl : x = x' := encStr_inj ex
      have hrow2 := hrow.kept hg2 (Or.inr (row_ne_iter hrow hrg).symm)
      clear hs2
      by_cases hx : x = p.toList
      · subst hx
        have HAB : Hid (ab p.toList p.toList = true) := by show ab p.toList p.toList = true; rw [← HB.out]; simp
        · go_wp2_with (first
            | (at_builtin; refine wpList_append_own _ rfl _ _ 22 rfl w.heap.size 9 i0 (.string ⟨#[]⟩) 1 16 Try.underlying22 hi hz0 hz1 hz2 rfl (by decide) _ _ _ rfl (hrow2.alloc _) ⟨w2.heap.size, 0, none⟩ 1 1 [encStr p.toList] rfl rfl (cell_one_new _ _ _) (by simp [Value.oneCell', encStr]) (by unfold maxLen at *; omega) (by omega) (by have := hnx.size; have := hg2.size; simp; omega) ?_; intro v' w3 hown' hg3 hnil3; go_frame)
            | go_in)
          have hrg3 := (hrg2.alloc (.cells #[encStr p.toList] 9)).kept hg3 (row_ne_low hrow2 hbl) (row_ne_iter hrow2 hrg2)
          go_roundw
          case rel =>
            refine ⟨_, cnt2, ss ++ [p.toList], hrg3, by simp; omega, by simpa using hown', hG.hit hlk hat HAB.out, ?_⟩
            exact ((hnx.grown hg2 hnx.size (fun j hj => by cases hj; exact Nat.le_refl _)).alloc (by have := hnx.size; have := hg2.size; omega) _).grown hg3 (by have := hnx.size; have := hg2.size; simp; omega) (fun j hj => (hrow2.lt j hj).1)
          case measure => rw [hrg3.left_eq, hrg.left_eq]; exact hlt
      · have hxb : (x == p.toList) = false := beq_eq_false_iff_ne.2 hx
        cases hpre : (p).toList.isPrefixOf x
        · have HAB : Hid (ab x p.toList = false) := by show ab x p.toList = false; rw [← HB.out, hpre]; simp [hx]
          go_wp2_with (first
            | (go_at_call 28; refine (hp_key _ _ _).mono ?_; rintro e w' ⟨rfl, rfl⟩)
            | go_in)
          go_roundw
          case rel =>
            refine ⟨_, cnt2, ss, hrg2, by omega, hrow2, hG.miss HAB.out, ?_⟩
            exact hnx.grown hg2 hnx.size (fun j hj => by cases hj; exact Nat.le_refl _)
          case measure => rw [hrg2.left_eq, hrg.left_eq]; exact hlt
        · have HAB : Hid (ab x p.toList = true) := by show ab x p.toList = true; rw [← HB.out, hpre]; simp
          go_wp2_with (first
            | (go_at_call 28; refine (hp_key _ _ _).mono ?_; rintro e w' ⟨rfl, rfl⟩)
            | (at_builtin; refine wpList_append_own _ rfl _ _ 22 rfl w.heap.size 9 i0 (.string ⟨#[]⟩) 1 16 Try.underlying22 hi hz0 hz1 hz2 rfl (by decide) _ _ _ rfl (hrow2.alloc _) ⟨w2.heap.size, 0, none⟩ 1 1 [encStr x] rfl rfl (cell_one_new _ _ _) (by simp [Value.oneCell', encStr]) (by unfold maxLen at *; omega) (by omega) (by have := hnx.size; have := hg2.size; simp; omega) ?_; intro v' w3 hown' hg3 hnil3; go_frame)
            | go_in)
          have hrg3 := (hrg2.alloc (.cells #[encStr x] 9)).kept hg3 (row_ne_low hrow2 hbl) (row_ne_iter hrow2 hrg2)
          go_roundw
          case rel =>
            refine ⟨_, cnt2, ss ++ [x], hrg3, by simp; omega, by simpa using hown', hG.hit hlk hat HAB.out, ?_⟩
            exact ((hnx.grown hg2 hnx.size (fun j hj => by cases hj; exact Nat.le_refl _)).alloc (by have := hnx.size; have := hg2.size; omega) _).grown hg3 (by have := hnx.size; have := hg2.size; simp; omega) (fun j hj => (hrow2.lt j hj).1)
          case measure => rw [hrg3.left_eq, hrg.left_eq]; exact hlt

set_option maxRecDepth 100000 in
set_option maxHeartbeats 1000000 in
theorem subtree_deep (tb mb n : Nat) (D : DataW Unit) (p : ByteArray) (w : World) (ht : IsTree w tb mb n D) (hn : n ≤ 4096) (hp : p.size ≤ 1048576) (hroot : (p.toList == [47]) = false) :
    Calls Try.prog 11 #[.pointer (some ⟨tb, 0, none⟩), .string p] w fun e w' => Answer w e w' n D p.toList := by
  obtain ⟨i0, hi, hz0, hz1, hz2⟩ := info_parts Try.info9
  obtain ⟨c0, hown⟩ := ht
  have hbl := hown.lt
  have hsz := hown.size_le
  have HB : Hid (∀ x, (decide (x = p.toList) || (p ++ { data := #[47] }).toList.isPrefixOf x) = ab x p.toList) := fun x => by rw [app_toList]; exact ab_not_root x p.toList (beq_eq_false_iff_ne.1 hroot)
  go_enter Try.func11, Try.ntmps11
  go_wp2_with (first
    | (at_range; refine wpList_range_own _ rfl _ 45 rfl 9 59 law9 Try.underlying45 ptrElem mb n _ rfl hown ?_; intro w0 hrg0 hg0 hs0)
    | go_in)
  go_frame
  clear hs0
  go_loopw [6] (fun v wr => ∃ (left : Lit → Bool) (cnt : Nat) (ss : List (List UInt8)), wr.ranges Try.prog 9 ptrElem mb w.heap.size n D left cnt ∧ ss.length + cnt ≤ n ∧
      wr.ownsRow w.heap.size 9 1 v ss.length (ss.map encStr) ∧ Got D p.toList left ss ∧ Below w.heap.size w wr)
    (fun _ wr => wr.rangeLeft mb w.heap.size)
  case atStart =>
    exact ⟨_, _, [], hrg0, by simpa using hsz, World.ownsRow_nil _ _ _ _, Got.start D p.toList, (Below.refl _ _).grown hg0 (Nat.le_refl _) (fun j hj => by cases hj)⟩
  case round =>
    obtain ⟨left, cnt, ss, hrg, hcs, hrow, hG, hnx⟩ := hrel
    go_wp2_with (first
      | (at_next; refine wpList_next_ranges _ rfl _ rfl 9 law9 ptrElem encStr (fun a : Addr => .pointer (some a)) (fun key kl hk => by obtain ⟨x, hx, _⟩ := Maps.keyOf_str Try.underlying9 hk; exact ⟨x, hx⟩) (fun v y hv => ptrElem_inv hv) mb w.heap.size n _ _ _ rfl hrg ?_ ?_)
      | go_in)
    · intro hc0 hl0
      rcases hrow.2 with ⟨rfl, h0⟩ | ⟨g, cap, cur, rfl, hbase, hb, h1, h2, h3, h4⟩
      · clear hc0
        have HL : Hid (∀ kl, left kl = false) := hl0
        have H0 : Hid (ss.length = 0) := h0
        clear hl0 h0 hrow
        go_wp2_with (go_at_call 29; refine (sort_nil none 0 _).mono ?_; rintro e w' ⟨rfl, rfl⟩)
        go_ret
        exact answer_nil H0.out hG HL.out hnx
      · have hH : Holds encStr wr g 0 ss.toArray := holds_of_block hb (by simpa using h4)
        have hgl : g < wr.heap.size := (Array.getElem?_eq_some_iff.1 hb).1
        have hc := Try.sort_any g 0 cap ss wr hH hgl (by omega)
        clear hc0
        have HL : Hid (∀ kl, left kl = false) := hl0
        clear hl0
        go_wp2_with (go_at_call 29; refine hc.mono ?_; rintro e w' ⟨rfl, nn, os, rfl⟩)
        go_ret
        exact answer_row hG HL.out (by omega) (ownsRow_sorted (by simp) hbase hb h1 h2 h3) (hnx.grown (grownBy_sorted _) hnx.size (fun j hj => by cases hj; exact hbase))
    · intro x c kl yd yp w2 cnt2 hkey hlk hv hat hrg2 hlt hg2 hs2 hen
      obtain ⟨x', ex, rfl, _⟩ := Maps.keyOf_str Try.underlying9 hkey
      obtain rfl : x = x' := encStr_inj ex
      have hrow2 := hrow.kept hg2 (Or.inr (row_ne_iter hrow hrg).symm)
      clear hs2
      by_cases hx : x = p.toList
      · subst hx
        have HAB : Hid (ab p.toList p.toList = true) := by show ab p.toList p.toList = true; rw [← HB.out]; simp
        · go_wp2_with (first
            | (at_builtin; refine wpList_append_own _ rfl _ _ 22 rfl w.heap.size 9 i0 (.string ⟨#[]⟩) 1 16 Try.underlying22 hi hz0 hz1 hz2 rfl (by decide) _ _ _ rfl (hrow2.alloc _) ⟨w2.heap.size, 0, none⟩ 1 1 [encStr p.toList] rfl rfl (cell_one_new _ _ _) (by simp [Value.oneCell', encStr]) (by unfold maxLen at *; omega) (by omega) (by have := hnx.size; have := hg2.size; simp; omega) ?_; intro v' w3 hown' hg3 hnil3; go_frame)
            | go_in)
          have hrg3 := (hrg2.alloc (.cells #[encStr p.toList] 9)).kept hg3 (row_ne_low hrow2 hbl) (row_ne_iter hrow2 hrg2)
          go_roundw
          case rel =>
            refine ⟨_, cnt2, ss ++ [p.toList], hrg3, by simp; omega, by simpa using hown', hG.hit hlk hat HAB.out, ?_⟩
            exact ((hnx.grown hg2 hnx.size (fun j hj => by cases hj; exact Nat.le_refl _)).alloc (by have := hnx.size; have := hg2.size; omega) _).grown hg3 (by have := hnx.size; have := hg2.size; simp; omega) (fun j hj => (hrow2.lt j hj).1)
          case measure => rw [hrg3.left_eq, hrg.left_eq]; exact hlt
      · have hxb : (x == p.toList) = false := beq_eq_false_iff_ne.2 hx
        cases hpre : (p ++ { data := #[47] }).toList.isPrefixOf x
        · have HAB : Hid (ab x p.toList = false) := by show ab x p.toList = false; rw [← HB.out, hpre]; simp [hx]
          go_wp2_with (first
            | (go_at_call 28; refine (hp_key _ _ _).mono ?_; rintro e w' ⟨rfl, rfl⟩)
            | go_in)
          go_roundw
          case rel =>
            refine ⟨_, cnt2, ss, hrg2, by omega, hrow2, hG.miss HAB.out, ?_⟩
            exact hnx.grown hg2 hnx.size (fun j hj => by cases hj; exact Nat.le_refl _)
          case measure => rw [hrg2.left_eq, hrg.left_eq]; exact hlt
        · have HAB : Hid (ab x p.toList = true) := by show ab x p.toList = true; rw [← HB.out, hpre]; simp
          go_wp2_with (first
            | (go_at_call 28; refine (hp_key _ _ _).mono ?_; rintro e w' ⟨rfl, rfl⟩)
            | (at_builtin; refine wpList_append_own _ rfl _ _ 22 rfl w.heap.size 9 i0 (.string ⟨#[]⟩) 1 16 Try.underlying22 hi hz0 hz1 hz2 rfl (by decide) _ _ _ rfl (hrow2.alloc _) ⟨w2.heap.size, 0, none⟩ 1 1 [encStr x] rfl rfl (cell_one_new _ _ _) (by simp [Value.oneCell', encStr]) (by unfold maxLen at *; omega) (by omega) (by have := hnx.size; have := hg2.size; simp; omega) ?_; intro v' w3 hown' hg3 hnil3; go_frame)
            | go_in)
          have hrg3 := (hrg2.alloc (.cells #[encStr x] 9)).kept hg3 (row_ne_low hrow2 hbl) (row_ne_iter hrow2 hrg2)
          go_roundw
          case rel =>
            refine ⟨_, cnt2, ss ++ [x], hrg3, by simp; omega, by simpa using hown', hG.hit hlk hat HAB.out, ?_⟩
            exact ((hnx.grown hg2 hnx.size (fun j hj => by cases hj; exact Nat.le_refl _)).alloc (by have := hnx.size; have := hg2.size; omega) _).grown hg3 (by have := hnx.size; have := hg2.size; simp; omega) (fun j hj => (hrow2.lt j hj).1)
          case measure => rw [hrg3.left_eq, hrg.left_eq]; exact hlt

theorem subtree_any (tb mb n : Nat) (D : DataW Unit) (p : ByteArray) (w : World) (ht : IsTree w tb mb n D) (hn : n ≤ 4096) (hp : p.size ≤ 1048576) :
    Calls Try.prog 11 #[.pointer (some ⟨tb, 0, none⟩), .string p] w fun e w' => Answer w e w' n D p.toList := by
  cases hroot : (p.toList == [47])
  · exact subtree_deep tb mb n D p w ht hn hp hroot
  · exact subtree_root tb mb n D p w ht hn hp hroot

end Go.Proofs.Qxb6605168a
