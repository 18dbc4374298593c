/- FnSubtreeIsSortedSetAtOrBelow (3): the walk out of the contracts. -/
import Derived.Test.Qxb6605168aExact
import Derived.Test.Qxb6605168aSubtree
namespace Go.Proofs.Qxb6605168a
open Go.RowKit Go.Maps Go.Sort

theorem toList_mk (l : List UInt8) : (⟨l.toArray⟩ : ByteArray).toList = l := by simp [ByteArray.toList_eq]

theorem eq_mk {s : ByteArray} {l : List UInt8} (h : s.data.toList = l) : s = ⟨l.toArray⟩ := by
  subst h
  cases s
  simp

theorem getD_of {ts : List (List UInt8)} {i : Nat} (h : i < ts.length) : ts.getD i [] = ts[i] := by simp [List.getD, List.getElem?_eq_getElem h]

theorem rises {ts : List (List UInt8)} (h : ts.Pairwise (· < ·)) {i j : Nat} (hij : i < j) (hj : j < ts.length) : ts.getD i [] < ts.getD j [] := by
  rw [getD_of hj, getD_of (Nat.lt_trans hij hj)]
  exact (List.pairwise_iff_getElem.1 h) i j (Nat.lt_trans hij hj) hj hij

/-- The strings of ts as a slice's cells. -/
abbrev cellsOf (ts : List (List UInt8)) : Nat → ByteArray := fun i => ⟨(ts.getD i []).toArray⟩

theorem rise1 {ts : List (List UInt8)} (h : ts.Pairwise (· < ·)) : ∀ i j, i < j → j < ts.length → Op.bytesLess (cellsOf ts i).toList (cellsOf ts j).toList = true := by
  intro i j hij hj
  rw [toList_mk, toList_mk, bytesLess_eq]
  exact decide_eq_true (rises h hij hj)

theorem rise2 {ts : List (List UInt8)} (h : ts.Pairwise (· < ·)) : ∀ i j, i < j → j < ts.length → Op.bytesLess (cellsOf ts j).toList (cellsOf ts i).toList = false := by
  intro i j hij hj
  rw [toList_mk, toList_mk, bytesLess_eq]
  exact decide_eq_false (List.lt_asymm (rises h hij hj))

theorem irr (s : ByteArray) : Op.bytesLess s.toList s.toList = false := by
  rw [bytesLess_eq]
  exact decide_eq_false (List.lt_irrefl _)

/-- subtreeExact behind Subtree: true. -/
theorem exact_of (a0 : Option Addr) (n0 c0 : Nat) (f0 : Nat → ByteArray) (p : ByteArray) (a2 : Option Addr) (c2 : Nat) (ts : List (List UInt8)) (D : DataW Unit) (w : World)
    (h0 : n0 ≤ 4096) (r0 : Row w a0 n0 f0) (z0 : ∀ i, i < n0 → (f0 i).size ≤ maxLen) (hp : p.size ≤ maxLen) (hK : Keys D n0 f0)
    (h2 : ts.length ≤ n0) (r2 : Row w a2 ts.length (cellsOf ts)) (hs : ts.Pairwise (· < ·)) (hm : ∀ x, x ∈ ts ↔ (Maps.has D (.string x) = true ∧ ab x p.toList = true)) :
    Calls Try.prog 12 #[.slice a0 n0 c0, .string p, .slice a2 ts.length c2] w fun e w' => e = .returned (.bool true) ∧ ∃ q, w' = w.drewN q := by
  have hat : ∀ i, i < ts.length → ∃ m, m < n0 ∧ f0 m = cellsOf ts i := by
    intro i hi
    have hx : ts.getD i [] ∈ ts := by rw [getD_of hi]; exact List.getElem_mem hi
    obtain ⟨m, hmn, he⟩ := (hK.2 _).1 ((hm _).1 hx).1
    exact ⟨m, hmn, eq_mk he⟩
  refine exact_any a0 n0 c0 f0 p a2 ts.length c2 (cellsOf ts) w h0 r0 z0 hp (by omega) r2 ?_ (rise1 hs) (rise2 hs) irr ?_ ?_
  · intro i hi
    obtain ⟨m, hmn, he⟩ := hat i hi
    rw [← he]
    exact z0 m hmn
  · intro i hi
    refine ⟨?_, hat i hi⟩
    rw [toList_mk]
    exact ((hm _).1 (by rw [getD_of hi]; exact List.getElem_mem hi)).2
  · intro i hi hab
    have hx : (f0 i).data.toList ∈ ts := (hm _).2 ⟨(hK.2 _).2 ⟨i, hi, rfl⟩, by rw [← ByteArray.toList_eq]; exact hab⟩
    obtain ⟨m, hmt, he⟩ := List.getElem_of_mem hx
    refine ⟨m, hmt, ?_⟩
    rw [eq_mk rfl (s := f0 i), ← he]
    show (⟨(ts.getD m []).toArray⟩ : ByteArray) = _
    rw [getD_of hmt]

theorem IsTree.below {w w' : World} {tb mb n B : Nat} {D : DataW Unit} (h : IsTree w tb mb n D) (hb : Below B w w') (hB : w.heap.size ≤ B) : IsTree w' tb mb n D := by
  obtain ⟨c0, hown⟩ := h
  have ht := World.block_lt_of_cell? w _ c0
  have hm := hown.lt
  refine ⟨(hb.cell (p := ⟨tb, 0, none⟩) (Nat.lt_of_lt_of_le ht hB)).trans c0, ?_⟩
  obtain ⟨es, clock, hbk, F, hs, hD⟩ := hown
  exact ⟨es, clock, (hb.block mb (Nat.lt_of_lt_of_le hm hB)).trans hbk, F, hs, hD⟩

/-- What cloneStrings leaves, of every slice. -/
theorem clone_all (a : Option Addr) (n cap : Nat) (f : Nat → ByteArray) (w : World) (hn : n ≤ 4096) (hr : Row w a n f) (hnil : a = none → n = 0 ∧ cap = 0) :
    Calls Try.prog 9 #[.slice a n cap] w fun e w' => ∃ a' c', e = .returned (.slice a' n c') ∧ Row w' a' n f ∧ Below w.heap.size w w' := by
  cases a with
  | none =>
    obtain ⟨rfl, rfl⟩ := hnil rfl
    refine (clone_nil w).mono fun e w' ⟨he, hw⟩ => ?_
    subst he; subst hw
    exact ⟨none, 0, rfl, hr, Below.refl _ _⟩
  | some ad =>
    refine (clone_any ad n cap f w hn hr).mono fun e w' ⟨he, hr', hb⟩ => ?_
    subst he
    exact ⟨_, _, rfl, hr', hb⟩

set_option maxHeartbeats 400000 in
theorem one_any (a : Option Addr) (n cap : Nat) (f : Nat → ByteArray) (p : ByteArray) (w : World) (hnm : n ≤ maxLen) (hr : Row w a n f) (hf : ∀ i, i < n → (f i).size ≤ maxLen) (hpm : p.size ≤ maxLen) (hnil : a = none → n = 0 ∧ cap = 0) :
    Calls Try.prog 3 #[.slice a n cap, .string p] w fun e w' => e = .returned (.bool true) ∧ Below w.heap.size w w' := by
  go_enter Try.func3, Try.ntmps3
  go_wp2_with fail
  refine (zzb7_any a n cap f p w hnm hr hf hpm).mono ?_
  rintro e w' ⟨⟨x, rfl⟩, hw⟩
  obtain rfl := hw.symm
  cases x
  · go_wp2
    go_ret
    exact ⟨rfl, Below.refl _ _⟩
  by_cases hn : n ≤ 4096
  · by_cases hp : p.size ≤ 1048576
    · go_wp2_with fail
      refine (fits_any a n cap f p w hn hr hf hp).mono ?_
      rintro e w' ⟨⟨x, rfl⟩, hw⟩
      obtain rfl := hw.symm
      cases x
      · go_wp2
        go_ret
        exact ⟨rfl, Below.refl _ _⟩
      go_wp2_with fail
      refine (clone_all a n cap f w hn hr hnil).mono ?_
      rintro e w1 ⟨a1, c1, rfl, hr1, hb1⟩
      go_wp2_with fail
      refine (tree_any a1 n c1 f w1 hn hr1 hf).mono ?_
      rintro e w2 ⟨rfl, ⟨D, ht2, hK⟩, hb2, hz2⟩
      go_wp2_with fail
      refine (subtree_any _ _ n D p w2 ht2 hn hp).mono ?_
      rintro e w3 ⟨a3, c3, ts, rfl, hr3, hs3, hm3, hl3, hb3⟩
      have hr1' := (hr1.below hb2 (Nat.le_refl _)).below hb3 (Nat.le_refl _)
      have HM : Hid (∀ x, x ∈ ts ↔ (Maps.has D (.string x) = true ∧ ab x p.toList = true)) := hm3
      clear hm3
      go_wp2_with fail
      refine (exact_of a1 n c1 f p a3 c3 ts D w3 hn hr1' hf hpm hK hl3 hr3 hs3 HM.out).mono ?_
      rintro e w4 ⟨rfl, q, rfl⟩
      go_wp2
      go_ret
      have b1 := hb1.size
      have b2 := hb2.size
      exact ⟨rfl, below_drewN ((hb1.trans (hb2.mono b1)).trans (hb3.mono (Nat.le_trans b1 b2))) q⟩
    · go_wp2
      go_ret
      exact ⟨rfl, Below.refl _ _⟩
  · go_wp2
    go_ret
    exact ⟨rfl, Below.refl _ _⟩

end Go.Proofs.Qxb6605168a
