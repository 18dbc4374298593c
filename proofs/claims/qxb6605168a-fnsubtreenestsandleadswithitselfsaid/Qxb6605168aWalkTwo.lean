/- FnSubtreeNestsAndLeadsWithItself (4): the walk out of the contracts. -/
import Derived.Test.Qxb6605168aWalkOne
namespace Go.Proofs.Qxb6605168a
open Go.RowKit Go.Maps Go.Sort

theorem ab_self (q : List UInt8) : ab q q = true := by simp [ab]

/-- Whatever is at or below q is not less than q. -/
theorem ab_le {x q : List UInt8} (h : ab x q = true) : ¬ x < q := by
  have key : ∀ t, ¬ q ++ t < q := by
    intro t ht
    have h1 : q ++ t < q ++ [] := by simpa using ht
    have h2 : q ++ [] ≤ q ++ t := List.append_left_le (List.nil_le t)
    exact h2 h1
  simp only [ab, Bool.or_eq_true, decide_eq_true_eq] at h
  rcases h with h | h
  · rw [h]; exact List.lt_irrefl _
  · split at h
    · rename_i e
      rw [List.isPrefixOf_iff_prefix] at h
      obtain ⟨t, rfl⟩ := h
      rw [← e]; exact key t
    · rw [List.isPrefixOf_iff_prefix] at h
      obtain ⟨t, rfl⟩ := h
      rw [List.append_assoc]; exact key _

/-- Below what is below. -/
theorem ab_trans {r q p : List UInt8} (h1 : ab r q = true) (h2 : ab q p = true) : ab r p = true := by
  simp only [ab, Bool.or_eq_true, decide_eq_true_eq] at h1 h2 ⊢
  rcases h2 with rfl | h2
  · exact h1
  rcases h1 with rfl | h1
  · exact Or.inr h2
  right
  by_cases hp : p = [47]
  · rw [if_pos hp] at h2 ⊢
    rw [List.isPrefixOf_iff_prefix] at h2 ⊢
    by_cases hq : q = [47]
    · rw [if_pos hq, List.isPrefixOf_iff_prefix] at h1
      exact h1
    · rw [if_neg hq, List.isPrefixOf_iff_prefix] at h1
      exact (h2.trans (List.prefix_append q [47])).trans h1
  · rw [if_neg hp] at h2 ⊢
    rw [List.isPrefixOf_iff_prefix] at h2 ⊢
    by_cases hq : q = [47]
    · rw [if_pos hq, List.isPrefixOf_iff_prefix] at h1
      rw [hq] at h2
      exact h2.trans h1
    · rw [if_neg hq, List.isPrefixOf_iff_prefix] at h1
      exact (h2.trans (List.prefix_append q [47])).trans h1

/-- What Subtree(p) answers over the n paths f: n2 strings g, lying at a. -/
structure Ans (f : Nat → ByteArray) (n : Nat) (p : ByteArray) (a : Option Addr) (n2 : Nat) (g : Nat → ByteArray) (w : World) : Prop where
  row : Row w a n2 g
  le : n2 ≤ n
  up : ∀ i j, i < j → j < n2 → Op.bytesLess (g i).toList (g j).toList = true
  dn : ∀ i j, i < j → j < n2 → Op.bytesLess (g j).toList (g i).toList = false
  mem : ∀ i, i < n2 → ab (g i).toList p.toList = true ∧ ∃ m, m < n ∧ f m = g i
  all : ∀ i, i < n → ab (f i).toList p.toList = true → ∃ m, m < n2 ∧ g m = f i

theorem subtree_ans (tb mb n : Nat) (D : DataW Unit) (f : Nat → ByteArray) (p : ByteArray) (w : World) (ht : IsTree w tb mb n D) (hK : Keys D n f) (hn : n ≤ 4096) (hp : p.size ≤ 1048576) :
    Calls Try.prog 11 #[.pointer (some ⟨tb, 0, none⟩), .string p] w fun e w' => ∃ a c n2 g, e = .returned (.slice a n2 c) ∧ Ans f n p a n2 g w' ∧ Below w.heap.size w w' := by
  refine (subtree_any tb mb n D p w ht hn hp).mono ?_
  rintro e w' ⟨a, c, ts, rfl, hr, hs, hm, hl, hb⟩
  refine ⟨a, c, ts.length, cellsOf ts, rfl, ⟨hr, hl, rise1 hs, rise2 hs, ?_, ?_⟩, hb⟩
  · intro i hi
    have hx : ts.getD i [] ∈ ts := by rw [getD_of hi]; exact List.getElem_mem hi
    obtain ⟨hh, hab⟩ := (hm _).1 hx
    obtain ⟨m, hmn, he⟩ := (hK.2 _).1 hh
    refine ⟨?_, m, hmn, eq_mk he⟩
    rw [toList_mk]
    exact hab
  · intro i hi hab
    have hx : (f i).data.toList ∈ ts := (hm _).2 ⟨(hK.2 _).2 ⟨i, hi, rfl⟩, by rw [← ByteArray.toList_eq]; exact hab⟩
    obtain ⟨m, hmt, he⟩ := List.getElem_of_mem hx
    refine ⟨m, hmt, ?_⟩
    rw [eq_mk rfl (s := f i), ← he]
    show (⟨(ts.getD m []).toArray⟩ : ByteArray) = _
    rw [getD_of hmt]

/-- The subtree of one that is listed opens with it. -/
theorem leads {f : Nat → ByteArray} {n : Nat} {p : ByteArray} {a a' : Option Addr} {n2 n3 : Nat} {g h : Nat → ByteArray} {w w' : World} (A : Ans f n p a n2 g w) {k : Nat} (hk : k < n2) (B : Ans f n (g k) a' n3 h w') : 0 < n3 ∧ h 0 = g k := by
  obtain ⟨_, m, hm, he⟩ := A.mem k hk
  obtain ⟨m', hm', he'⟩ := B.all m hm (by rw [he]; exact ab_self _)
  rw [he] at he'
  refine ⟨by omega, ?_⟩
  rcases Nat.eq_zero_or_pos m' with h0 | h0
  · rw [← h0]; exact he'
  · have h1 := B.up 0 m' h0 hm'
    rw [he', bytesLess_eq, decide_eq_true_eq] at h1
    exact absurd h1 (ab_le (B.mem 0 (by omega)).1)

/-- .. and lies within. -/
theorem nests {f : Nat → ByteArray} {n : Nat} {p : ByteArray} {a a' : Option Addr} {n2 n3 : Nat} {g h : Nat → ByteArray} {w w' : World} (A : Ans f n p a n2 g w) {k : Nat} (hk : k < n2) (B : Ans f n (g k) a' n3 h w') {j : Nat} (hj : j < n3) : ∃ m, m < n2 ∧ g m = h j := by
  obtain ⟨hab, m, hm, he⟩ := B.mem j hj
  obtain ⟨m', hm', he'⟩ := A.all m hm (by rw [he]; exact ab_trans hab (A.mem k hk).1)
  exact ⟨m', hm', he'.trans he⟩

/-- Some bool came back; where it is true, P. -/
def BoolIf (e : Ending) (P : Prop) : Prop := ∃ x, e = .returned (.bool x) ∧ (x = true → P)

/-- zzBytes: where it says yes, no string is long. -/
theorem zzb_small (a : Option Addr) (n cap : Nat) (f : Nat → ByteArray) (s : ByteArray) (w : World) (hn : n ≤ maxLen) (hr : Row w a n f) (hf : ∀ i, i < n → (f i).size ≤ maxLen) (hs : s.size ≤ maxLen) :
    Calls Try.prog 13 #[.slice a n cap, .string s] w fun e w' => BoolIf e (∀ i, i < n → (f i).size ≤ 1048576) ∧ w' = w := by
  unfold maxLen at hn hf hs
  go_enter Try.func13, Try.ntmps13
  go_wp2
  · go_ret
    exact ⟨⟨_, rfl, fun h => by cases h⟩, rfl⟩
  go_loop [5, 6] (fun z i => ∃ k t : Nat, k ≤ n ∧ t ≤ 1048576 ∧ i = .int .i64 k ∧ z = .int .i64 t ∧ Hid (∀ j, j < k → (f j).size ≤ 1048576)) (fun _ i => n - (intOf i).toNat)
  case atStart => exact ⟨0, n, Nat.zero_le _, by omega, rfl, by go_num, fun j hj => absurd hj (Nat.not_lt_zero _)⟩
  case round =>
    obtain ⟨k, t, hk, ht, rfl, rfl, HJ⟩ := hrel
    by_cases hlt : k < n
    · obtain ⟨b, off, rfl, hc⟩ := hr (by omega)
      have hck := hc k hlt
      have hfk := hf k hlt
      go_wp2
      · go_ret
        exact ⟨⟨_, rfl, fun h => by cases h⟩, rfl⟩
      · go_ret
        exact ⟨⟨_, rfl, fun h => by cases h⟩, rfl⟩
      · have hsm : ((f k).size : Int) ≤ 1048576 := by assumption
        go_round
        case rel =>
          refine ⟨k + 1, t + (f k).size, by omega, by omega, by go_num, by go_num, fun j hj => ?_⟩
          rcases Nat.lt_or_ge j k with h1 | h1
          · exact HJ.out j h1
          · obtain rfl : j = k := by omega
            omega
        case measure => simp [intOf]; omega
    · obtain rfl : k = n := by omega
      go_wp2
      · go_ret
        exact ⟨⟨_, rfl, fun h => by cases h⟩, rfl⟩
      · go_ret
        exact ⟨⟨_, rfl, fun h => by cases h⟩, rfl⟩
      · go_ret
        exact ⟨⟨_, rfl, fun _ => HJ.out⟩, rfl⟩

set_option maxHeartbeats 1000000 in
theorem two_any (a : Option Addr) (n cap : Nat) (f : Nat → ByteArray) (p : ByteArray) (w : World) (hnm : n ≤ maxLen) (hr : Row w a n f) (hf : ∀ i, i < n → (f i).size ≤ maxLen) (hpm : p.size ≤ maxLen) (hnil : a = none → n = 0 ∧ cap = 0) :
    Calls Try.prog 4 #[.slice a n cap, .string p] w fun e w' => e = .returned (.bool true) ∧ Below w.heap.size w w' := by
  go_enter Try.func4, Try.ntmps4
  go_wp2_with fail
  refine (zzb_small a n cap f p w hnm hr hf hpm).mono ?_
  rintro e w' ⟨⟨x, rfl, hsmall⟩, hw⟩
  obtain rfl := hw.symm
  cases x
  · go_wp2
    go_ret
    exact ⟨rfl, Below.refl _ _⟩
  have HSM : Hid (∀ i, i < n → (f i).size ≤ 1048576) := hsmall rfl
  clear hsmall
  by_cases hn : n ≤ 4096
  · by_cases hp : p.size ≤ 1048576
    · have hd1 : decide ((4096 : Int) < (n : Int)) = false := decide_eq_false (by omega)
      have hd2 : decide ((1048576 : Int) < (p.size : Int)) = false := decide_eq_false (by omega)
      go_wp2_with fail
      refine (fits_any a n cap f p w hn hr hf hp).mono ?_
      rintro e w' ⟨⟨x, rfl⟩, hw⟩
      obtain rfl := hw.symm
      cases x
      · go_wp2
        go_ret
        exact ⟨rfl, Below.refl _ _⟩
      go_wp2_with fail
      refine (clone_all a n cap f w hn hr hnil).mono ?_
      rintro e w1 ⟨a1, c1, rfl, hr1, hb1⟩
      go_wp2_with fail
      refine (tree_any a1 n c1 f w1 hn hr1 hf).mono ?_
      rintro e w2 ⟨rfl, ⟨D, ht2, hK⟩, hb2, hz2⟩
      go_wp2_with fail
      refine (subtree_ans _ _ n D f p w2 ht2 hK hn hp).mono ?_
      rintro e w3 ⟨a3, c3, n2, g, rfl, A, hb3⟩
      have hr1' := (hr1.below hb2 (Nat.le_refl _)).below hb3 (Nat.le_refl _)
      have hn2 := A.le
      have hzg : ∀ i, i < n2 → (g i).size ≤ 1048576 := fun i hi => by
        obtain ⟨_, m, hm, he⟩ := A.mem i hi
        rw [← he]; exact HSM.out m hm
      have HZ : Hid (∀ i, i < n2 → (g i).size ≤ 1048576) := hzg
      clear hzg
      go_wp2_with fail
      refine (exact_any a1 n c1 f p a3 n2 c3 g w3 hn hr1' hf hpm (by omega) A.row (fun i hi => Nat.le_trans (HZ.out i hi) (by unfold maxLen; omega)) A.up A.dn irr A.mem A.all).mono ?_
      rintro e w4 ⟨rfl, q, hw4⟩
      have hb4 : Below w3.heap.size w3 w4 := by rw [hw4]; exact below_drewN (Below.refl _ _) q
      clear hw4
      have hB : Below w.heap.size w w4 := by
        have b1 := hb1.size
        have b2 := hb2.size
        have b3 := hb3.size
        exact ((hb1.trans (hb2.mono b1)).trans (hb3.mono (Nat.le_trans b1 b2))).trans (hb4.mono (Nat.le_trans (Nat.le_trans b1 b2) b3))
      have ht4 := (ht2.below hb3 (Nat.le_refl _)).below hb4 (Nat.le_refl _)
      have hr4 := A.row.below hb4 (Nat.le_refl _)
      clear hb1 hb2 hb3 hb4 hr1 hr1' ht2 hz2 hr
      go_wp2
      go_loopw [7] (fun i wr => ∃ k : Nat, k ≤ n2 ∧ i = .int .i64 k ∧ Below w4.heap.size w4 wr) (fun i _ => n2 - (intOf i).toNat)
      case atStart => exact ⟨0, Nat.zero_le _, rfl, Below.refl _ _⟩
      case round =>
        obtain ⟨k, hk, rfl, hbr⟩ := hrel
        by_cases hlt : k < n2
        · have htr := ht4.below hbr (Nat.le_refl _)
          have hrr := hr4.below hbr (Nat.le_refl _)
          obtain ⟨b3, off3, rfl, hc3⟩ := hrr (by omega)
          have hck := hc3 k hlt
          go_wp2_with fail
          refine (subtree_ans _ _ n D f (g k) wr htr hK hn (HZ.out k hlt)).mono ?_
          rintro e w5 ⟨a5, c5, n3, h, rfl, B, hb5⟩
          obtain ⟨hn3, hlead⟩ := leads A hlt B
          obtain ⟨b5, off5, rfl, hc5⟩ := B.row hn3
          have hc50 : w5.cell? ⟨b5, off5, none⟩ = some (.string (g k)) := by
            have h0 := hc5 0 hn3
            rw [hlead] at h0
            simpa using h0
          clear hlead
          have hck5 : w5.cell? ⟨b3, off3 + k, none⟩ = some (.string (g k)) := (hb5.cell (World.block_lt_of_cell? wr _ hck)).trans hck
          have hg0 : ((n3 : Int) == 0) = false := beq_eq_false_iff_ne.2 (by omega)
          have hn3le := B.le
          have hr5 := hrr.below hb5 (Nat.le_refl _)
          go_wp2
          go_quiet (fail)
          go_wp2
          go_loop [9] (fun t => ∃ j : Nat, j ≤ n3 ∧ t = .int .i64 j) (fun t => n3 - (intOf t).toNat)
          case atStart => exact ⟨0, Nat.zero_le _, rfl⟩
          case round =>
            obtain ⟨j, hj, rfl⟩ := hrel
            by_cases hjt : j < n3
            · obtain ⟨m, hm, he⟩ := nests A hlt B hjt
              have HE : Hid (g m = h j) := he
              clear he
              have hcj := hc5 j hjt
              go_wp2_with (go_at_call 14; refine (shas_any _ _ _ g _ _ (by omega) (hr5.drewN _) A.up A.dn (irr _) m hm HE.out).mono ?_; rintro e w' ⟨rfl, rfl⟩)
              go_round
              case rel => exact ⟨j + 1, by omega, by go_num⟩
              case measure => simp [intOf]; omega
            · go_wp2
              go_roundw
              case rel => exact ⟨k + 1, by omega, by go_num, below_drewN (hbr.trans (hb5.mono hbr.size)) _⟩
              case measure => simp [intOf]; omega
        · go_wp2
          go_ret
          exact ⟨rfl, hB.trans (hbr.mono hB.size)⟩
    · go_wp2
      go_ret
      exact ⟨rfl, Below.refl _ _⟩
  · go_wp2
    go_ret
    exact ⟨rfl, Below.refl _ _⟩

end Go.Proofs.Qxb6605168a
