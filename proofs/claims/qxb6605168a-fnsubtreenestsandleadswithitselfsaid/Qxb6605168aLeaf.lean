/- The leaf walks of seat b6605168a: functions that only read (7, 13, 8, 30, 31, 14). -/
import Derived.Test.Qxb6605168aRows
import Derived.Test.Qxb6605168aPlain
import Derived.WalkKit
import Derived.WalkSpells
import Derived.WalkLawsBesides
namespace Go.Proofs.Qxb6605168a
open Go.RowKit

/-- What a read-only slice of strings of n elements holds: f i at place i. -/
def Row (w : World) (a : Option Addr) (n : Nat) (f : Nat → ByteArray) : Prop :=
  0 < n → ∃ b off, a = some ⟨b, off, none⟩ ∧ ∀ i, i < n → w.cell? ⟨b, off + i, none⟩ = some (.string (f i))

theorem beq_iff (x y : ByteArray) : (x.toList == y.toList) = true ↔ x = y := by
  rw [beq_iff_eq, ByteArray.toList_eq, ByteArray.toList_eq]
  exact ⟨fun h => ByteArray.ext (Array.toList_inj.mp h), fun h => by rw [h]⟩

theorem ret_bool {a b : Bool} (h : a = b) : Ending.returned (.bool a) = .returned (.bool b) := by rw [h]

/-- Some bool came back. -/
def IsBool (e : Ending) : Prop := ∃ x, e = .returned (.bool x)

/-- hasString, where the string is there. -/
theorem has_any (a : Option Addr) (n cap : Nat) (f : Nat → ByteArray) (s : ByteArray) (w : World) (hn : n ≤ 4096) (hr : Row w a n f) (m : Nat) (hm : m < n) (hs : f m = s) :
    Calls Try.prog 31 #[.slice a n cap, .string s] w fun e w' => e = .returned (.bool true) ∧ w' = w := by
  obtain ⟨b, off, rfl, hc⟩ := hr (by omega)
  have HS : Hid (f m = s) := hs
  clear hs
  go_enter Try.func31, Try.ntmps31
  go_wp2
  go_loop [5] (fun i => ∃ k : Nat, k ≤ m ∧ i = .int .i64 k) (fun i => n - (intOf i).toNat)
  case atStart => exact ⟨0, Nat.zero_le _, rfl⟩
  case round =>
    obtain ⟨k, hk, rfl⟩ := hrel
    have hlt : k < n := by omega
    have hck := hc k hlt
    go_wp2
    · go_ret
      exact ⟨rfl, rfl⟩
    · have hne : ((f k).toList == s.toList) = false := by assumption
      have hkm : k ≠ m := fun e => by
        subst e
        rw [HS.out] at hne
        simp at hne
      go_round
      case rel => exact ⟨k + 1, by omega, by go_num⟩
      case measure => simp [intOf]; omega

/-- sortedHasString, where the slice is sorted and the string is there. -/
theorem shas_any (a : Option Addr) (n cap : Nat) (f : Nat → ByteArray) (s : ByteArray) (w : World) (hn : n ≤ 4096) (hr : Row w a n f)
    (hso : ∀ i j, i < j → j < n → Op.bytesLess (f i).toList (f j).toList = true) (has : ∀ i j, i < j → j < n → Op.bytesLess (f j).toList (f i).toList = false) (hirr : Op.bytesLess s.toList s.toList = false)
    (m : Nat) (hm : m < n) (hs : f m = s) :
    Calls Try.prog 14 #[.slice a n cap, .string s] w fun e w' => e = .returned (.bool true) ∧ w' = w := by
  obtain ⟨b, off, rfl, hc⟩ := hr (by omega)
  have HS : Hid (f m = s) := hs
  have HSO : Hid (∀ i j, i < j → j < n → Op.bytesLess (f i).toList (f j).toList = true) := hso
  have HAS : Hid (∀ i j, i < j → j < n → Op.bytesLess (f j).toList (f i).toList = false) := has
  have HI : Hid (Op.bytesLess s.toList s.toList = false) := hirr
  clear hs hso has hirr
  go_enter Try.func14, Try.ntmps14
  go_wp2
  go_loop [5, 6] (fun lo hi => ∃ l h : Nat, l ≤ m ∧ m ≤ h ∧ h ≤ n ∧ lo = .int .i64 l ∧ hi = .int .i64 h) (fun lo hi => (intOf hi).toNat - (intOf lo).toNat)
  case atStart => exact ⟨0, n, Nat.zero_le _, by omega, Nat.le_refl _, rfl, rfl⟩
  case round =>
    obtain ⟨l, h, hl, hh, hhn, rfl, rfl⟩ := hrel
    by_cases hlt : l < h
    · have hcell : w.cell? ⟨b, off + (l + (h - l) / 2), none⟩ = some (.string (f (l + (h - l) / 2))) := hc _ (by omega)
      go_wp2
      · have hless : Op.bytesLess (f (l + (h - l) / 2)).toList s.toList = true := by assumption
        have hmm : l + (h - l) / 2 < m := by
          rcases Nat.lt_trichotomy (l + (h - l) / 2) m with h1 | h1 | h1
          · exact h1
          · rw [h1, HS.out, HI.out] at hless; cases hless
          · have := HAS.out m (l + (h - l) / 2) h1 (by omega)
            rw [HS.out, hless] at this; cases this
        go_round
        case rel => exact ⟨l + (h - l) / 2 + 1, h, by omega, hh, hhn, by go_num, rfl⟩
        case measure => simp only [intOf]; omega
      · have hless : Op.bytesLess (f (l + (h - l) / 2)).toList s.toList = false := by assumption
        have hmm : m ≤ l + (h - l) / 2 := by
          refine Nat.le_of_not_lt fun h1 => ?_
          have := HSO.out (l + (h - l) / 2) m h1 hm
          rw [HS.out, hless] at this; cases this
        go_round
        case rel => exact ⟨l, l + (h - l) / 2, hl, hmm, by omega, rfl, by go_num⟩
        case measure => simp only [intOf]; omega
    · obtain rfl : l = m := by omega
      have hcell : w.cell? ⟨b, off + l, none⟩ = some (.string (f l)) := hc _ (by omega)
      go_wp2
      go_ret
      exact ⟨ret_bool (by rw [HS.out]; exact BEq.rfl), rfl⟩

/-- zzBytes: some answer; nothing turns. -/
theorem zzb7_any (a : Option Addr) (n cap : Nat) (f : Nat → ByteArray) (s : ByteArray) (w : World) (hn : n ≤ maxLen) (hr : Row w a n f) (hf : ∀ i, i < n → (f i).size ≤ maxLen) (hs : s.size ≤ maxLen) :
    Calls Try.prog 7 #[.slice a n cap, .string s] w fun e w' => IsBool e ∧ w' = w := by
  unfold maxLen at hn hf hs
  go_enter Try.func7, Try.ntmps7
  go_wp2
  · go_ret
    exact ⟨⟨_, rfl⟩, rfl⟩
  go_loop [5, 6] (fun z i => ∃ k t : Nat, k ≤ n ∧ t ≤ 1048576 ∧ i = .int .i64 k ∧ z = .int .i64 t) (fun _ i => n - (intOf i).toNat)
  case atStart => exact ⟨0, n, Nat.zero_le _, by omega, rfl, by go_num⟩
  case round =>
    obtain ⟨k, t, hk, ht, rfl, rfl⟩ := hrel
    by_cases hlt : k < n
    · obtain ⟨b, off, rfl, hc⟩ := hr (by omega)
      have hck := hc k hlt
      have hfk := hf k hlt
      go_wp2
      · go_ret
        exact ⟨⟨_, rfl⟩, rfl⟩
      · go_ret
        exact ⟨⟨_, rfl⟩, rfl⟩
      · go_round
        case rel => exact ⟨k + 1, t + (f k).size, by omega, by omega, by go_num, by go_num⟩
        case measure => simp [intOf]; omega
    · go_wp2
      all_goals
        go_ret
        exact ⟨⟨_, rfl⟩, rfl⟩

/-- zzBytes: some answer; nothing turns. -/
theorem zzb13_any (a : Option Addr) (n cap : Nat) (f : Nat → ByteArray) (s : ByteArray) (w : World) (hn : n ≤ maxLen) (hr : Row w a n f) (hf : ∀ i, i < n → (f i).size ≤ maxLen) (hs : s.size ≤ maxLen) :
    Calls Try.prog 13 #[.slice a n cap, .string s] w fun e w' => IsBool e ∧ w' = w := by
  unfold maxLen at hn hf hs
  go_enter Try.func13, Try.ntmps13
  go_wp2
  · go_ret
    exact ⟨⟨_, rfl⟩, rfl⟩
  go_loop [5, 6] (fun z i => ∃ k t : Nat, k ≤ n ∧ t ≤ 1048576 ∧ i = .int .i64 k ∧ z = .int .i64 t) (fun _ i => n - (intOf i).toNat)
  case atStart => exact ⟨0, n, Nat.zero_le _, by omega, rfl, by go_num⟩
  case round =>
    obtain ⟨k, t, hk, ht, rfl, rfl⟩ := hrel
    by_cases hlt : k < n
    · obtain ⟨b, off, rfl, hc⟩ := hr (by omega)
      have hck := hc k hlt
      have hfk := hf k hlt
      go_wp2
      · go_ret
        exact ⟨⟨_, rfl⟩, rfl⟩
      · go_ret
        exact ⟨⟨_, rfl⟩, rfl⟩
      · go_round
        case rel => exact ⟨k + 1, t + (f k).size, by omega, by omega, by go_num, by go_num⟩
        case measure => simp [intOf]; omega
    · go_wp2
      all_goals
        go_ret
        exact ⟨⟨_, rfl⟩, rfl⟩

/-- subtreeFits: some answer; nothing turns. -/
theorem fits_any (a : Option Addr) (n cap : Nat) (f : Nat → ByteArray) (s : ByteArray) (w : World) (hn : n ≤ 4096) (hr : Row w a n f) (hf : ∀ i, i < n → (f i).size ≤ maxLen) (hs : s.size ≤ 1048576) :
    Calls Try.prog 8 #[.slice a n cap, .string s] w fun e w' => IsBool e ∧ w' = w := by
  unfold maxLen at hf
  go_enter Try.func8, Try.ntmps8
  go_wp2
  · go_ret
    exact ⟨⟨_, rfl⟩, rfl⟩
  go_loop [5, 6] (fun z i => ∃ k t : Nat, k ≤ n ∧ t ≤ 1048576 ∧ i = .int .i64 k ∧ z = .int .i64 t) (fun _ i => n - (intOf i).toNat)
  case atStart => exact ⟨0, s.size + 16 * n, Nat.zero_le _, by omega, rfl, by go_num⟩
  case round =>
    obtain ⟨k, t, hk, ht, rfl, rfl⟩ := hrel
    by_cases hlt : k < n
    · obtain ⟨b, off, rfl, hc⟩ := hr (by omega)
      have hck := hc k hlt
      have hfk := hf k hlt
      go_wp2
      · go_ret
        exact ⟨⟨_, rfl⟩, rfl⟩
      · go_ret
        exact ⟨⟨_, rfl⟩, rfl⟩
      · go_round
        case rel => exact ⟨k + 1, t + (f k).size, by omega, by omega, by go_num, by go_num⟩
        case measure => simp [intOf]; omega
    · go_wp2
      go_ret
      exact ⟨⟨_, rfl⟩, rfl⟩

theorem ab_any (q p : ByteArray) (w : World) (_hq : q.size ≤ maxLen) (hp : p.size ≤ maxLen) :
    Calls Try.prog 30 #[.string q, .string p] w fun e w' => e = .returned (.bool (ab q.toList p.toList)) ∧ w' = w := by
  unfold maxLen at _hq hp
  go_enter Try.func30, Try.ntmps30
  go_wp2
  · go_ret
    exact ⟨ret_bool (ab_same q p ‹_›), rfl⟩
  · go_ret
    exact ⟨ret_bool (ab_root_pos q p ‹_› ‹_› ‹_›), rfl⟩
  · go_ret
    exact ⟨ret_bool (ab_root_none q p ‹_› ‹_›), rfl⟩
  · go_ret
    exact ⟨ret_bool (ab_below q p ‹_› ‹_› ‹_› ‹_›), rfl⟩
  · go_ret
    exact ⟨ret_bool (ab_other q p ‹_› ‹_› ‹_›), rfl⟩
  · go_ret
    exact ⟨ret_bool (ab_short q p ‹_› ‹_› ‹_›), rfl⟩

end Go.Proofs.Qxb6605168a
