/- subtreeExact (12): true where got is exact. -/
import Derived.Test.Qxb6605168aLeaf
import Derived.Deep.QuietTactic
import Derived.BigQuiet
import Derived.WalkSmall
namespace Go.Proofs.Qxb6605168a
open Go.RowKit

theorem Row.drewN {w : World} {a : Option Addr} {n : Nat} {f : Nat → ByteArray} (h : Row w a n f) (q : Nat) : Row (w.drewN q) a n f := h

set_option maxHeartbeats 400000 in
theorem exact_any (a0 : Option Addr) (n0 c0 : Nat) (f0 : Nat → ByteArray) (p : ByteArray) (a2 : Option Addr) (n2 c2 : Nat) (f2 : Nat → ByteArray) (w : World)
    (h0 : n0 ≤ 4096) (r0 : Row w a0 n0 f0) (z0 : ∀ i, i < n0 → (f0 i).size ≤ maxLen) (hp : p.size ≤ maxLen)
    (h2 : n2 ≤ 4096) (r2 : Row w a2 n2 f2) (z2 : ∀ i, i < n2 → (f2 i).size ≤ maxLen)
    (hso : ∀ i j, i < j → j < n2 → Op.bytesLess (f2 i).toList (f2 j).toList = true) (has : ∀ i j, i < j → j < n2 → Op.bytesLess (f2 j).toList (f2 i).toList = false) (hirr : ∀ s : ByteArray, Op.bytesLess s.toList s.toList = false)
    (hin : ∀ i, i < n2 → ab (f2 i).toList p.toList = true ∧ ∃ m, m < n0 ∧ f0 m = f2 i)
    (hall : ∀ i, i < n0 → ab (f0 i).toList p.toList = true → ∃ m, m < n2 ∧ f2 m = f0 i) :
    Calls Try.prog 12 #[.slice a0 n0 c0, .string p, .slice a2 n2 c2] w fun e w' => e = .returned (.bool true) ∧ ∃ q, w' = w.drewN q := by
  have HSO : Hid (∀ i j, i < j → j < n2 → Op.bytesLess (f2 i).toList (f2 j).toList = true) := hso
  have HAS : Hid (∀ i j, i < j → j < n2 → Op.bytesLess (f2 j).toList (f2 i).toList = false) := has
  have HIR : Hid (∀ s : ByteArray, Op.bytesLess s.toList s.toList = false) := hirr
  have HIN : Hid (∀ i, i < n2 → ab (f2 i).toList p.toList = true ∧ ∃ m, m < n0 ∧ f0 m = f2 i) := hin
  have HALL : Hid (∀ i, i < n0 → ab (f0 i).toList p.toList = true → ∃ m, m < n2 ∧ f2 m = f0 i) := hall
  clear hso has hirr hin hall
  go_enter Try.func12, Try.ntmps12
  go_wp2
  go_loopw [7] (fun i wr => (∃ k : Nat, k ≤ n2 ∧ i = .int .i64 k) ∧ ∃ q, wr = w.drewN q) (fun i _ => n2 - (intOf i).toNat)
  case atStart => exact ⟨⟨0, Nat.zero_le _, rfl⟩, 0, rfl⟩
  case round =>
    obtain ⟨⟨k, hk, rfl⟩, q, rfl⟩ := hrel
    by_cases hlt : k < n2
    · obtain ⟨hab, m, hm, hfm⟩ := HIN.out k hlt
      have HFM : Hid (f0 m = f2 k) := hfm
      clear hfm
      obtain ⟨b2, off2, rfl, hc2⟩ := r2 (by omega)
      have hck := hc2 k hlt
      rcases Nat.eq_zero_or_pos k with hk0 | hk0
      · have hd : decide (0 < k) = false := by simp [hk0]
        clear hk0
        go_wp2
        go_quiet (fail)
        go_wp2_with (first
          | (go_at_call 30; refine (ab_any _ _ _ (z2 _ hlt) hp).mono ?_; rintro e w' ⟨rfl, rfl⟩)
          | (go_at_call 31; refine (has_any _ _ _ f0 _ _ h0 (r0.drewN _) m hm HFM.out).mono ?_; rintro e w' ⟨rfl, rfl⟩))
        go_roundw
        case rel => exact ⟨⟨k + 1, by omega, by go_num⟩, _, rfl⟩
        case measure => simp [intOf]; omega
      · have hck1 := hc2 (k - 1) (by omega)
        have hless := HSO.out (k - 1) k (by omega) hlt
        go_wp2
        go_quiet (fail)
        go_wp2_with (first
          | (go_at_call 30; refine (ab_any _ _ _ (z2 _ hlt) hp).mono ?_; rintro e w' ⟨rfl, rfl⟩)
          | (go_at_call 31; refine (has_any _ _ _ f0 _ _ h0 (r0.drewN _) m hm HFM.out).mono ?_; rintro e w' ⟨rfl, rfl⟩))
        go_roundw
        case rel => exact ⟨⟨k + 1, by omega, by go_num⟩, _, rfl⟩
        case measure => simp [intOf]; omega
    · go_wp2
      go_loop [8] (fun i => ∃ j : Nat, j ≤ n0 ∧ i = .int .i64 j) (fun i => n0 - (intOf i).toNat)
      case atStart => exact ⟨0, Nat.zero_le _, rfl⟩
      case round =>
        obtain ⟨j, hj, rfl⟩ := hrel
        by_cases hjt : j < n0
        · obtain ⟨b0, off0, rfl, hc0⟩ := r0 (by omega)
          have hcj := hc0 j hjt
          cases hab : ab (f0 j).toList p.toList
          · go_wp2_with (first
              | (go_at_call 30; refine (ab_any _ _ _ (z0 _ hjt) hp).mono ?_; rintro e w' ⟨rfl, rfl⟩))
            go_round
            case rel => exact ⟨j + 1, by omega, by go_num⟩
            case measure => simp [intOf]; omega
          · obtain ⟨m, hm, hfm⟩ := HALL.out j hjt hab
            have HFM : Hid (f2 m = f0 j) := hfm
            clear hfm
            go_wp2_with (first
              | (go_at_call 30; refine (ab_any _ _ _ (z0 _ hjt) hp).mono ?_; rintro e w' ⟨rfl, rfl⟩)
              | (go_at_call 14; refine (shas_any _ _ _ f2 _ _ h2 (r2.drewN _) HSO.out HAS.out (HIR.out _) m hm HFM.out).mono ?_; rintro e w' ⟨rfl, rfl⟩))
            go_round
            case rel => exact ⟨j + 1, by omega, by go_num⟩
            case measure => simp [intOf]; omega
        · go_wp2
          go_ret
          exact ⟨rfl, _, rfl⟩

end Go.Proofs.Qxb6605168a
