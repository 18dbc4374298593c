/- slices.Sort of no element (29, 38, 40, 39); strings.HasPrefix (28). -/
import Derived.Test.Qxb6605168aLeaf
namespace Go.Proofs.Qxb6605168a
open Go.RowKit

theorem ins_nil (p : Option Addr) (cap : Nat) (w : World) :
    Calls Try.prog 40 #[.slice p 0 cap, .int .i64 0, .int .i64 0] w fun e w' => e = .returned (.tuple #[]) ∧ w' = w := by
  go_enter Try.func40, Try.ntmps40
  go_wp2
  refine wp_loop_rounds 1 ?_
  rw [rounds_succ]
  go_wp2
  go_end0
  exact ⟨rfl, rfl⟩

set_option maxRecDepth 100000 in
theorem pdq_nil (p : Option Addr) (cap : Nat) (w : World) :
    Calls Try.prog 38 #[.slice p 0 cap, .int .i64 0, .int .i64 0, .int .i64 0] w fun e w' => e = .returned (.tuple #[]) ∧ w' = w := by
  go_enter Try.func38, Try.ntmps38
  go_wp2
  refine wp_loop_rounds 1 ?_
  rw [rounds_succ]
  go_wp2_with (first | (go_at_call 40; refine (ins_nil p cap _).mono ?_; rintro e w' ⟨rfl, rfl⟩))
  refine bodyPost_ret (results_none rfl _ _ _) rfl ?_
  exact ⟨rfl, rfl⟩

theorem ret_int {k : IntKind} {a b : Int} (h : a = b) : Ending.returned (.int k a) = .returned (.int k b) := by rw [h]

set_option maxRecDepth 100000 in
theorem len_zero (w : World) : Calls Try.prog 39 #[.int .u64 0] w fun e w' => e = .returned (.int .i64 0) ∧ w' = w := by
  go_enter Try.func39, Try.ntmps39
  go_wp2
  go_ret
  exact ⟨ret_int (by decide +kernel), rfl⟩

set_option maxRecDepth 100000 in
theorem sort_nil (p : Option Addr) (cap : Nat) (w : World) :
    Calls Try.prog 29 #[.slice p 0 cap] w fun e w' => e = .returned (.tuple #[]) ∧ w' = w := by
  go_enter Try.func29, Try.ntmps29
  go_wp2_with (first
    | (go_at_call 39; refine (len_zero _).mono ?_; rintro e w' ⟨rfl, rfl⟩)
    | (go_at_call 38; refine (pdq_nil p cap _).mono ?_; rintro e w' ⟨rfl, rfl⟩))
  go_end0
  exact ⟨rfl, rfl⟩

theorem lite_any (s p : ByteArray) (w : World) :
    Calls Try.prog 37 #[.string s, .string p] w fun e w' => e = .returned (.bool (p.toList.isPrefixOf s.toList)) ∧ w' = w := by
  go_enter Try.func37, Try.ntmps37
  go_wp2
  · have h : p.size ≤ s.size := by assumption
    go_ret
    exact ⟨ret_bool (pre_take s p), rfl⟩
  · have h : ¬ p.size ≤ s.size := by assumption
    go_ret
    exact ⟨ret_bool (pre_short s p (by omega)), rfl⟩

theorem hasPrefix_any (s p : ByteArray) (w : World) :
    Calls Try.prog 28 #[.string s, .string p] w fun e w' => e = .returned (.bool (p.toList.isPrefixOf s.toList)) ∧ w' = w := by
  go_enter Try.func28, Try.ntmps28
  go_wp2_with (go_at_call 37; refine (lite_any _ _ _).mono ?_; rintro e w' ⟨rfl, rfl⟩)
  go_ret
  exact ⟨rfl, rfl⟩

end Go.Proofs.Qxb6605168a
