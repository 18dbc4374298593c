/- The row of FnSubtreeNestsAndLeadsWithItselfSaid, proved out of its walk. -/
import Derived.Test.Qxb6605168aRows
import Derived.Test.Qxb6605168aWalkTwo
import Derived.ProofKit
import Derived.SliceStrings
namespace Go.Proofs.Qxb6605168a
open Go.ChangeShapes Go.WideShapes Go.ChangeAt Go.RowKit
open Go.ChangeMaps (open_string shut_string)

theorem Try.ownTwo : ownKnob Try.prog.godebug = none := by kernel_rfl
theorem Try.laidOutTwo : laidOutB Try.prog = true := by kernel_rfl
theorem Try.cells9Two : Try.prog.cellsOf 9 = 1 := by kernel_rfl

set_option maxRecDepth 100000 in
theorem liftedTwo (os : Os) (started : os.Started) (H : Type) (enc : TypeId × Value → H) :
    ReturnsInHanded {} Try.checked os 4 .any (Rows.fnSubtreeNestsAndLeadsWithItselfSpec.pre6 enc Try.prog Try.f4 Rows.fnSubtreeNestsAndLeadsWithItselfRow.domain false) (Rows.fnSubtreeNestsAndLeadsWithItselfSpec.post enc Try.prog Try.f4 false true false false) := by
  refine returnsInHanded_of_change (C := Try.checked) Try.ownTwo started (by kernel_rfl) Try.func4
    (ChangeSpec.witness6 (enc := enc) (C := Try.checked) false ⟨#[], #[.slice none 0 0, .string ⟨#[]⟩], []⟩ 8 (by kernel_rfl) (by kernel_rfl) (by kernel_rfl) (by kernel_rfl)) ?_
  intro W base args ds gs before hval0 hW _ _
  have hval : ∀ (j : Nat) t v, Try.f4.params[j]? = some t → args[j]? = some v → Value.okWide Try.prog W .any base t v := hval0
  have hW' := hW
  obtain ⟨p, q, hA0, hV, rfl, _, _⟩ := hW
  have hA : DataW.TrodAll enc Try.prog W 0 (fun _ => true) true Try.f4.params.toList args.toList ds p := hA0
  rw [Try.params4] at hA hval
  obtain ⟨v0, v1, d0, d1, p0, p1, rfl, rfl, rfl, h0, h1⟩ := trodAll_two hA
  obtain ⟨rfl, rfl⟩ := trodVars_none hV
  obtain ⟨a0, len, cap, rfl⟩ := okWide_slice Try.underlying22 (hval 0 22 v0 rfl rfl)
  have h0k := h0
  have h1k := h1
  obtain ⟨s, rfl, rfl, rfl, hs⟩ := open_string Try.underlying9 (hval 1 9 v1 rfl rfl) h1
  obtain ⟨fuel, hf⟩ := h0
  clear hA0 hval0
  simp only [List.append_nil] at hW'
  have hlt : ∀ x ∈ p0, x.block < W.heap.size := fun x hx => by simpa using hW'.lt x (by simp [hx])
  have hargs : ∀ (W' : World), Below W.heap.size W W' → DataW.Trod enc Try.prog W' 0 (fun b => decide (b < W.heap.size)) true 22 (.slice a0 len cap) d0 p0 :=
    fun W' hn => Below.trod Try.laidOutTwo (by kernel_rfl) (of_decide_eq_true (by kernel_rfl)) h0k hn hlt
  have fin : ∀ (e : Ending) (W' : World), (e = .returned (.bool true) ∧ Below W.heap.size W W') → ∃ v, e = .returned v ∧ Rows.fnSubtreeNestsAndLeadsWithItselfSpec.post enc Try.checked.prog Try.f4 false true false false W #[.slice a0 len cap, .string s] v W' := by
    rintro e W' ⟨rfl, hnx⟩
    refine ⟨_, rfl, _, _, _, [], p0 ++ [], [], hW', ?_, ?_, rfl, hnx.frame _, fun h => by cases h⟩
    · exact trodAll_mk1 (shut_bool Try.underlying4 true)
    · exact trodAll_mk2 (hargs _ hnx) (shut_string Try.underlying9 hs)
  rcases open_strings Try.underlying22 Try.underlying9 Try.cells9Two hf with ⟨hcs, hx⟩ | ⟨a, len', cap', ss, hcs, _, hl, hm, hz, hx, hcell, hws⟩
  · -- the nil slice
    simp [Value.cells] at hcs
    obtain ⟨rfl, rfl, rfl⟩ := hcs
    exact (two_any none 0 0 (fun _ => ByteArray.empty) s W (Nat.zero_le _) (fun h => absurd h (Nat.not_lt_zero _)) (fun i hi => absurd hi (Nat.not_lt_zero _)) hs (fun _ => ⟨rfl, rfl⟩)).mono fin
  · simp [Value.cells] at hcs
    obtain ⟨rfl, rfl, rfl⟩ := hcs
    simp only [if_true] at hz
    have hrow : Row W (some a) len (fun i => ss.getD i ByteArray.empty) := by
      intro hpos
      obtain ⟨b, off, spot⟩ := a
      have hspot : spot = none := by simpa [Addr.add] using World.cell?_spot (hcell 0 (by omega))
      subst hspot
      exact ⟨b, off, rfl, fun i hi => by rw [← add_plain]; exact hcell i (by omega)⟩
    have hsize : ∀ i, i < len → (ss.getD i ByteArray.empty).size ≤ maxLen := by
      intro i hi
      have hi' : i < ss.length := by omega
      have e : ss.getD i ByteArray.empty = ss[i] := by simp [List.getD, List.getElem?_eq_getElem hi']
      rw [e]
      exact hws _ (List.getElem_mem hi')
    exact (two_any (some a) len cap (fun i => ss.getD i ByteArray.empty) s W (Nat.le_trans hl hm) hrow hsize hs (fun h => by cases h)).mono fin

theorem subtreeNests_holds : Rows.FnSubtreeNestsAndLeadsWithItselfSaid :=
  OpenClaim.holds_of_wide 4 Try.f4 rfl rfl rfl rfl rfl rfl rfl ⟨rfl, rfl, rfl, rfl, rfl⟩ rfl rfl rfl rfl rfl (by kernel_rfl) Try.func4 (by kernel_rfl)
    (of_decide_eq_true (by kernel_rfl)) (by unfold Func.isWrapper; first | (rw [if_pos (by decide +kernel)]; kernel_rfl) | (rw [if_neg (by decide +kernel)]; exact ⟨rfl, rfl⟩))
    (fun os started H enc _ => liftedTwo os started H enc)


end Go.Proofs.Qxb6605168a
