/- Plain laws of seat b6605168a: nothing of the program here. -/
import Derived.WalkKit
namespace Go.Proofs.Qxb6605168a

/-- What atOrBelow answers. -/
def ab (q p : List UInt8) : Bool := decide (q = p) || (if p = [47] then [47].isPrefixOf q else (p ++ [47]).isPrefixOf q)

theorem byte47 (c : UInt8) : ((c.toNat : Int) == 47) = (c == 47) := by
  rw [Bool.eq_iff_iff, beq_iff_eq, beq_iff_eq]
  constructor
  · intro h
    exact UInt8.toNat_inj.1 (by show c.toNat = 47; omega)
  · intro h
    rw [h]; rfl

theorem getElem_toList (q : ByteArray) (i : Nat) (h : i < q.size) : q.toList[i]? = some q[i] := by
  rw [ByteArray.toList_eq, Array.getElem?_toList]
  exact Array.getElem?_eq_getElem h

theorem ab_same (q p : ByteArray) (h : (q.toList == p.toList) = true) : true = ab q.toList p.toList := by
  rw [beq_iff_eq] at h
  simp [ab, h]

theorem ab_root_pos (q p : ByteArray) (h : (q.toList == p.toList) = false) (h2 : (p.toList == [47]) = true) (h3 : 0 < q.size) : ((q[0].toNat : Int) == 47) = ab q.toList p.toList := by
  rw [beq_eq_false_iff_ne] at h
  rw [beq_iff_eq] at h2
  rw [byte47]
  have e := getElem_toList q 0 h3
  generalize q[0] = c at e
  cases hq : q.toList with
  | nil => rw [hq] at e; simp at e
  | cons x r =>
    rw [hq] at e h
    have : x = c := by simpa using e
    subst this
    have hd : decide (x :: r = p.toList) = false := decide_eq_false h
    have he : [47].isPrefixOf (x :: r) = (47 == x) := by simp [List.isPrefixOf]
    simp only [ab, hd, Bool.false_or, if_pos h2, he]
    rw [Bool.eq_iff_iff, beq_iff_eq, beq_iff_eq]
    exact ⟨fun e => e.symm, fun e => e.symm⟩

theorem ab_root_none (q p : ByteArray) (h2 : (p.toList == [47]) = true) (h3 : ¬ 0 < q.size) : false = ab q.toList p.toList := by
  rw [beq_iff_eq] at h2
  have e : q.toList = [] := by
    rw [ByteArray.toList_eq]
    exact List.eq_nil_of_length_eq_zero (by rw [Array.length_toList]; show q.size = 0; omega)
  rw [e]
  simp [ab, h2]

theorem pre_iff (q p : List UInt8) : (p ++ [47]).isPrefixOf q = true ↔ q.take p.length = p ∧ q[p.length]? = some 47 := by
  rw [List.isPrefixOf_iff_prefix]
  constructor
  · rintro ⟨t, rfl⟩
    simp
  · rintro ⟨h1, h2⟩
    refine ⟨q.drop (p.length + 1), ?_⟩
    have hlt : p.length < q.length := (List.getElem?_eq_some_iff.1 h2).1
    have h3 : q[p.length] = 47 := by
      have := List.getElem?_eq_getElem hlt
      rw [h2] at this; simpa using this.symm
    have := List.take_append_drop p.length q
    rw [h1, List.drop_eq_getElem_cons hlt, h3] at this
    simpa using this

theorem size_toList (q : ByteArray) : q.toList.length = q.size := by rw [ByteArray.toList_eq, Array.length_toList]; rfl

theorem extract_take (q : ByteArray) (n : Nat) : (q.extract 0 n).toList = q.toList.take n := by
  simp [ByteArray.toList_eq, ByteArray.data_extract]

theorem ab_below (q p : ByteArray) (h : (q.toList == p.toList) = false) (h2 : (p.toList == [47]) = false) (h3 : p.size < q.size) (h4 : (q.extract 0 p.size).toList = p.toList) : ((q[p.size].toNat : Int) == 47) = ab q.toList p.toList := by
  rw [beq_eq_false_iff_ne] at h h2
  rw [byte47]
  rw [extract_take] at h4
  have e := getElem_toList q p.size h3
  generalize q[p.size] = c at e
  simp only [ab, h, decide_false, Bool.false_or, if_neg h2]
  rw [Bool.eq_iff_iff, pre_iff, size_toList, e]
  simp [h4]

theorem ab_other (q p : ByteArray) (h : (q.toList == p.toList) = false) (h2 : (p.toList == [47]) = false) (h4 : ¬ (q.extract 0 p.size).toList = p.toList) : false = ab q.toList p.toList := by
  rw [beq_eq_false_iff_ne] at h h2
  rw [extract_take] at h4
  simp only [ab, h, decide_false, Bool.false_or, if_neg h2]
  cases hp : (p.toList ++ [47]).isPrefixOf q.toList
  · rfl
  · rw [pre_iff, size_toList] at hp
    exact absurd hp.1 h4

theorem ab_short (q p : ByteArray) (h : (q.toList == p.toList) = false) (h2 : (p.toList == [47]) = false) (h3 : ¬ p.size < q.size) : false = ab q.toList p.toList := by
  rw [beq_eq_false_iff_ne] at h h2
  simp only [ab, h, decide_false, Bool.false_or, if_neg h2]
  cases hp : (p.toList ++ [47]).isPrefixOf q.toList
  · rfl
  · rw [pre_iff, size_toList] at hp
    have := (List.getElem?_eq_some_iff.1 hp.2).1
    rw [size_toList] at this
    omega

theorem pre_take (s p : ByteArray) : ((s.extract 0 p.size).toList == p.toList) = p.toList.isPrefixOf s.toList := by
  rw [extract_take, ← size_toList, Bool.eq_iff_iff, beq_iff_eq, List.isPrefixOf_iff_prefix, List.prefix_iff_eq_take]
  exact ⟨fun h => h.symm, fun h => h.symm⟩

theorem pre_short (s p : ByteArray) (h : s.size < p.size) : false = p.toList.isPrefixOf s.toList := by
  cases hp : p.toList.isPrefixOf s.toList
  · rfl
  · rw [List.isPrefixOf_iff_prefix] at hp
    have := hp.length_le
    rw [size_toList, size_toList] at this
    omega

/-- What Subtree asks of a key: at the root. -/
theorem ab_root (x p : List UInt8) (h : p = [47]) : (decide (x = p) || p.isPrefixOf x) = ab x p := by
  simp only [ab, if_pos h]
  rw [h]

/-- .. elsewhere. -/
theorem ab_not_root (x p : List UInt8) (h : ¬ p = [47]) : (decide (x = p) || (p ++ [47]).isPrefixOf x) = ab x p := by
  simp only [ab, if_neg h]

theorem bytesLess_eq : ∀ (x y : List UInt8), Op.bytesLess x y = decide (x < y)
  | [], [] => by simp [Op.bytesLess]
  | [], y :: ys => by simp [Op.bytesLess]
  | x :: xs, [] => by simp [Op.bytesLess]
  | x :: xs, y :: ys => by
    have ih := bytesLess_eq xs ys
    simp only [Op.bytesLess, ih]
    rw [Bool.eq_iff_iff]
    simp [List.cons_lt_cons_iff]

end Go.Proofs.Qxb6605168a
