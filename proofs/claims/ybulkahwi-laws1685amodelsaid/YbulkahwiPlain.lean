/-
  The plain mathematics of 'module paths below a prefix': lists of byte strings, no Go in sight.
-/
import Derived.Lib.Strings
import Derived.Lib.IndexBytes
import Derived.Laws.Concat
import Derived.WideShapes
namespace Go.Proofs.Ybulkahwi
open Go

abbrev slash : ByteArray := ⟨#[47]⟩
/-- p is a prefix of s. -/
def isPre (s p : ByteArray) : Bool := p.data.toList.isPrefixOf s.data.toList
/-- The module path p provides the import path pre. -/
def prov (pre p : ByteArray) : Bool := !p.data.toList.isEmpty && (p.data.toList == pre.data.toList || isPre pre (p ++ slash))
/-- What the law says of the result. -/
def model (pre : ByteArray) (ps : List ByteArray) : List ByteArray := (if ps.any (prov pre) then [pre] else []) ++ ps.filter (fun p => isPre p (pre ++ slash))

theorem append_data (a b : ByteArray) : (a ++ b).data.toList = a.data.toList ++ b.data.toList := by simp [ByteArray.data_append]
theorem isPre_iff (s p : ByteArray) : isPre s p = true ↔ p.data.toList <+: s.data.toList := by unfold isPre; exact List.isPrefixOf_iff_prefix
theorem isPre_size {s p : ByteArray} (h : isPre s p = true) : p.size ≤ s.size := by
  have := (isPre_iff s p).1 h
  have := this.length_le
  simpa using this
/-- The test that the Go text makes: cut to the prefix's length, the two are one. -/
theorem isPre_cut (s p : ByteArray) : ((s.extract 0 p.size).toList == p.toList) = isPre s p := by
  rw [ByteArray.toList_eq, ByteArray.toList_eq, Lib.extract_data, Bool.eq_iff_iff, beq_iff_eq, isPre_iff, List.prefix_iff_eq_take]
  simp only [List.drop_zero, Nat.sub_zero]
  have : p.data.toList.length = p.size := by simp
  rw [this]
  exact ⟨Eq.symm, Eq.symm⟩
theorem isPre_short {s p : ByteArray} (h : ¬ p.size ≤ s.size) : isPre s p = false := by
  cases hp : isPre s p
  · rfl
  · exact absurd (isPre_size hp) h
theorem eq_iff (a b : ByteArray) : (a.toList == b.toList) = (a.data.toList == b.data.toList) := by rw [ByteArray.toList_eq, ByteArray.toList_eq]

/-- What is left behind a prefix that stands. -/
theorem rest_data {s p : ByteArray} (h : isPre s p = true) : s.data.toList = p.data.toList ++ (s.extract p.size s.size).data.toList := by
  obtain ⟨t, ht⟩ := (isPre_iff s p).1 h
  rw [Lib.extract_to_end]
  have : p.size = p.data.toList.length := by simp
  rw [this, ← ht, List.drop_left]

theorem isPre_slash {s p : ByteArray} (h : isPre s p = true) : isPre s (p ++ slash) = true ↔ ∃ t, (s.extract p.size s.size).data.toList = 47 :: t := by
  rw [isPre_iff, append_data]
  have hr := rest_data h
  constructor
  · rintro ⟨t, ht⟩
    rw [hr, List.append_assoc] at ht
    have := List.append_cancel_left ht
    exact ⟨t, this.symm⟩
  · rintro ⟨t, ht⟩
    exact ⟨t, by rw [hr, ht, List.append_assoc]; rfl⟩

theorem isPre_of_slash {s p : ByteArray} (h : isPre s (p ++ slash) = true) : isPre s p = true := by
  rw [isPre_iff, append_data] at h
  rw [isPre_iff]
  exact (List.prefix_append _ _).trans h

/-! ### provider's test, way by way -/
theorem prov_no {pre p : ByteArray} (h : isPre pre p = false) : prov pre p = false := by
  unfold prov
  have h1 : (p.data.toList == pre.data.toList) = false := by
    cases e : (p.data.toList == pre.data.toList)
    · rfl
    · exfalso
      have : isPre pre p = true := (isPre_iff _ _).2 (by rw [beq_iff_eq.1 e]; exact List.prefix_refl _)
      rw [h] at this; cases this
  have h2 : isPre pre (p ++ slash) = false := by
    cases e : isPre pre (p ++ slash)
    · rfl
    · rw [isPre_of_slash e] at h; cases h
  rw [h1, h2]; simp
theorem rest_empty {pre p : ByteArray} (h : isPre pre p = true) : ((pre.extract p.size pre.size).data.toList.isEmpty = true) ↔ p.data.toList = pre.data.toList := by
  have hr := rest_data h
  constructor
  · intro e; rw [List.isEmpty_iff] at e; rw [hr, e, List.append_nil]
  · intro e
    rw [← e] at hr
    have hl := congrArg List.length hr
    rw [List.length_append] at hl
    rw [List.isEmpty_iff]
    exact List.eq_nil_of_length_eq_zero (by omega)
theorem prov_yes_same {pre p : ByteArray} (h : isPre pre p = true) (hp : 0 < p.size) (he : (pre.extract p.size pre.size).data.toList.isEmpty = true) : prov pre p = true := by
  unfold prov
  have e := (rest_empty h).1 he
  have hne : p.data.toList.isEmpty = false := by
    cases hd : p.data.toList with
    | nil => have : p.data.toList.length = p.size := by simp
             rw [hd] at this; simp at this; omega
    | cons a b => rfl
  rw [hne, e]; simp
theorem ne_of_pos {p : ByteArray} (hp : 0 < p.size) : p.data.toList.isEmpty = false := by
  cases hd : p.data.toList with
  | nil => have : p.data.toList.length = p.size := by simp
           rw [hd] at this; simp at this; omega
  | cons a b => rfl
theorem prov_yes_slash {pre p : ByteArray} (h : isPre pre p = true) (hp : 0 < p.size) {t : List UInt8} (he : (pre.extract p.size pre.size).data.toList = 47 :: t) : prov pre p = true := by
  unfold prov
  rw [ne_of_pos hp, (isPre_slash h).2 ⟨t, he⟩]; simp
theorem prov_no_other {pre p : ByteArray} (h : isPre pre p = true) {c : UInt8} {t : List UInt8} (hc : c ≠ 47) (he : (pre.extract p.size pre.size).data.toList = c :: t) : prov pre p = false := by
  unfold prov
  have h1 : (p.data.toList == pre.data.toList) = false := by
    cases e : (p.data.toList == pre.data.toList)
    · rfl
    · have := (rest_empty h).2 (beq_iff_eq.1 e)
      rw [he] at this; cases this
  have h2 : isPre pre (p ++ slash) = false := by
    cases e : isPre pre (p ++ slash)
    · rfl
    · obtain ⟨t', ht⟩ := (isPre_slash h).1 e
      rw [he] at ht
      simp only [List.cons.injEq] at ht
      exact absurd ht.1 hc
  rw [h1, h2]; simp

/-! ### round by round -/
theorem any_succ (f : ByteArray → Bool) (ps : List ByteArray) (k : Nat) (h : k < ps.length) : (ps.take (k + 1)).any f = ((ps.take k).any f || f (ps.getD k ByteArray.empty)) := by
  rw [List.take_succ_eq_append_getElem h, List.any_append, List.getD, List.getElem?_eq_getElem h, Option.getD_some]
  simp
theorem filter_succ (f : ByteArray → Bool) (ps : List ByteArray) (k : Nat) (h : k < ps.length) : (ps.take (k + 1)).filter f = (ps.take k).filter f ++ (if f (ps.getD k ByteArray.empty) then [ps.getD k ByteArray.empty] else []) := by
  rw [List.take_succ_eq_append_getElem h, List.filter_append, List.getD, List.getElem?_eq_getElem h, Option.getD_some]
  by_cases hf : f ps[k] = true <;> simp [hf]

theorem nil_of_size {p : ByteArray} (h : p.size = 0) : p.data.toList = [] := by
  have hl : p.data.toList.length = p.size := by simp
  exact List.eq_nil_of_length_eq_zero (by omega)
theorem pos_of_filled {R : ByteArray} (h : R.toList.isEmpty = false) : 0 < R.size := by
  rcases Nat.eq_zero_or_pos R.size with h0 | h0
  · rw [ByteArray.toList_eq, nil_of_size h0] at h; cases h
  · exact h0
/-- A path that is no longer than the longest found so far turns nothing. -/
theorem long_keep {f : Bool} {lg : Int} {pre p : ByteArray} (hf : f = false → lg = 0) (h : (p.size : Int) ≤ lg) : (f || prov pre p) = f := by
  cases f
  · have h0 : p.size = 0 := by have := hf rfl; omega
    have hn : p.data.toList = [] := nil_of_size h0
    simp [prov, hn]
  · rfl
theorem or_no {f : Bool} {pre p : ByteArray} (h : prov pre p = false) : (f || prov pre p) = f := by rw [h, Bool.or_false]
theorem or_yes {f : Bool} {pre p : ByteArray} (h : prov pre p = true) : (f || prov pre p) = true := by rw [h, Bool.or_true]
theorem rest_cons {R : ByteArray} (h : 0 < R.size) : ∃ t, R.data.toList = R[0] :: t := by
  have hl : R.data.toList.length = R.size := by simp
  cases hd : R.data.toList with
  | nil => rw [hd] at hl; simp at hl; omega
  | cons a t =>
    refine ⟨t, ?_⟩
    have : R[0] = a := by
      have e : R[0] = R.data.toList[0]'(by omega) := rfl
      rw [e]; simp [hd]
    rw [this]

/-! ### the second law -/
theorem prov_self {pre : ByteArray} (hp : 0 < pre.size) : prov pre pre = true := by
  unfold prov; rw [ne_of_pos hp]; simp
theorem not_below (pre : ByteArray) : isPre pre (pre ++ slash) = false := by
  cases h : isPre pre (pre ++ slash)
  · rfl
  · have := isPre_size h
    rw [ByteArray.size_append] at this
    have e : slash.size = 1 := rfl
    omega
theorem model_more {pre : ByteArray} (hp : 0 < pre.size) (ps : List ByteArray) : model pre (ps ++ [pre]) = pre :: ps.filter (fun p => isPre p (pre ++ slash)) := by
  unfold model
  rw [List.any_append, List.filter_append]
  simp [prov_self hp, not_below]
theorem below_ne {pre p : ByteArray} (h : isPre p (pre ++ slash) = true) : p ≠ pre := by
  rintro rfl; rw [not_below] at h; cases h

end Go.Proofs.Ybulkahwi
