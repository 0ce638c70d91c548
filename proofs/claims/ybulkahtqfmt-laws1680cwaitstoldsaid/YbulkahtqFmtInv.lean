/-
  WHAT HOLDS OF A WAITGRAPH, in plain words: whom each waits on (T), by whom each is waited on (W), at which place (E).
-/
import Derived.Test.YbulkahtqFmtLay
namespace Go.Proofs.YbulkahtqFmt
open Kit

structure Inv (T W : Nat → List Nat) (E : Nat × Nat → Option Nat) : Prop where
  a : ∀ t n i, (W t)[n]? = some i → E (i, t) = some n
  b : ∀ i t, t ∈ T i ↔ i ∈ W t
  c : ∀ i, (T i).Nodup

theorem Inv.empty : Inv (fun _ => []) (fun _ => []) (fun _ => none) := ⟨by simp, by simp, by simp⟩

theorem Inv.unwait {T W : Nat → List Nat} {E : Nat × Nat → Option Nat} (h : Inv T W E) {q t : Nat} {rest : List Nat} (hq : T q = t :: rest) :
    ∃ n l last, E (q, t) = some n ∧ (W t).length = l + 1 ∧ n < l + 1 ∧ (W t)[l]? = some last ∧ last ∈ W t ∧ Inv (updF T q rest) (updF W t (((W t).set n last).take l)) (updE (updE E (last, t) (some n)) (q, t) none) := by
  have hqW : q ∈ W t := (h.b q t).1 (by rw [hq]; simp)
  obtain ⟨n, hn⟩ := List.mem_iff_getElem?.1 hqW
  obtain ⟨hnl, hne⟩ := List.getElem?_eq_some_iff.1 hn
  obtain ⟨l, hl⟩ : ∃ l, (W t).length = l + 1 := ⟨(W t).length - 1, by omega⟩
  obtain ⟨last, hlast⟩ : ∃ last, (W t)[l]? = some last := ⟨_, List.getElem?_eq_getElem (by omega)⟩
  have hEq := h.a t n q hn
  have hEl := h.a t l last hlast
  have hnd := h.c q
  rw [hq, List.nodup_cons] at hnd
  -- places and persons are one to one
  have inj : ∀ {j i : Nat}, (W t)[j]? = some i → (i = q ↔ j = n) ∧ (i = last ↔ j = l) := fun {j i} hj => by
    have hEj := h.a t j i hj
    refine ⟨⟨fun e => ?_, fun e => ?_⟩, ⟨fun e => ?_, fun e => ?_⟩⟩
    · rw [e, hEq] at hEj; exact (Option.some.inj hEj).symm
    · rw [e, hn] at hj; exact (Option.some.inj hj).symm
    · rw [e, hEl] at hEj; exact (Option.some.inj hEj).symm
    · rw [e, hlast] at hj; exact (Option.some.inj hj).symm
  have hget : ∀ j, (((W t).set n last).take l)[j]? = if j < l then (if n = j then some last else (W t)[j]?) else none := fun j => by
    rw [List.getElem?_take, List.getElem?_set]
    by_cases hj : j < l
    · simp only [hj, if_true]
      by_cases hnj : n = j
      · subst hnj; simp [hnl]
      · simp [hnj]
    · simp [hj]
  refine ⟨n, l, last, hEq, hl, by omega, hlast, List.mem_of_getElem? hlast, ⟨fun t' j i hj => ?_, fun i t' => ?_, fun i => ?_⟩⟩
  · by_cases ht : t' = t
    · subst ht
      rw [updF_same, hget] at hj
      by_cases hjl : j < l
      · simp only [hjl, if_true] at hj
        by_cases hnj : n = j
        · simp only [hnj, if_true, Option.some.injEq] at hj
          subst hj
          have hlq : last ≠ q := fun e => by have := ((inj hlast).1).1 e; omega
          unfold updE
          have : ¬ (last, t') = (q, t') := by simp [hlq]
          simp [this, hnj]
        · simp only [hnj, if_false] at hj
          have h1 : i ≠ q := fun e => hnj (((inj hj).1).1 e).symm
          have h2 : i ≠ last := fun e => by have := ((inj hj).2).1 e; omega
          unfold updE
          simp [h1, h2, h.a _ _ _ hj]
      · simp [hjl] at hj
    · rw [updF_other _ _ ht] at hj
      unfold updE
      simp [ht, h.a _ _ _ hj]
  · have memW : i ∈ updF W t (((W t).set n last).take l) t' ↔ i ∈ W t' ∧ ¬ (t' = t ∧ i = q) := by
      by_cases ht : t' = t
      · subst ht
        rw [updF_same]
        simp only [true_and]
        constructor
        · intro hi
          obtain ⟨j, hj⟩ := List.mem_iff_getElem?.1 hi
          rw [hget] at hj
          by_cases hjl : j < l
          · simp only [hjl, if_true] at hj
            by_cases hnj : n = j
            · simp only [hnj, if_true, Option.some.injEq] at hj
              subst hj
              exact ⟨List.mem_of_getElem? hlast, fun e => by have := ((inj hlast).1).1 e; omega⟩
            · simp only [hnj, if_false] at hj
              exact ⟨List.mem_of_getElem? hj, fun e => hnj (((inj hj).1).1 e).symm⟩
          · simp [hjl] at hj
        · rintro ⟨hi, hiq⟩
          obtain ⟨j, hj⟩ := List.mem_iff_getElem?.1 hi
          have hjn : j ≠ n := fun e => hiq (((inj hj).1).2 e)
          have hjL := (List.getElem?_eq_some_iff.1 hj).1
          apply List.mem_iff_getElem?.2
          by_cases hjl : j = l
          · refine ⟨n, ?_⟩
            rw [hget]
            have : n < l := by omega
            simp only [this, if_true]
            rw [← hlast, ← hjl, hj]
          · refine ⟨j, ?_⟩
            rw [hget]
            have : j < l := by omega
            have hnj : ¬ n = j := fun e => hjn e.symm
            simp only [this, if_true, hnj, if_false]
            exact hj
      · rw [updF_other _ _ ht]; simp [ht]
    rw [memW, ← h.b i t']
    by_cases hi : i = q
    · subst hi
      rw [updF_same, hq]
      by_cases ht : t' = t
      · subst ht; simp [hnd.1]
      · simp [ht]
    · rw [updF_other _ _ hi]; simp [hi]
  · by_cases hi : i = q
    · subst hi; rw [updF_same]; exact hnd.2
    · rw [updF_other _ _ hi]; exact h.c i

theorem Inv.add {T W : Nat → List Nat} {E : Nat × Nat → Option Nat} (h : Inv T W E) {q t : Nat} (ht : t ∉ T q) : Inv (updF T q (T q ++ [t])) (updF W t (W t ++ [q])) (updE E (q, t) (some (W t).length)) := by
  have hqW : q ∉ W t := fun e => ht ((h.b q t).2 e)
  refine ⟨fun t' j i hj => ?_, fun i t' => ?_, fun i => ?_⟩
  · unfold updE
    by_cases ht' : t' = t
    · subst ht'
      rw [updF_same, List.getElem?_append] at hj
      by_cases hjl : j < (W t').length
      · simp only [hjl, if_true] at hj
        have hiq : i ≠ q := fun e => hqW (e ▸ List.mem_of_getElem? hj)
        simp [hiq, h.a _ _ _ hj]
      · simp only [hjl, if_false] at hj
        have : j - (W t').length = 0 := by
          rcases Nat.eq_zero_or_pos (j - (W t').length) with e | e
          · exact e
          · rw [List.getElem?_eq_none (by simp; omega)] at hj; cases hj
        rw [this] at hj
        simp at hj
        subst hj
        simp; omega
    · rw [updF_other _ _ ht'] at hj
      simp [ht', h.a _ _ _ hj]
  · have h1 : t' ∈ updF T q (T q ++ [t]) i ↔ t' ∈ T i ∨ (i = q ∧ t' = t) := by
      by_cases hi : i = q
      · subst hi; rw [updF_same]; simp
      · rw [updF_other _ _ hi]; simp [hi]
    have h2 : i ∈ updF W t (W t ++ [q]) t' ↔ i ∈ W t' ∨ (i = q ∧ t' = t) := by
      by_cases hi : t' = t
      · subst hi; rw [updF_same]; simp
      · rw [updF_other _ _ hi]; simp [hi]
    rw [h1, h2, h.b]
  · by_cases hi : i = q
    · subst hi; rw [updF_same, List.nodup_append]; exact ⟨h.c _, by simp, fun a ha b hb e => by simp at hb; subst hb; exact ht (e ▸ ha)⟩
    · rw [updF_other _ _ hi]; exact h.c i

end Go.Proofs.YbulkahtqFmt
