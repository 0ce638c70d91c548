/-
  THE PLAIN SIDE of making room: the candidates, sorted by rank, the last first.
-/
import Derived.Test.YbulkaibePick
namespace Go.Proofs.Ybulkaibe
open Kit

/-- The rank as one number. -/
def rk (pri : Nat → Nat) (i : Nat) : Nat := (if pri i = 0 then 4 else pri i) * 6 + i

theorem rk_inj {pri : Nat → Nat} {i j : Nat} (hi : i < 6) (hj : j < 6) (h : rk pri i = rk pri j) : i = j := by
  unfold rk at h
  generalize (if pri i = 0 then 4 else pri i) = a at h
  generalize (if pri j = 0 then 4 else pri j) = b at h
  omega

theorem rank_iff {pri : Nat → Nat} {i j : Nat} (hi : i < 6) (hj : j < 6) (h4 : ∀ i, pri i < 4) : 0 < rankZ i j (pri i) (pri j) ↔ rk pri j < rk pri i := by
  have a4 := h4 i
  have b4 := h4 j
  unfold rankZ orZ cmpI prM rk
  by_cases h1 : pri i = 0 <;> by_cases h2 : pri j = 0 <;> simp only [h1, h2, if_true, if_false] <;> split <;> (try split) <;> (try split) <;> (try split) <;> omega

theorem prM_iff {pri : Nat → Nat} {i j : Nat} (h4 : ∀ i, pri i < 4) : prM (pri j) < prM (pri i) ↔ (if pri j = 0 then 4 else pri j) < (if pri i = 0 then 4 else pri i) := by
  have a4 := h4 i
  have b4 := h4 j
  unfold prM
  by_cases h1 : pri i = 0 <;> by_cases h2 : pri j = 0 <;> simp only [h1, h2, if_true, if_false] <;> omega

/-- The candidates on node j, in the order of their names. -/
def cands (k : Nat) (loc : Nat → Option Nat) (pri : Nat → Nat) (t j : Nat) : List Nat := (List.range k).filter (fun i => decide (loc i = some j ∧ prM (pri t) < prM (pri i)))
theorem mem_cands {k : Nat} {loc : Nat → Option Nat} {pri : Nat → Nat} {t j i : Nat} : i ∈ cands k loc pri t j ↔ i < k ∧ loc i = some j ∧ prM (pri t) < prM (pri i) := by
  simp [cands]
/-- .. sorted, the highest rank first. -/
def sorted (k : Nat) (loc : Nat → Option Nat) (pri : Nat → Nat) (t j : Nat) : List Nat := (cands k loc pri t j).mergeSort (fun a b => decide (rk pri b ≤ rk pri a))

structure IsSorted (pri : Nat → Nat) (cs s : List Nat) : Prop where
  mem : ∀ i, i ∈ s ↔ i ∈ cs
  ord : s.Pairwise (fun a b => rk pri b < rk pri a)

theorem sorted_is {k : Nat} (hk : k ≤ 6) (loc : Nat → Option Nat) (pri : Nat → Nat) (t j : Nat) : IsSorted pri (cands k loc pri t j) (sorted k loc pri t j) := by
  have hp := List.mergeSort_perm (cands k loc pri t j) (fun a b => decide (rk pri b ≤ rk pri a))
  refine ⟨fun i => hp.mem_iff, ?_⟩
  have hs := List.pairwise_mergeSort (le := fun a b => decide (rk pri b ≤ rk pri a)) (by intro a b c; simp; omega) (by intro a b; simp; omega) (cands k loc pri t j)
  have hn : (sorted k loc pri t j).Nodup := hp.nodup_iff.2 (List.Pairwise.filter _ List.nodup_range)
  have hall : ∀ i ∈ sorted k loc pri t j, i < 6 := fun i hi => by
    have := (mem_cands.1 (hp.mem_iff.1 hi)).1; omega
  refine List.Pairwise.imp_of_mem ?_ (hs.and hn)
  rintro a b ha hb ⟨h1, h2⟩
  simp at h1
  have : rk pri b ≠ rk pri a := fun e => h2 (rk_inj (hall a ha) (hall b hb) e.symm)
  omega

theorem sorted_unique {pri : Nat → Nat} : ∀ {s s' : List Nat}, s.Pairwise (fun a b => rk pri b < rk pri a) → s'.Pairwise (fun a b => rk pri b < rk pri a) → (∀ i, i ∈ s ↔ i ∈ s') → s = s'
  | [], [], _, _, _ => rfl
  | [], b :: s', _, _, h => absurd ((h b).2 (by simp)) (by simp)
  | a :: s, [], _, _, h => absurd ((h a).1 (by simp)) (by simp)
  | a :: s, b :: s', h1, h2, h => by
    have p1 := List.pairwise_cons.1 h1
    have p2 := List.pairwise_cons.1 h2
    have eab : a = b := by
      have ha := (h a).1 (by simp)
      have hb := (h b).2 (by simp)
      rcases List.mem_cons.1 ha with e | ha'
      · exact e
      · rcases List.mem_cons.1 hb with e | hb'
        · exact e.symm
        · have := p1.1 b hb'
          have := p2.1 a ha'
          omega
    subst eab
    congr 1
    refine sorted_unique p1.2 p2.2 (fun i => ?_)
    constructor
    · intro hi
      have := (h i).1 (List.mem_cons_of_mem _ hi)
      rcases List.mem_cons.1 this with e | h'
      · subst e; have := p1.1 i hi; omega
      · exact h'
    · intro hi
      have := (h i).2 (List.mem_cons_of_mem _ hi)
      rcases List.mem_cons.1 this with e | h'
      · subst e; have := p2.1 i hi; omega
      · exact h'

/-- How many are halted, with v the room left: from the m-th on. -/
def haltM (wt : Nat → Nat) (t : Nat) : List Nat → Nat → Int → Option Nat
  | [], m, v => if 0 ≤ v - wt t then some m else none
  | q :: s, m, v => if 0 ≤ v - wt t then some m else haltM wt t s (m + 1) (v + wt q)

/-- The first node, of those on the list, where room can be made, and how many are halted there. -/
def groupM (wt : Nat → Nat) (t : Nat) (srt : Nat → List Nat) (room : Nat → Int) : List Nat → Option (Nat × Nat)
  | [] => none
  | j :: js => match haltM wt t (srt j) 0 (room j) with
    | some m => some (j, m)
    | none => groupM wt t srt room js

/-- The next to be halted, found by looking through the candidates. -/
theorem next_is {pri : Nat → Nat} {cs s : List Nat} (h : IsSorted pri cs s) (m : Nat) (nx : Option Nat)
    (h1 : nx = none → ∀ q ∈ cs, q ∈ s.take m) (h2 : ∀ q, nx = some q → q ∈ cs ∧ q ∉ s.take m ∧ ∀ q' ∈ cs, q' ∉ s.take m → rk pri q' ≤ rk pri q) : nx = s[m]? := by
  cases nx with
  | none =>
    have hall := h1 rfl
    by_cases hm : m < s.length
    · have hin : s[m] ∈ s.take m := hall _ ((h.mem _).1 (List.getElem_mem hm))
      obtain ⟨i, hi, e⟩ := List.getElem_of_mem hin
      simp only [List.length_take] at hi
      rw [List.getElem_take] at e
      have := (List.pairwise_iff_getElem.1 h.ord) i m (by omega) hm (by omega)
      rw [e] at this
      omega
    · rw [List.getElem?_eq_none (by omega)]
  | some q =>
    obtain ⟨a1, a2, a3⟩ := h2 q rfl
    obtain ⟨i, hi, e⟩ := List.getElem_of_mem ((h.mem q).2 a1)
    have him : m ≤ i := Nat.le_of_not_lt fun hlt => a2 (by
      rw [← e]
      exact List.mem_take_iff_getElem.2 ⟨i, by omega, rfl⟩)
    have hm : m < s.length := by omega
    have hmn : s[m] ∉ s.take m := fun hin => by
      obtain ⟨i', hi', e'⟩ := List.getElem_of_mem hin
      simp only [List.length_take] at hi'
      rw [List.getElem_take] at e'
      have := (List.pairwise_iff_getElem.1 h.ord) i' m (by omega) hm (by omega)
      rw [e'] at this
      omega
    have hle := a3 s[m] ((h.mem _).1 (List.getElem_mem hm)) hmn
    rw [List.getElem?_eq_getElem hm]
    rcases Nat.lt_or_eq_of_le him with hlt | heq
    · have := (List.pairwise_iff_getElem.1 h.ord) m i hm hi hlt
      rw [e] at this
      omega
    · subst heq; rw [e]

end Go.Proofs.Ybulkaibe
