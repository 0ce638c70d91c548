/-
  THE PLAIN SIDE of the law's own sorting, and what the law wants.
-/
import Derived.Test.YbulkaibeGroup
namespace Go.Proofs.Ybulkaibe
open Kit

/-- n places of f hold the list cs, each once. -/
structure Bij (cs : List Nat) (n : Nat) (f : Nat → Nat) : Prop where
  mem : ∀ q, q < n → f q ∈ cs
  all : ∀ i, i ∈ cs → ∃ q, q < n ∧ f q = i
  inj : ∀ p q, p < n → q < n → f p = f q → p = q

/-- Places b and b + 1 are swapped. -/
def swp (f : Nat → Nat) (b : Nat) : Nat → Nat := fun q => if q = b then f (b + 1) else if q = b + 1 then f b else f q

theorem Bij.swap {cs : List Nat} {n : Nat} {f : Nat → Nat} (h : Bij cs n f) {b : Nat} (hb : b + 1 < n) : Bij cs n (swp f b) := by
  refine ⟨fun q hq => ?_, fun i hi => ?_, fun p q hp hq e => ?_⟩
  · unfold swp
    split
    · exact h.mem _ hb
    · split
      · exact h.mem _ (by omega)
      · exact h.mem _ hq
  · obtain ⟨q, hq, e⟩ := h.all i hi
    by_cases h1 : q = b
    · exact ⟨b + 1, hb, by simp [swp]; rw [← h1]; exact e⟩
    · by_cases h2 : q = b + 1
      · exact ⟨b, by omega, by simp [swp]; rw [← h2]; exact e⟩
      · exact ⟨q, hq, by simp [swp, h1, h2]; exact e⟩
  · have key : ∀ q, swp f b q = f (if q = b then b + 1 else if q = b + 1 then b else q) := fun q => by
      unfold swp; split
      · rfl
      · split <;> rfl
    rw [key, key] at e
    have := h.inj _ _ (by split <;> (try split) <;> omega) (by split <;> (try split) <;> omega) e
    revert this
    split <;> split <;> (try split) <;> (try split) <;> omega

def Ord (pri : Nat → Nat) (f : Nat → Nat) (a : Nat) : Prop := ∀ p q, p < q → q < a → rk pri (f q) < rk pri (f p)
def Ins (pri : Nat → Nat) (f : Nat → Nat) (a b : Nat) : Prop := ∀ p q, p < q → q ≤ a → q ≠ b → rk pri (f q) < rk pri (f p)

section
variable {pri f : Nat → Nat} {a b n : Nat} {cs : List Nat}
theorem Ord.ins (h : Ord pri f a) : Ins pri f a a := fun p q hp hq hn => h p q hp (by omega)
theorem Ins.step (h : Ins pri f a (b + 1)) (hba : b + 1 ≤ a) (hlt : rk pri (f b) < rk pri (f (b + 1))) : Ins pri (swp f b) a b := by
  intro p q hpq hqa hqb
  by_cases h1 : q = b + 1
  · subst h1
    have e : swp f b (b + 1) = f b := by simp [swp]
    rw [e]
    by_cases h2 : p = b
    · subst h2
      have e : swp f p p = f (p + 1) := by simp [swp]
      rw [e]; exact hlt
    · have e : swp f b p = f p := by simp [swp, h2]; omega
      rw [e]
      exact h p b (by omega) (by omega) (by omega)
  · have e : swp f b q = f q := by simp [swp, h1, hqb]
    rw [e]
    by_cases h2 : p = b
    · subst h2
      have e : swp f p p = f (p + 1) := by simp [swp]
      rw [e]
      exact h (p + 1) q (by omega) hqa h1
    · by_cases h3 : p = b + 1
      · subst h3
        have e : swp f b (b + 1) = f b := by simp [swp]
        rw [e]
        exact h b q (by omega) hqa h1
      · have e : swp f b p = f p := by simp [swp, h2, h3]
        rw [e]
        exact h p q hpq hqa h1
theorem Ins.done0 (h : Ins pri f a 0) : Ord pri f (a + 1) := fun p q hp hq => h p q hp (by omega) (by omega)
theorem Ins.done (h : Ins pri f a (b + 1)) (hb : Bij cs n f) (hcs : ∀ i ∈ cs, i < 6) (hba : b + 1 ≤ a) (han : a < n) (hnl : ¬ rk pri (f b) < rk pri (f (b + 1))) : Ord pri f (a + 1) := by
  intro p q hp hq
  by_cases h1 : q = b + 1
  · subst h1
    have hne : rk pri (f (b + 1)) ≠ rk pri (f b) := fun e => by
      have := hb.inj (b + 1) b (by omega) (by omega) (rk_inj (hcs _ (hb.mem _ (by omega))) (hcs _ (hb.mem _ (by omega))) e)
      omega
    by_cases h2 : p = b
    · subst h2; omega
    · have := h p b (by omega) (by omega) (by omega)
      omega
  · exact h p q hp (by omega) h1
end

/-- What is sorted is the sorted list. -/
theorem sorted_of {k : Nat} (hk : k ≤ 6) {loc : Nat → Option Nat} {pri : Nat → Nat} {t j n : Nat} {f : Nat → Nat} (hb : Bij (cands k loc pri t j) n f) (ho : Ord pri f n) : sorted k loc pri t j = (List.range n).map f := by
  have hs := sorted_is hk loc pri t j
  refine sorted_unique hs.ord ?_ (fun i => ?_)
  · rw [List.pairwise_map]
    refine List.Pairwise.imp_of_mem ?_ (List.pairwise_lt_range (n := n))
    intro a b ha hb' hab
    exact ho a b hab (List.mem_range.1 hb')
  · rw [hs.mem i, List.mem_map]
    constructor
    · intro hi
      obtain ⟨q, hq, e⟩ := hb.all i hi
      exact ⟨q, List.mem_range.2 hq, e⟩
    · rintro ⟨q, hq, rfl⟩
      exact hb.mem q (List.mem_range.1 hq)

theorem cands_le (i : Nat) (loc : Nat → Option Nat) (pri : Nat → Nat) (t j : Nat) : (cands i loc pri t j).length ≤ i := Nat.le_trans (List.length_filter_le _ _) (by simp)
theorem cands_bij (k : Nat) (loc : Nat → Option Nat) (pri : Nat → Nat) (t j : Nat) : Bij (cands k loc pri t j) (cands k loc pri t j).length (fun q => (cands k loc pri t j).getD q 0) := by
  have e : ∀ q, (hq : q < (cands k loc pri t j).length) → (cands k loc pri t j).getD q 0 = (cands k loc pri t j)[q] := fun q hq => by rw [List.getD, List.getElem?_eq_getElem hq]; rfl
  have hn : (cands k loc pri t j).Nodup := List.Pairwise.filter _ List.nodup_range
  refine ⟨fun q hq => ?_, fun i hi => ?_, fun p q hp' hq' h => ?_⟩
  · rw [e q hq]; exact List.getElem_mem hq
  · obtain ⟨q, hq, h⟩ := List.getElem_of_mem hi
    exact ⟨q, hq, by rw [e q hq]; exact h⟩
  · simp only [e p hp', e q hq'] at h
    exact (List.nodup_iff_pairwise_ne.1 hn |> fun hp => Classical.byContradiction fun hne => by
      rcases Nat.lt_or_gt_of_ne hne with hlt | hlt
      · exact (List.pairwise_iff_getElem.1 hp) p q hp' hq' hlt h
      · exact (List.pairwise_iff_getElem.1 hp) q p hq' hp' hlt h.symm)

theorem haltM_yes {wt : Nat → Nat} {t m : Nat} {v : Int} {s : List Nat} (h : 0 ≤ v - wt t) : haltM wt t s m v = some m := by
  cases s <;> simp only [haltM] <;> rw [if_pos h]
theorem haltM_no {wt : Nat → Nat} {t m : Nat} {v : Int} (h : ¬ 0 ≤ v - wt t) : haltM wt t [] m v = none := by
  simp only [haltM]; rw [if_neg h]
theorem haltM_next {wt : Nat → Nat} {t m q : Nat} {v : Int} {s : List Nat} (h : ¬ 0 ≤ v - wt t) : haltM wt t (q :: s) m v = haltM wt t s (m + 1) (v + wt q) := by
  simp only [haltM]; rw [if_neg h]

/-- What comes out: where the group goes, and how many are halted there. -/
def outM (A : Ad) (loc : Nat → Option Nat) (room cnt : Nat → Int) (mn : Bool) (t : Nat) (idx : List Nat) : Option (Nat × Nat) :=
  match pickM mn (fitsB A room t) cnt none idx with
  | some j => some (j, 0)
  | none => groupM A.wt t (sorted A.k loc A.pri t) room idx

theorem grp_off {A : Ad} {loc : Nat → Option Nat} {room cnt : Nat → Int} {N : Nat} {mn : Bool} {t : Nat} {idx : List Nat} {e : Ending} {w' : World} (h : Grp A loc room cnt N mn t idx e w') (ho : outM A loc room cnt mn t idx = none) :
    e = .returned (.tuple #[.slice none 0 0, .bool false]) ∧ Pln A w' loc room cnt N := by
  unfold outM at ho
  cases hp : pickM mn (fitsB A room t) cnt none idx with
  | some j => rw [hp] at ho; cases ho
  | none => rw [hp] at ho; exact h.none hp ho
theorem grp_on {A : Ad} {loc : Nat → Option Nat} {room cnt : Nat → Int} {N : Nat} {mn : Bool} {t : Nat} {idx : List Nat} {e : Ending} {w' : World} (h : Grp A loc room cnt N mn t idx e w') {j m : Nat} (ho : outM A loc room cnt mn t idx = some (j, m)) :
    ∃ a c, e = .returned (.tuple #[.slice a m c, .bool true]) ∧ m ≤ (sorted A.k loc A.pri t j).length ∧ (0 < m → ∃ b, a = some ⟨b, 0, none⟩ ∧ ∀ i, i < m → w'.cell? ⟨b, i, none⟩ = some (ptr (A.pb ((sorted A.k loc A.pri t j).getD i 0)))) ∧
      Pln A w' (updF (locR (sorted A.k loc A.pri t j) loc m) t (some j)) (updF (roomR A.wt (sorted A.k loc A.pri t j) j room m) j (roomR A.wt (sorted A.k loc A.pri t j) j room m j - A.wt t)) (updF (cntR j cnt m) j (cntR j cnt m j + 1)) (N + m + 1) := by
  unfold outM at ho
  cases hp : pickM mn (fitsB A room t) cnt none idx with
  | some j' =>
    rw [hp] at ho
    cases ho
    obtain ⟨he, hpl⟩ := h.picked _ hp
    exact ⟨none, 0, he, Nat.zero_le _, fun h => absurd h (by omega), hpl⟩
  | none => rw [hp] at ho; exact h.made j m hp ho
theorem groupM_le {wt : Nat → Nat} {t : Nat} {srt : Nat → List Nat} {room : Nat → Int} : ∀ {idx : List Nat} {j m : Nat}, (∀ q ∈ idx, q < 3) → groupM wt t srt room idx = some (j, m) → j < 3
  | [], j, m, _, h => by cases h
  | x :: xs, j, m, hi, h => by
    simp only [groupM] at h
    split at h
    · cases h; exact hi _ (by simp)
    · exact groupM_le (fun q hq => hi q (List.mem_cons_of_mem _ hq)) h
theorem outM_lt {A : Ad} {loc : Nat → Option Nat} {room cnt : Nat → Int} {mn : Bool} {t : Nat} {idx : List Nat} (hi : ∀ q ∈ idx, q < 3) {j m : Nat} (ho : outM A loc room cnt mn t idx = some (j, m)) : j < 3 := by
  unfold outM at ho
  cases hp : pickM mn (fitsB A room t) cnt none idx with
  | some j' => rw [hp] at ho; cases ho; exact pickM_lt (by simp) hi hp
  | none => rw [hp] at ho; exact groupM_le hi ho

end Go.Proofs.Ybulkaibe
