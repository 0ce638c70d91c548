/-
  A REGION THAT DRAWS ITS ORDER, WHOSE LAST OPERATION WAITS FOR ALL OTHERS: the last operation may be split off.
-/
import Derived.Test.YbulkaibeSteps
namespace Go.Proofs.Ybulkaibe
open Go.RowKit Kit

section
variable {P : Program} {Q : Exit → Act → World → Prop} {md : Region.Mode}

/-- The post of all but the last: the last is still to be run. -/
def beforeLast (P : Program) (ops : Array Oper) (m : Nat) (Q : Exit → Act → World → Prop) : Exit → Act → World → Prop
  | .normal, a, w => wpOp P ops Q m (Q .normal) a w
  | e, a, w => Q e a w

theorem wp_before {ops : Array Oper} {m : Nat} {o : Oper} {a : Act} {w : World} {K : Act → World → Prop} (h : o.wp P a w K (beforeLast P ops m Q)) : o.wp P a w K Q := by
  unfold Oper.wp at *
  generalize (execOp a.eval o).run P w = r at *
  cases r with
  | ok n w' =>
    cases n <;> simp only [Oper.upon] at h ⊢ <;> first | exact h | exact Calls.mono h (fun e w'' he => by cases e <;> exact he)
  | halt x w' => cases x <;> simp only [Oper.upon] at h ⊢ <;> exact h

variable {ops : Array Oper} {last : Oper}

theorem getD_push (listed : Array Bool) (b : Bool) {i : Nat} (hi : i < listed.size) (d : Bool) : (listed.push b).getD i d = listed.getD i d := by
  simp [Array.getD, hi, Nat.lt_succ_of_lt hi, Array.getElem_push_lt hi]

theorem wpOp_on {i : Nat} (hi : i < ops.size) (hg : ∀ o, ops[i]? = some o → o.guard = none) {K : Act → World → Prop} {a : Act} {w : World}
    (h : wpOp P ops (beforeLast P (ops.push last) ops.size Q) i K a w) : wpOp P (ops.push last) Q i K a w := by
  unfold wpOp at *
  have e : (ops.push last)[i]? = ops[i]? := by rw [Array.getElem?_push_lt hi, Array.getElem?_eq_getElem hi]
  rw [e]
  rw [Array.getElem?_eq_getElem hi] at h ⊢
  have hgi := hg ops[i] (Array.getElem?_eq_getElem hi)
  simp only [Region.wanted, hgi, if_true] at h ⊢
  rcases h with h | ⟨h1, h2⟩
  · exact .inl (wp_before h)
  · exact .inr ⟨h1, h2⟩

/-- Nothing may come up: all have. -/
theorem all_listed (hord : ∀ (i : Nat) (o : Oper), ops[i]? = some o → ∀ e ∈ o.after, e.on < i) {listed : Array Bool} (hs : listed.size = ops.size) (hr : Region.ready md ops listed = []) : ∀ i, i < ops.size → listed.getD i true = true := by
  intro i
  induction i using Nat.strongRecOn with
  | _ i ih =>
    intro hi
    apply Classical.byContradiction
    intro hn
    have hn' : listed.getD i true = false := by simpa using hn
    have hm : i ∈ Region.ready md ops listed := by
      unfold Region.ready
      rw [List.mem_filter]
      refine ⟨List.mem_range.2 hi, ?_⟩
      rw [hn', Array.getElem?_eq_getElem hi]
      simp only [Bool.not_false, Bool.true_and, Option.map_some, Option.getD_some]
      rw [Array.all_eq_true_iff_forall_mem]
      intro e he
      have hlt := hord i ops[i] (Array.getElem?_eq_getElem hi) e (by simpa using he)
      have := ih e.on hlt (by omega)
      have hsz : e.on < listed.size := by omega
      have e2 : listed.getD e.on false = listed.getD e.on true := by simp [Array.getD, hsz]
      rw [e2, this]; simp
    rw [hr] at hm
    cases hm

theorem ready_push {listed : Array Bool} (hs : listed.size = ops.size) (b : Bool) {i : Nat} (hi : i < ops.size) : i ∈ Region.ready md (ops.push last) (listed.push b) → (∀ e ∈ (ops[i]).after, e.on < ops.size) → i ∈ Region.ready md ops listed := by
  intro h hlt
  unfold Region.ready at *
  rw [List.mem_filter] at *
  refine ⟨List.mem_range.2 hi, ?_⟩
  have h2 := h.2
  rw [getD_push listed b (by omega), Array.getElem?_push_lt hi] at h2
  rw [Array.getElem?_eq_getElem hi]
  simp only [Option.map_some, Option.getD_some, Bool.and_eq_true] at h2 ⊢
  refine ⟨h2.1, ?_⟩
  rw [Array.all_eq_true_iff_forall_mem] at *
  intro e he
  have := h2.2 e he
  rw [getD_push listed b (by have := hlt e he; omega)] at this
  exact this

theorem ready_pushed {listed : Array Bool} (hs : listed.size = ops.size) (b : Bool) {i : Nat} (h : i ∈ Region.ready md ops listed) (hlt : ∀ o, ops[i]? = some o → ∀ e ∈ o.after, e.on < ops.size) : i ∈ Region.ready md (ops.push last) (listed.push b) := by
  unfold Region.ready at *
  rw [List.mem_filter] at *
  have hi := List.mem_range.1 h.1
  refine ⟨List.mem_range.2 (by simp; omega), ?_⟩
  have h2 := h.2
  rw [getD_push listed b (by omega), Array.getElem?_push_lt hi]
  rw [Array.getElem?_eq_getElem hi] at h2
  simp only [Option.map_some, Option.getD_some, Bool.and_eq_true] at h2 ⊢
  refine ⟨h2.1, ?_⟩
  have h3 := h2.2
  rw [Array.all_eq_true_iff_forall_mem] at *
  intro e he
  rw [getD_push listed b (by have := hlt ops[i] (Array.getElem?_eq_getElem hi) e he; omega)]
  exact h3 e he

/-- What has come up has come up behind all that it waits for. -/
def Closed (md : Region.Mode) (ops : Array Oper) (listed : Array Bool) : Prop := ∀ (i : Nat) (o : Oper), ops[i]? = some o → listed.getD i false = true → ∀ e ∈ o.after, Region.binds md e = true → listed.getD e.on false = true

theorem getD_set (listed : Array Bool) (i j : Nat) (d : Bool) (hj : j < listed.size) : (listed.setIfInBounds i true).getD j d = if i = j then true else listed.getD j d := by
  simp only [Array.getD, Array.size_setIfInBounds, hj, dif_pos, Array.getInternal_eq_getElem]
  rw [Array.getElem_setIfInBounds]

theorem Closed.step {listed : Array Bool} (hc : Closed md ops listed) (hs : listed.size = ops.size) {i : Nat} (hi : i ∈ Region.ready md ops listed) (hin : ∀ (i : Nat) (o : Oper), ops[i]? = some o → ∀ e ∈ o.after, e.on < i) : Closed md ops (listed.setIfInBounds i true) := by
  intro j o ho hl e he hb
  have hjl : j < ops.size := (Array.getElem?_eq_some_iff.1 ho).1
  have hel := hin j o ho e he
  rw [getD_set _ _ _ _ (by omega)] at hl ⊢
  split
  · rfl
  · by_cases hij : i = j
    · subst hij
      have h1 := (List.mem_filter.1 hi).2
      rw [ho] at h1
      simp only [Option.map_some, Option.getD_some, Bool.and_eq_true, Array.all_eq_true_iff_forall_mem] at h1
      have := h1.2 e he
      rw [hb] at this
      simpa using this
    · rw [if_neg hij] at hl
      exact hc j o ho hl e he hb

theorem closed_all {listed : Array Bool} (hc : Closed md ops listed) (hlast : ∀ e ∈ last.after, Region.binds md e = true → listed.getD e.on false = true)
    (hwait : ∀ i, i < ops.size → (∃ e ∈ last.after, Region.binds md e = true ∧ e.on = i) ∨ ∃ j o, i < j ∧ ops[j]? = some o ∧ ∃ e ∈ o.after, Region.binds md e = true ∧ e.on = i) : ∀ d i, i < ops.size → ops.size - i ≤ d → listed.getD i false = true := by
  intro d
  induction d with
  | zero => intro i hi hd; omega
  | succ d ih =>
    intro i hi hd
    rcases hwait i hi with ⟨e, he, hb, rfl⟩ | ⟨j, o, hij, ho, e, he, hb, rfl⟩
    · exact hlast e he hb
    · have hjl : j < ops.size := (Array.getElem?_eq_some_iff.1 ho).1
      exact hc j o ho (ih j hjl (by omega)) e he hb

theorem wpAny_last (hord : ∀ (i : Nat) (o : Oper), ops[i]? = some o → ∀ e ∈ o.after, e.on < i) (hg : ∀ (i : Nat) (o : Oper), ops[i]? = some o → o.guard = none) (hwait : ∀ i, i < ops.size → (∃ e ∈ last.after, Region.binds md e = true ∧ e.on = i) ∨ ∃ j o, i < j ∧ ops[j]? = some o ∧ ∃ e ∈ o.after, Region.binds md e = true ∧ e.on = i) (hin : ∀ e ∈ last.after, e.on < ops.size) :
    ∀ (n : Nat) (listed : Array Bool) (a : Act) (w : World), listed.size = ops.size → Closed md ops listed → wpAny P md ops (beforeLast P (ops.push last) ops.size Q) n listed a w → wpAny P md (ops.push last) Q (n + 1) (listed.push false) a w := by
  -- when all have come up: the last alone
  have tail : ∀ (n : Nat) (listed : Array Bool) (a : Act) (w : World), listed.size = ops.size → (∀ i, i < ops.size → listed.getD i true = true) → beforeLast P (ops.push last) ops.size Q .normal a w → wpAny P md (ops.push last) Q (n + 1) (listed.push false) a w := by
    intro n listed a w hs hall hq
    have mem : ∀ i, i ∈ Region.ready md (ops.push last) (listed.push false) → i = ops.size := fun i hi => by
      have h1 := (List.mem_filter.1 hi)
      have hlt := List.mem_range.1 h1.1
      simp only [Array.size_push] at hlt
      apply Classical.byContradiction
      intro hne
      have hi' : i < ops.size := by omega
      have h2 := h1.2
      rw [getD_push listed false (by omega), hall i hi'] at h2
      simp at h2
    have done : Region.ready md (ops.push last) ((listed.push false).setIfInBounds ops.size true) = [] := by
      apply List.eq_nil_iff_forall_not_mem.2
      intro i hi
      have h1 := (List.mem_filter.1 hi)
      have hlt := List.mem_range.1 h1.1
      simp only [Array.size_push] at hlt
      have h2 := h1.2
      have e : (listed.push false).setIfInBounds ops.size true = listed.push true := by
        rw [← hs]
        apply Array.toList_inj.1
        simp
      rw [e] at h2
      by_cases hi' : i < ops.size
      · rw [getD_push listed true (by omega), hall i hi'] at h2; simp at h2
      · have : i = listed.size := by omega
        subst this
        simp [Array.getD] at h2
    refine ⟨fun hr => ?_, fun i hi => ?_⟩
    · exfalso
      have hm : ops.size ∈ Region.ready md (ops.push last) (listed.push false) := by
        unfold Region.ready
        rw [List.mem_filter]
        refine ⟨List.mem_range.2 (by simp), ?_⟩
        have e1 : (listed.push false).getD ops.size true = false := by rw [← hs]; simp [Array.getD]
        rw [e1, Array.getElem?_push_size]
        simp only [Bool.not_false, Bool.true_and, Option.map_some, Option.getD_some]
        rw [Array.all_eq_true_iff_forall_mem]
        intro e he
        have hlt := hin e he
        have hsz : e.on < listed.size := by omega
        have e2 : listed.getD e.on false = listed.getD e.on true := by simp [Array.getD, hsz]
        rw [getD_push listed false hsz, e2, hall e.on hlt]; simp
      rw [hr] at hm; cases hm
    · have := mem i hi
      subst this
      refine wpOp_mono (fun a' w' h' => ?_) hq
      cases n with
      | zero => exact ⟨done, h'⟩
      | succ n => exact ⟨fun _ => h', fun j hj => by rw [done] at hj; cases hj⟩
  intro n
  induction n with
  | zero =>
    intro listed a w hs _ h
    exact tail 0 listed a w hs (all_listed hord hs h.1) h.2
  | succ n ih =>
    intro listed a w hs hcl h
    by_cases hr : Region.ready md ops listed = []
    · exact tail (n + 1) listed a w hs (all_listed hord hs hr) (h.1 hr)
    · have key : ∀ i ∈ Region.ready md (ops.push last) (listed.push false), i < ops.size ∧ i ∈ Region.ready md ops listed := fun i hi => by
        have h1 := (List.mem_filter.1 hi)
        have hlt := List.mem_range.1 h1.1
        simp only [Array.size_push] at hlt
        by_cases hi' : i < ops.size
        · exact ⟨hi', ready_push hs false hi' hi (fun e he => by have := hord i ops[i] (Array.getElem?_eq_getElem hi') e he; omega)⟩
        · exfalso
          have hie : i = ops.size := by omega
          subst hie
          have h2 := h1.2
          rw [Array.getElem?_push_size] at h2
          simp only [Option.map_some, Option.getD_some, Bool.and_eq_true] at h2
          have h3 := h2.2
          rw [Array.all_eq_true_iff_forall_mem] at h3
          apply hr
          apply List.eq_nil_iff_forall_not_mem.2
          intro j hj
          have j1 := (List.mem_filter.1 hj)
          have hjl := List.mem_range.1 j1.1
          have hlast : ∀ e ∈ last.after, Region.binds md e = true → listed.getD e.on false = true := fun e he hb => by
            have := h3 e he
            rw [hb] at this
            simp only [Bool.not_true, Bool.false_or] at this
            rw [getD_push listed false (by have := hin e he; omega)] at this
            exact this
          have this := closed_all hcl hlast hwait ops.size j hjl (by omega)
          have j2 := j1.2
          have hsz : j < listed.size := by omega
          have e2 : listed.getD j true = listed.getD j false := by simp [Array.getD, hsz]
          rw [e2, this] at j2
          simp at j2
      refine ⟨fun hr' => ?_, fun i hi => ?_⟩
      · exfalso
        cases hc : Region.ready md ops listed with
        | nil => exact hr hc
        | cons i l =>
          have him : i ∈ Region.ready md ops listed := by rw [hc]; simp
          have hil : i < ops.size := List.mem_range.1 (List.mem_filter.1 him).1
          have := ready_pushed (last := last) hs false him (fun o ho e he => by have := hord i o ho e he; omega)
          rw [hr'] at this
          cases this
      · obtain ⟨hi', him⟩ := key i hi
        refine wpOp_on hi' (hg i) (wpOp_mono (fun a' w' h' => ?_) (h.2 i him))
        have e : (listed.push false).setIfInBounds i true = (listed.setIfInBounds i true).push false := by
          apply Array.toList_inj.1
          simp [hs, hi']
        rw [e]
        exact ih _ a' w' (by simp [hs]) (hcl.step hs him hord) h'
/-- The region, by all but its last operation. -/
theorem wp_region_last {S : World → Prop} {id : Nat} {a : Act} {w : World} (hm : P.follows .mixedOrders = true) (hord : ∀ (i : Nat) (o : Oper), ops[i]? = some o → ∀ e ∈ o.after, e.on < i) (hg : ∀ (i : Nat) (o : Oper), ops[i]? = some o → o.guard = none)
    (hwait : ∀ i, i < ops.size → (∃ e ∈ last.after, Region.binds .any e = true ∧ e.on = i) ∨ ∃ j o, i < j ∧ ops[j]? = some o ∧ ∃ e ∈ o.after, Region.binds .any e = true ∧ e.on = i) (hin : ∀ e ∈ last.after, e.on < ops.size)
    (h : wpAnyH P .any ops (beforeLast P (ops.push last) ops.size Q) S ops.size (Array.replicate ops.size false) a w.drew) : (Code.region id (ops.push last) true).wp P Q a w := by
  refine wp_region_any hm ?_
  have h1 := wpAny_last hord hg hwait hin ops.size (Array.replicate ops.size false) a w.drew (by simp) (fun i o ho hl => by have hi := (Array.getElem?_eq_some_iff.1 ho).1; simp [Array.getD, hi] at hl) (wpAny_of_held _ _ _ _ h)
  have e1 : (ops.push last).size = ops.size + 1 := by simp
  have e2 : Array.replicate (ops.size + 1) false = (Array.replicate ops.size false).push false := by
    apply Array.toList_inj.1
    simp [List.replicate_succ']
  rw [e1, e2]
  exact h1
end

/-- The conditions, to be reckoned by the kernel. -/
def lastOk (ops : Array Oper) (last : Oper) : Bool :=
  (List.range ops.size).all (fun i => match ops[i]? with
    | some o => o.guard.isNone && o.after.all (fun e => decide (e.on < i))
    | none => false) &&
  (List.range ops.size).all (fun i => last.after.any (fun e => Region.binds .any e && e.on == i) || (List.range ops.size).any (fun j => decide (i < j) && match ops[j]? with | some o => o.after.any (fun e => Region.binds .any e && e.on == i) | none => false)) && last.after.all (fun e => decide (e.on < ops.size))

theorem wp_region_lastOk {P : Program} {Q : Exit → Act → World → Prop} {F ops : Array Oper} {last : Oper} (S : World → Prop) {id : Nat} {a : Act} {w : World} (hm : P.follows .mixedOrders = true) (hF : F = ops.push last) (hok : lastOk ops last = true)
    (h : wpAnyH P .any ops (beforeLast P (ops.push last) ops.size Q) S ops.size (Array.replicate ops.size false) a w.drew) : (Code.region id F true).wp P Q a w := by
  subst hF
  unfold lastOk at hok
  simp only [Bool.and_eq_true, List.all_eq_true, List.mem_range, Array.all_eq_true_iff_forall_mem, decide_eq_true_iff] at hok
  obtain ⟨⟨h1, h2⟩, h3⟩ := hok
  have get : ∀ (i : Nat) (o : Oper), ops[i]? = some o → o.guard.isNone = true ∧ ∀ e ∈ o.after, e.on < i := fun i o ho => by
    have hi := (Array.getElem?_eq_some_iff.1 ho).1
    have := h1 i hi
    rw [ho] at this
    simp only [Bool.and_eq_true, Array.all_eq_true_iff_forall_mem, decide_eq_true_iff] at this
    exact this
  refine wp_region_last hm (fun i o ho => (get i o ho).2) (fun i o ho => by simpa using (get i o ho).1) (fun i hi => ?_) h3 h
  have := h2 i hi
  simp only [Bool.or_eq_true, List.any_eq_true, List.mem_range, Bool.and_eq_true, decide_eq_true_iff] at this
  rcases this with this | ⟨j, hj, hij, hm'⟩
  · left
    rw [Array.any_eq_true'] at this
    obtain ⟨e, he, hb⟩ := this
    simp only [Bool.and_eq_true, beq_iff_eq] at hb
    exact ⟨e, he, hb.1, hb.2⟩
  · right
    cases ho : ops[j]? with
    | none => rw [ho] at hm'; cases hm'
    | some o =>
      rw [ho] at hm'
      simp only at hm'
      rw [Array.any_eq_true'] at hm'
      obtain ⟨e, he, hb⟩ := hm'
      simp only [Bool.and_eq_true, beq_iff_eq] at hb
      exact ⟨j, o, hij, ho, e, he, hb.1, hb.2⟩

theorem wp_region_pop {P : Program} {Q : Exit → Act → World → Prop} {F : Array Oper} {last : Oper} (S : World → Prop) {id : Nat} {a : Act} {w : World} (hm : P.follows .mixedOrders = true) (hl : F.back? = some last) (hok : lastOk F.pop last = true)
    (h : wpAnyH P .any F.pop (beforeLast P F (F.size - 1) Q) S (F.size - 1) (Array.replicate (F.size - 1) false) a w.drew) : (Code.region id F true).wp P Q a w := by
  have hF : F = F.pop.push last := by
    obtain ⟨l⟩ := F
    simp only [List.back?_toArray] at hl
    apply Array.toList_inj.1
    simp only [List.pop_toArray, List.push_toArray]
    obtain ⟨ys, rfl⟩ := List.getLast?_eq_some_iff.1 hl
    simp
  have hs : F.size - 1 = F.pop.size := by simp
  refine wp_region_lastOk S hm hF hok ?_
  rw [← hF, ← hs]
  exact h

end Go.Proofs.Ybulkaibe
