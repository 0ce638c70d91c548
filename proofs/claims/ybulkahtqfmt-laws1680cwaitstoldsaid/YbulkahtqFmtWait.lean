/-
  THE WALK of waitgraph's 'Wait', in terms of names.
-/
import Derived.Test.YbulkahtqFmtSet
namespace Go.Proofs.YbulkahtqFmt
open Go.RowKit Go.WideMaps Go.Maps Kit

/-- THE GRAPH, BY NAMES: the process named x waits on L x; all of K are known. -/
structure GS (base : Nat) (w : World) (R : Nat → Role) (g : Nat) (L : ByteArray → List ByteArray) (K : ByteArray → Prop) (N : Nat) : Prop where
  ex : ∃ pm wm T W E nm pf, Lay base w R g pm wm T W E nm pf N ∧ Inv T W E ∧ (∀ p, (T p).length ≤ 1024) ∧ (∀ p, R p = .proc → (T p).map nm = L (nm p)) ∧ (∀ x, pf (keyL x) = none → L x = [] ∧ ¬ K x)

def updL (L : ByteArray → List ByteArray) (x : ByteArray) (xs : List ByteArray) : ByteArray → List ByteArray := fun y => if y = x then xs else L y

set_option maxHeartbeats 400000 in
theorem waiting_any (p n : Nat) (a : Option Addr) (c : Nat) (w : World) (h2 : w.cell? ⟨p, 2, none⟩ = some (.slice a n c)) :
    Calls Ybaf.prog 55 #[ptr p] w fun e w' => e = .returned (.bool (decide (0 < n))) ∧ w' = w := by
  by_cases hn : n = 0
  · subst hn
    go_enter Ybaf.func55, Ybaf.ntmps55
    go_wp2
    go_ret
    exact ⟨rfl, rfl⟩
  · have : 0 < n := by omega
    go_enter Ybaf.func55, Ybaf.ntmps55
    go_wp2
    go_ret
    exact ⟨by simp [this], rfl⟩

theorem Lay.uniq {base : Nat} {w : World} {R : Nat → Role} {g pm wm : Nat} {T W : Nat → List Nat} {E : Nat × Nat → Option Nat} {nm : Nat → ByteArray} {pf : Lit → Option Value} {N : Nat} (h : Lay base w R g pm wm T W E nm pf N) {p p' : Nat} (hp : R p = .proc) (hp' : R p' = .proc) (e : nm p = nm p') : p = p' := by
  have h1 := (h.pf1 p hp).2
  rw [e, (h.pf1 p' hp').2] at h1
  simp at h1
  exact h1.symm

/-- What the names say, carried over to a later state. -/
theorem names_on {base : Nat} {w w' : World} {R R' : Nat → Role} {g pm wm : Nat} {T W W' : Nat → List Nat} {E E' : Nat × Nat → Option Nat} {nm nm' : Nat → ByteArray} {pf pf' : Lit → Option Value} {N N' : Nat} {T' : Nat → List Nat} {L : ByteArray → List ByteArray} {K : ByteArray → Prop}
    (h : Lay base w R g pm wm T W E nm pf N) (hI : Inv T W E) (h' : Lay base w' R' g pm wm T' W' E' nm' pf' N') (hpr : ∀ k, R k = .proc → R' k = .proc) (hnm : ∀ k, R k = .proc → nm' k = nm k)
    (hTL : ∀ p, R p = .proc → (T p).map nm = L (nm p)) (hpf : ∀ x, pf (keyL x) = none → L x = [] ∧ ¬ K x) :
    (∀ p, R' p = .proc → (T p).map nm' = L (nm' p)) ∧ (∀ y, pf' (keyL y) = none → L y = [] ∧ ¬ K y) := by
  have old : ∀ {y : ByteArray} {v : Value}, pf (keyL y) = some v → ∃ p, R p = .proc ∧ nm' p = y := fun {y v} hv => by
    obtain ⟨p, _, e2, e3⟩ := h.pf2 y v hv
    exact ⟨p, e2, (hnm p e2).trans e3⟩
  refine ⟨fun p hp => ?_, fun y hy => ?_⟩
  · by_cases hR : R p = .proc
    · rw [hnm p hR, ← hTL p hR]
      refine List.map_congr_left (fun t ht => hnm t ?_)
      exact Classical.byContradiction fun e => by
        have := (hI.b p t).1 ht
        rw [(h.out t e).2] at this
        simp at this
    · rw [(h.out p hR).1]
      have : pf (keyL (nm' p)) = none := by
        cases hv : pf (keyL (nm' p)) with
        | none => rfl
        | some v =>
          obtain ⟨p0, e1, e2⟩ := old hv
          have := h'.uniq (hpr p0 e1) hp e2
          rw [this] at e1
          exact absurd e1 hR
      rw [(hpf _ this).1]; rfl
  · refine hpf y ?_
    cases hv : pf (keyL y) with
    | none => rfl
    | some v =>
      obtain ⟨p0, e1, e2⟩ := old hv
      have := (h'.pf1 p0 (hpr p0 e1)).2
      rw [e2, hy] at this; cases this

section
variable {base : Nat} {R : Nat → Role} {g : Nat} {L : ByteArray → List ByteArray} {K : ByteArray → Prop} {N : Nat}

set_option maxHeartbeats 4000000 in
theorem wait_is (w : World) (h : GS base w R g L K N) (hN : N ≤ 40000000) (x : ByteArray) (hx : x.size ≤ maxLen) (a0 : Option Addr) (n0 c0 : Nat) (xs : List ByteArray) (hxs : xs.length = n0) (hn0 : n0 ≤ 1024) (hnd : xs.Nodup) (hsz : ∀ y ∈ xs, y.size ≤ maxLen)
    (hrow : 0 < n0 → ∃ b off, a0 = some ⟨b, off, none⟩ ∧ R b = .other ∧ ∀ i, i < n0 → w.cell? ⟨b, off + i, none⟩ = some (.string (xs.getD i ByteArray.empty))) :
    Calls Ybaf.prog 53 #[ptr g, .string x, .string x, .slice a0 n0 c0] w fun e w' => e = .returned (.tuple #[.bool (decide (0 < (L x).length)), .nilIface]) ∧ ∃ R', GS base w' R' g (updL L x xs) (fun y => y = x ∨ K y) (N + 8000) ∧ Fr R R' w w' := by
  obtain ⟨pm, wm, T, W, E, nm, pf, hL, hI, hT1, hTL, hpf⟩ := h.ex
  go_enter Ybaf.func53, Ybaf.ntmps53
  go_wp2_with fail
  refine (process_is w hL (by omega) x hx).mono ?_
  rintro e w1 ⟨q, R1, nm1, pf1, rfl, hq1, hn1, ho1, hL1, hF1⟩
  obtain ⟨s, tv, wv, noted, hb, hs, hT, hW⟩ := (hL1.pr q hq1).ex
  obtain ⟨a2, c2, rfl⟩ := own_slice hT.own
  have q1 := cell_of_blk hb (i := 1) rfl
  have q1f := frozen_of_blk hb 1
  have hL2 := hL1.setSite hq1
  rw [hn1] at hL2 hs
  obtain ⟨m, hm⟩ : ∃ m, m = (T q).length := ⟨_, rfl⟩
  have hb2 := set_blk (i := 1) hb (.string x)
  rw [← hm] at hb hb2
  have q2 := cell_of_blk hb2 (i := 2) rfl
  obtain ⟨hN1, hN2⟩ := names_on hL hI hL1 hF1.prc ho1 hTL hpf
  have hmL : m = (L x).length := by
    have := hN1 q hq1
    rw [hn1] at this
    rw [hm, ← this]; simp
  have HM := hide hm
  have HML := hide hmL
  clear hm hb2 hmL
  have hs2 : s.toList = [] ∨ (x = s ∧ ¬ x.toList = []) := by
    by_cases e : s.toList = []
    · exact .inl e
    · rcases hs with rfl | rfl
      · exact .inl (by simp)
      · exact .inr ⟨rfl, e⟩
  have hF2 : Fr R R1 w (w1.setCell ⟨q, 1, none⟩ (.string x)) := hF1.trans ⟨rfl, rfl, rfl, by rw [set_size]; exact Nat.le_refl _, fun k _ e => ⟨e, set_other _ _ (fun e' => by rw [e', hq1] at e; cases e)⟩, fun _ e => e⟩
  have H2 := hide (And.intro hL2 hF2)
  clear hL2 hF2 hL1 hF1 hb hs hT hW
  rcases hs2 with hs2 | ⟨rfl, hs2⟩
  all_goals
    go_wp2_with (go_at_call 55; refine (waiting_any _ _ _ _ _ q2).mono ?_; rintro e w' ⟨rfl, hw⟩; rw [hw]; clear hw w')
    generalize w1.setCell ⟨q, 1, none⟩ (.string x) = w2 at H2 ⊢
    clear q1 q1f q2 hs2
    obtain ⟨hL2, hF2⟩ := unhide H2
    obtain ⟨i0, hi, hz0, hz1, hz2⟩ := info_parts Ybaf.info68
    go_loopw [11, 49] (fun v i wr => ∃ k a c R' nm' pf' tl, k ≤ n0 ∧ i = .int .i64 (k : Nat) ∧ v = .slice a k c ∧ Lay base wr R' g pm wm T W E nm' pf' (N + 1 + k) ∧ wr.ownsRow w2.heap.size 68 1 (.slice a k c) k (ptrs tl) ∧ (∀ b, (Value.slice a k c).ownBlock = some b → R' b = .other) ∧ tl.map nm' = xs.take k ∧ (∀ t ∈ tl, R' t = .proc) ∧ (∀ p, R1 p = .proc → nm' p = nm1 p) ∧ Fr R1 R' w2 wr) (fun _ i _ => n0 - (intOf i).toNat)
    case atStart => exact ⟨0, none, 0, R1, nm1, pf1, [], Nat.zero_le _, rfl, rfl, hL2, World.ownsRow_nil _ _ _ _, nofun, by simp, by simp, fun _ _ => rfl, Fr.refl _ _⟩
    case round =>
      obtain ⟨k, a, c, R', nm', pf', tl, hk, rfl, rfl, hLk, hown, hro, hmap, htl, hnm, hFk⟩ := hrel
      by_cases hkn : k < n0
      · obtain ⟨b, off, rfl, hbo, hcell⟩ := hrow (by omega)
        obtain ⟨y, hy⟩ : ∃ y, y = xs.getD k ByteArray.empty := ⟨_, rfl⟩
        have hym : y ∈ xs := by rw [hy]; simp [List.getD, hxs, hkn]
        have hc : wr.cell? ⟨b, off + k, none⟩ = some (.string y) := by
          have hc0 := hcell k hkn
          have e := cell_lt hc0
          obtain ⟨o1, o2⟩ := hF2.oth b e hbo
          obtain ⟨o3, o4⟩ := hFk.oth b (Nat.lt_of_lt_of_le e hF2.size) o1
          rw [World.cell?_of_block (w := w) (o4.trans o2), hy]; exact hc0
        have HY := hide hy
        clear hy hcell
        go_wp2_with fail
        refine (process_is wr hLk (by omega) y (hsz y hym)).mono ?_
        rintro e w3 ⟨t, R3, nm3, pf3, rfl, ht3, hn3, ho3, hL3, hF3⟩
        have hown3 : w3.ownsRow w2.heap.size 68 1 (.slice a k c) k (ptrs tl) := own_of_block hown (fun b' hb' => (hF3.oth b' (hown.lt b' hb').2 (hro b' hb')).2)
        have hro3 : ∀ b', (Value.slice a k c).ownBlock = some b' → R3 b' = .other := fun b' hb' => (hF3.oth b' (hown.lt b' hb').2 (hro b' hb')).1
        have hbs : w2.heap.size ≤ w3.heap.size := Nat.le_trans hFk.size hF3.size
        have H3 := hide (And.intro hL3 (And.intro hF3 (And.intro hn3 (And.intro ho3 hro3))))
        clear hL3 hF3 hro3 hn3 ho3 hc hown hro
        go_wp2_with (at_builtin; refine wpList_append_own_at _ rfl _ _ 76 rfl w2.heap.size 68 i0 (.pointer none) 1 8 Ybaf.underlying76 hi hz0 hz1 hz2 rfl (by decide) _ _ _ rfl (hown3.alloc _) ⟨w3.heap.size, 0, none⟩ 1 1 [ptr t] rfl rfl (cell_one_new _ _ _) (by simp [Value.oneCell']) (by unfold maxLen; omega) (by omega) (by simp; omega) ?_; intro v' w4 hown4 hgrow4 _ hat4)
        obtain ⟨hL3, hF3, hn3, ho3, hro3⟩ := unhide H3
        obtain ⟨a4, c4, rfl⟩ := own_slice hown4
        have hz4 := hgrow4.size
        simp only [World.size_alloc] at hz4 hat4
        have hkeep : ∀ k', k' < w3.heap.size → some k' ≠ (Value.slice a k c).ownBlock → w4.heap[k']? = w3.heap[k']? := fun k' hk' hne => by
          rw [hgrow4.block k' (by simp; omega) hne, blk_old _ _ hk']
        have hL4 : Lay base w4 R3 g pm wm T W E nm3 pf3 (N + 1 + k + 1) := hL3.frame (by omega) (fun k' hk' hr' => hkeep k' hk' (fun e => hr' (hro3 k' e.symm))) (Nat.le_refl _)
        have hF13 := hFk.trans hF3
        have hF4 : Fr R1 R3 w2 w4 := ⟨hgrow4.os.trans hF13.os, hgrow4.tape.trans hF13.tape, hgrow4.output.trans hF13.output, by omega, fun k' hk' e => ⟨(hF13.oth k' hk' e).1, (hkeep k' (by omega) (fun e' => by have := (hown3.lt k' e'.symm).1; omega)).trans (hF13.oth k' hk' e).2⟩, hF13.prc⟩
        have hro4 : ∀ b', (Value.slice a4 (k + 1) c4).ownBlock = some b' → R3 b' = .other := fun b' hb' => by
          rcases hat4 with e | e
          · exact hro3 b' (e ▸ hb')
          · rw [e] at hb'; cases hb'; exact hL3.fresh _ (by omega)
        have hmap4 : (tl ++ [t]).map nm3 = xs.take (k + 1) := by
          have e1 : tl.map nm3 = tl.map nm' := List.map_congr_left (fun p hp => ho3 p (htl p hp))
          have e2 : xs.getD k ByteArray.empty = xs[k]'(by omega) := by
            rw [List.getD, List.getElem?_eq_getElem (by omega)]; rfl
          rw [List.map_append, List.take_succ_eq_append_getElem (by omega), e1, hmap, List.map_singleton, hn3, unhide HY, e2]
        have htl4 : ∀ t' ∈ tl ++ [t], R3 t' = .proc := fun t' ht' => by
          rcases List.mem_append.1 ht' with ht' | ht'
          · exact hF3.prc t' (htl t' ht')
          · simp at ht'; subst ht'; exact ht3
        have hnm4 : ∀ p, R1 p = .proc → nm3 p = nm1 p := fun p hp => (ho3 p (hFk.prc p hp)).trans (hnm p hp)
        have hp4 : ptrs tl ++ [ptr t] = ptrs (tl ++ [t]) := by simp
        rw [hp4] at hown4
        have H4 := hide (And.intro hL4 (And.intro hown4 (And.intro hro4 (And.intro hmap4 (And.intro htl4 (And.intro hnm4 hF4))))))
        clear hL4 hown4 hro4 hmap4 htl4 hnm4 hF4 hF13 hkeep hL3 hF3 hgrow4 hat4 hown3 hro3 ho3 H3 hLk hFk hmap htl hnm hp4
        go_wp2
        go_roundw
        case rel =>
          obtain ⟨r1, r2, r3, r4, r5, r6, r7⟩ := unhide H4
          first | exact ⟨k + 1, a4, c4, R3, nm3, pf3, tl ++ [t], by omega, by go_num, rfl, r1, r2, r3, r4, r5, r6, r7⟩ | ((repeat apply Exists.intro); exact ⟨⟨k + 1, a4, c4, R3, nm3, pf3, tl ++ [t], by omega, by go_num, rfl, r1, r2, r3, r4, r5, r6, r7⟩, rfl⟩)
        case measure => simp [intOf]; omega
      · have hkn' : k = n0 := by omega
        subst hkn'
        have htk : xs.take k = xs := List.take_of_length_le (by omega)
        rw [htk] at hmap
        have hlen : tl.length = k := by have := hown.1; simpa using this
        have hnd' : (tl.map nm').Pairwise (fun a b => a ≠ b) := by rw [hmap]; exact hnd
        have htn : tl.Nodup := List.Pairwise.of_map nm' (fun a b (h : nm' a ≠ nm' b) e => h (by rw [e])) hnd'
        have hqk := hFk.prc q hq1
        have hcall := setTargets_is wr hLk hI (by omega) hqk (hT1 q) a k c tl hlen hn0 htn htl (fun hk0 => by
          obtain ⟨b, rfl⟩ := own_at hown hk0
          refine ⟨b, 0, rfl, hro b rfl, fun i hi => ?_⟩
          rw [Nat.zero_add, hown.cellAt i (by omega), ptrs_get _ _ (by omega)])
        have HC := hide (And.intro hLk (And.intro hmap (And.intro hlen (And.intro hnm (And.intro hFk htl)))))
        clear hLk hmap hlen hnm hFk htl htk htn hown hro
        go_wp2_with (go_at_call 60; refine hcall.mono ?_; rintro e w6 ⟨rfl, R6, W6, E6, hL6, hI6, hF6⟩)
        go_ret2
        obtain ⟨hLk, hmap, hlen, hnm, hFk, htl⟩ := unhide HC
        have hF06 := hF2.trans (hFk.trans hF6)
        obtain ⟨m1, m2⟩ := names_on (K := K) hL hI hL6 hF06.prc (fun p hp => (hnm p (hF2.prc p hp)).trans (ho1 p hp)) hTL hpf
        have hq6 := hF6.prc q hqk
        have hnq : nm' q = x := (hnm q hq1).trans hn1
        refine ⟨by rw [unhide HML]; rfl, R6, ⟨pm, wm, _, W6, E6, nm', pf', hL6.frame (Nat.le_refl _) (fun _ _ _ => rfl) (by omega), hI6, fun p => ?_, fun p hp => ?_, fun y hy => ?_⟩, hF06⟩
        · by_cases e : p = q
          · subst e; rw [updF_same, hlen]; exact hn0
          · rw [updF_other _ _ e]; exact hT1 p
        · by_cases e : p = q
          · subst e; rw [updF_same, hmap, hnq]; simp [updL]
          · rw [updF_other _ _ e, m1 p hp]
            have : nm' p ≠ x := fun e' => e (hL6.uniq hp hq6 (e'.trans hnq.symm))
            simp [updL, this]
        · have hyx : y ≠ x := fun e => by
            have := (hL6.pf1 q hq6).2
            rw [hnq, ← e, hy] at this; cases this
          simp only [updL, hyx, if_false, false_or]
          exact m2 y hy
end

end Go.Proofs.YbulkahtqFmt
