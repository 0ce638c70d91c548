/-
  THE WALK of 'newPlan'.
-/
import Derived.Test.YbulkaibeNode
namespace Go.Proofs.Ybulkaibe
open Go.RowKit Go.WideMaps Go.Maps Kit
open Go.ChangeMaps (setBlock heap_setBlock_other)

theorem mapIs_at {W : World} {b : Nat} (h : W.heap[b]? = some (.map #[] 0)) (P : Program) (k : TypeId) : mapIs W P k b 0 (fun _ => none) := by
  have hl : b < W.heap.size := (Array.getElem?_eq_some_iff.1 h).1
  have hs : ({ W with heap := W.heap.extract 0 b } : World).heap.size = b := by simp; omega
  have hm := mapIs_made ({ W with heap := W.heap.extract 0 b } : World) P k
  have hn := blk_new ({ W with heap := W.heap.extract 0 b } : World) (.map #[] 0)
  rw [hs] at hm hn
  exact hm.of_block (h.trans hn.symm)

/-- The rooms of the first i nodes are laid. -/
structure Rms (W : World) (rm : Nat) (cp : Nat → Int) (i : Nat) (rbf : Nat → Nat) (wx : World) : Prop where
  mp : ∃ f, mapIs wx Yba.prog 9 rm i f ∧ ∀ q, q < i → f (keyL (nnm q)) = some (.map (some (rbf q)))
  bk : ∀ q, q < i → wx.heap[rbf q]? = some (oneMap (cp q)) ∧ W.heap.size ≤ rbf q
  inj : ∀ q q', q < i → q' < i → rbf q = rbf q' → q = q'
  ud : Upd W.heap.size [rm] W wx

theorem Rms.push {W wx w3 w4 : World} {rm i : Nat} {cp : Nat → Int} {rbf : Nat → Nat} {f : Lit → Option Value} (h : Rms W rm cp i rbf wx) (hi : i < 3) (hrm : rm < W.heap.size) (hB : Below wx.heap.size wx w3) {rb : Nat} (hrb : w3.heap[rb]? = some (oneMap (cp i))) (hge : wx.heap.size ≤ rb)
    (hf : ∀ q, q < i → f (keyL (nnm q)) = some (.map (some (rbf q)))) (m4 : mapIs w4 Yba.prog 9 rm (i + 1) (upd f (keyL (nnm i)) (some (.map (some rb))))) (t4 : w3.mapTurned w4 rm) : Rms W rm cp (i + 1) (updF rbf i rb) w4 := by
  have hz := h.ud.size
  have hz3 := hB.size
  have U3 : Upd W.heap.size [rm] W w3 := h.ud.trans ((Upd.of_below hB).mono hz (fun _ _ h => h))
  refine ⟨⟨_, m4, fun q hq => ?_⟩, fun q hq => ?_, fun q q' hq hq' e => ?_, U3.trans ((Upd.of_turned t4 (.inl (by simp))).mono U3.size (fun _ _ h => h) : Upd W.heap.size [rm] w3 w4)⟩
  · by_cases hqi : q = i
    · rw [hqi, upd_same _ (keyL_is _), updF_same]
    · rw [upd_key _ (fun e => hqi (nnm_inj (by omega) hi e)), updF_other _ _ hqi]; exact hf q (by omega)
  · by_cases hqi : q = i
    · rw [hqi, updF_same, turned_block t4 (by omega)]; exact ⟨hrb, by omega⟩
    · rw [updF_other _ _ hqi]
      obtain ⟨b1, b2⟩ := h.bk q (by omega)
      rw [turned_block t4 (by omega), hB.block _ (blk_lt b1)]; exact ⟨b1, b2⟩
  · by_cases hqi : q = i <;> by_cases hqi' : q' = i
    · omega
    · rw [hqi, updF_same, updF_other _ _ hqi'] at e
      have := blk_lt (h.bk q' (by omega)).1
      omega
    · rw [hqi', updF_same, updF_other _ _ hqi] at e
      have := blk_lt (h.bk q (by omega)).1
      omega
    · rw [updF_other _ _ hqi, updF_other _ _ hqi'] at e
      exact h.inj q q' (by omega) (by omega) e

set_option maxRecDepth 20000 in
set_option maxHeartbeats 2000000 in
theorem newPlan_any (c nr cn mb cmm : Nat) (cb : Nat → Nat) (cp : Nat → Int) (w : World) (h : Nod w c nr cn cb) (hcb : ∀ j, j < 3 → w.heap[cb j]? = some (oneMap (cp j))) (hmem : ∀ j, j < 3 → w.cell? ⟨mb, j, none⟩ = some (.string (nnm j))) :
    Calls Yba.prog 5 #[ptr c, .map none, .slice (some ⟨mb, 0, none⟩) 3 cmm] w fun e w' => ∃ rb, e = .returned (ptr (w.heap.size + 3)) ∧ w'.heap[w.heap.size + 3]? = some (.cells #[ptr c, .map none, .slice (some ⟨mb, 0, none⟩) 3 cmm, .map (some w.heap.size), .map (some (w.heap.size + 1)), .map (some (w.heap.size + 2))] 77 (0, 0)) ∧
      w'.heap[w.heap.size]? = some (.map #[] 0) ∧ w'.heap[w.heap.size + 2]? = some (.map #[] 0) ∧ (∃ W, W.heap.size = w.heap.size + 4 ∧ Rms W (w.heap.size + 1) cp 3 rb w') ∧ Below w.heap.size w w' := by
  have hmm := @run_makeMap Yba.prog
  obtain ⟨W, hW⟩ : ∃ W, W = (((w.alloc (.map #[] 0)).alloc (.map #[] 0)).alloc (.map #[] 0)).alloc (.cells #[ptr c, .map none, .slice (some ⟨mb, 0, none⟩) 3 cmm, .map (some w.heap.size), .map (some (w.heap.size + 1)), .map (some (w.heap.size + 1 + 1))] 77) := ⟨_, rfl⟩
  have hWs : W.heap.size = w.heap.size + 4 := by rw [hW]; simp
  have hWb : Below w.heap.size w W := by rw [hW]; exact ((((Below.refl _ _).alloc (Nat.le_refl _) _).alloc (by simp) _).alloc (by simp; omega) _).alloc (by simp; omega) _
  have x0 : W.heap[w.heap.size]? = some (.map #[] 0) := by
    rw [hW, blk_old _ _ (by simp; omega), blk_old _ _ (by simp; omega), blk_old _ _ (by simp)]; exact blk_new _ _
  have x1 : W.heap[w.heap.size + 1]? = some (.map #[] 0) := by
    rw [hW, blk_old _ _ (by simp), blk_old _ _ (by simp)]
    have := blk_new (w.alloc (.map #[] 0)) (.map #[] 0)
    simpa only [World.size_alloc] using this
  have x2 : W.heap[w.heap.size + 2]? = some (.map #[] 0) := by
    rw [hW, blk_old _ _ (by simp)]
    have := blk_new ((w.alloc (.map #[] 0)).alloc (.map #[] 0)) (.map #[] 0)
    simpa only [World.size_alloc] using this
  have x3 : W.heap[w.heap.size + 3]? = some (.cells #[ptr c, .map none, .slice (some ⟨mb, 0, none⟩) 3 cmm, .map (some w.heap.size), .map (some (w.heap.size + 1)), .map (some (w.heap.size + 2))] 77 (0, 0)) := by
    rw [hW]
    have := blk_new (((w.alloc (.map #[] 0)).alloc (.map #[] 0)).alloc (.map #[] 0)) (.cells #[ptr c, .map none, .slice (some ⟨mb, 0, none⟩) 3 cmm, .map (some w.heap.size), .map (some (w.heap.size + 1)), .map (some (w.heap.size + 1 + 1))] 77)
    simpa only [World.size_alloc] using this
  have hR0 : Rms W (w.heap.size + 1) cp 0 (fun _ => 0) W := ⟨⟨_, mapIs_at x1 _ _, fun q hq => absurd hq (by omega)⟩, fun q hq => absurd hq (by omega), fun q q' hq => absurd hq (by omega), Upd.refl _ _ _⟩
  have facts : ∀ wx, Upd W.heap.size [w.heap.size + 1] W wx → Below w.heap.size w wx ∧ wx.heap[w.heap.size + 3]? = some (.cells #[ptr c, .map none, .slice (some ⟨mb, 0, none⟩) 3 cmm, .map (some w.heap.size), .map (some (w.heap.size + 1)), .map (some (w.heap.size + 2))] 77 (0, 0)) ∧ wx.heap[w.heap.size]? = some (.map #[] 0) ∧ wx.heap[w.heap.size + 2]? = some (.map #[] 0) := fun wx hU =>
    ⟨hWb.trans (hU.mono (T' := []) (by omega) (fun k hk hm => by simp at hm; omega)).below, (hU.block _ (by omega) (by simp)).trans x3, (hU.block _ (by omega) (by simp)).trans x0, (hU.block _ (by omega) (by simp)).trans x2⟩
  have HF := hide (And.intro hR0 (And.intro facts (And.intro h (And.intro hcb hmem))))
  clear hR0 facts h hcb hmem x0 x1 x2 x3 hWb
  go_enter Yba.func5, Yba.ntmps5
  go_wp2
  rw [← hW]
  clear hW hmm
  have e2 : w.heap.size + 1 + 1 + 1 = w.heap.size + 3 := by omega
  rw [e2]
  generalize hn : w.heap.size = n at HF hWs e2 ⊢
  have HN := hide hn
  clear hn e2
  go_loopw [20] (fun iv wx => ∃ (i : Nat) (rbf : Nat → Nat), i ≤ 3 ∧ iv = .int .i64 i ∧ Rms W (n + 1) cp i rbf wx) (fun iv _ => 3 - (intOf iv).toNat)
  case atStart => exact ⟨0, _, Nat.zero_le _, rfl, (unhide HF).1⟩
  case round =>
    obtain ⟨i, rbf, hi, rfl, hR⟩ := hrel
    obtain ⟨_, facts, h, hcb, hmem⟩ := unhide HF
    obtain ⟨hb, y3, y0, y2⟩ := facts wr hR.ud
    have hb' : Below w.heap.size w wr := by rw [unhide HN]; exact hb
    by_cases hi3 : i < 3
    · have q0 := (hb'.cell (p := ⟨mb, i, none⟩) (cell_lt (hmem i hi3))).trans (hmem i hi3)
      have nod := h.below hb'
      obtain ⟨_, _, _, _, n4, _⟩ := nod.at_ i hi3
      have hcbi := (hb'.block _ (blk_lt (hcb i hi3))).trans (hcb i hi3)
      have hnode := node_any i hi3 c nr cn cb wr.drew (nod.below (Below.refl _ _).drew)
      obtain ⟨f, hf, hfe⟩ := hR.mp
      have p4 : wr.drew.cell? ⟨n + 3, 4, none⟩ = some (.map (some (n + 1))) := cell_of_blk (w := wr.drew) y3 (i := 4) rfl
      have n4d : wr.drew.cell? ⟨nr, i * 6 + 4, none⟩ = some (.map (some (cb i))) := n4
      have hzW := hR.ud.size
      have step : ∀ w2, Below wr.drew.heap.size wr.drew w2 → ∃ w4, w2.cell? ⟨n + 3, 4, none⟩ = some (.map (some (n + 1))) ∧ w2.cell? ⟨nr, i * 6 + 4, none⟩ = some (.map (some (cb i))) ∧ w2.heap[cb i]? = some (oneMap (cp i)) ∧
          (w2.alloc (oneMap (cp i))).cell? ⟨n + 3, 4, none⟩ = some (.map (some (n + 1))) ∧ (w2.alloc (oneMap (cp i))).cell? ⟨nr, i * 6 + 4, none⟩ = some (.map (some (cb i))) ∧ w4.cell? ⟨n + 3, 4, none⟩ = some (.map (some (n + 1))) ∧ w4.cell? ⟨nr, i * 6 + 4, none⟩ = some (.map (some (cb i))) ∧
          (Instr.mapUpdate 74 (.map (some (n + 1))) (.string (nnm i)) (.map (some w2.heap.size))).run Yba.prog (w2.alloc (oneMap (cp i))) = .ok () w4 ∧ Rms W (n + 1) cp (i + 1) (updF rbf i w2.heap.size) w4 := fun w2 hb2 => by
        have hb2' : Below wr.heap.size wr w2 := ⟨hb2.os, hb2.tape, hb2.output, hb2.size, hb2.block⟩
        have c1 := (hb2'.cell (p := ⟨n + 3, 4, none⟩) (cell_lt p4)).trans p4
        have c2 := (hb2'.cell (p := ⟨nr, i * 6 + 4, none⟩) (cell_lt n4)).trans n4
        have c3 := (hb2'.block _ (blk_lt hcbi)).trans hcbi
        have b3 : Below wr.heap.size wr (w2.alloc (oneMap (cp i))) := hb2'.alloc hb2'.size _
        have hm3 := hf.of_block (b3.block (n + 1) hf.lt)
        obtain ⟨w4, run4, m4, t4⟩ := hm3.put law9 Yba.underlying74 (by unfold maxLen; omega) (.map (some w2.heap.size)) (key_is (nnm_size i)) (keyL_is _)
        have hne : n + 3 ≠ n + 1 := by omega
        have c4 := cell_alloc (oneMap (cp i)) c1
        have c5 := cell_alloc (oneMap (cp i)) c2
        have hnr : nr ≠ n + 1 := fun e => by
          rw [e] at c5
          obtain ⟨es, cc, hmb⟩ := mapIs_blk hm3
          exact cell_no_map c5 hmb
        refine ⟨w4, c1, c2, c3, c4, c5, ?_, ?_, run4, hR.push hi3 (by omega) b3 (blk_new _ _) hb2'.size hfe m4 t4⟩
        · rw [World.cell?_of_block (w := w2.alloc (oneMap (cp i))) (turned_block t4 hne)]; exact c4
        · rw [World.cell?_of_block (w := w2.alloc (oneMap (cp i))) (turned_block t4 hnr)]; exact c5
      have HS := hide step
      clear step hf hfe hR facts h hcb hmem hb hb' y3 y0 y2 nod n4 hcbi
      go_wp2
      go_region_held3 (fun W => W.cell? ⟨n + 3, 4, none⟩ = some (.map (some (n + 1))) ∧ W.cell? ⟨nr, i * 6 + 4, none⟩ = some (.map (some (cb i)))) (with_reducible first | exact ⟨by assumption, by assumption⟩) (first | (go_at_call 11; refine hnode.mono ?_; rintro e w2 ⟨rfl, hb2⟩; obtain ⟨w4, c1, c2, c3, c4, c5, c6, c7, run4, hR4⟩ := unhide HS w2 hb2; have HR4 := hide hR4; clear hR4 hb2) | (go_at_call 10; refine (clone10 (cb i) (cp i) w2 c3).mono ?_; rintro e w' ⟨rfl, hw⟩; rw [hw]; clear hw w'))
      go_wp2
      refine ⟨⟨i + 1, _, by omega, by go_num, unhide HR4⟩, by simp [intOf]; omega⟩
    · have hie : i = 3 := by omega
      subst hie
      have hfin : ∃ rb, wr.heap[n + 3]? = some (.cells #[ptr c, .map none, .slice (some ⟨mb, 0, none⟩) 3 cmm, .map (some n), .map (some (n + 1)), .map (some (n + 2))] 77 (0, 0)) ∧ wr.heap[n]? = some (.map #[] 0) ∧ wr.heap[n + 2]? = some (.map #[] 0) ∧ (∃ W : World, W.heap.size = n + 4 ∧ Rms W (n + 1) cp 3 rb wr) ∧ Below n w wr := ⟨rbf, y3, y0, y2, ⟨W, hWs, hR⟩, hb⟩
      have HF2 := hide hfin
      clear hfin hR facts h hcb hmem hb hb' y3 y0 y2
      go_wp2
      go_ret
      rw [unhide HN]
      obtain ⟨rb, h1⟩ := unhide HF2
      exact ⟨rb, rfl, h1⟩

end Go.Proofs.Ybulkaibe
