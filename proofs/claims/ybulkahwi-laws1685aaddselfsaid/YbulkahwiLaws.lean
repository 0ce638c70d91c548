/-
  THE WALKS of the two laws.
-/
import Derived.Test.YbulkahwiMods
namespace Go.Proofs.Ybulkahwi
open Go.RowKit Go.Deep

theorem model_len (pre : ByteArray) (ps : List ByteArray) : (model pre ps).length ≤ ps.length + 1 := by
  unfold model
  have h1 := List.length_filter_le (fun p => isPre p (pre ++ slash)) ps
  rw [List.length_append]
  split <;> simp <;> omega

theorem mods_of {w : World} {base : Nat} {a : Option Addr} {n c : Nat} {ps vs : List ByteArray} (h : w.ownsRow base 30 2 (.slice a n c) n (modsV ps vs)) (hl : ps.length = n) (hv : vs.length = n) (hs : ∀ i, (ps.getD i ByteArray.empty).size ≤ 140737488351232) : Mods w a n c ps vs :=
  ⟨h.mono (Nat.zero_le _), hl, hv, hs⟩

set_option maxHeartbeats 400000 in
theorem model_long (pre : ByteArray) (a : Option Addr) (n c : Nat) (w : World) (h : 1024 < n ∨ 4096 < pre.size) :
    Calls Yba.prog 3 #[.string pre, .slice a n c] w fun e w' => e = .returned (.bool true) ∧ Below w.heap.size w w' := by
  by_cases h0 : 1024 < n
  · clear h
    go_enter Yba.func3, Yba.ntmps3
    go_wp2
    go_ret
    exact ⟨rfl, Below.refl _ _⟩
  · have h1 : 4096 < pre.size := by omega
    clear h
    go_enter Yba.func3, Yba.ntmps3
    go_wp2
    go_ret
    exact ⟨rfl, Below.refl _ _⟩

set_option maxHeartbeats 1000000 in
theorem model_any (pre : ByteArray) (a : Option Addr) (n c : Nat) (ps vs : List ByteArray) (w : World) (hn : n ≤ 1024) (hp : pre.size ≤ 4096) (M : MIn w.heap.size w a n ps vs) (hna : a = none → n = 0) :
    Calls Yba.prog 3 #[.string pre, .slice a n c] w fun e w' => e = .returned (.bool true) ∧ Below w.heap.size w w' := by
  have hml := model_len pre ps
  rw [M.len] at hml
  have HNA := hide hna
  clear hna
  go_enter Yba.func3, Yba.ntmps3
  go_wp2_with fail
  refine (mods_any w.heap.size a n c ps vs w hn M (Nat.le_refl _) (unhide HNA)).mono ?_
  rintro e w1 ⟨a1, c1, rfl, ho1, hb1⟩
  have M1 := mods_of ho1 M.len M.lev M.sz
  clear ho1
  go_wp2_with fail
  refine (below_any pre a1 n c1 ps vs w1 (by omega) hp M1).mono ?_
  rintro e w2 ⟨a2, c2, rfl, hO2, hb2⟩
  have M2 := M1.below hb2
  clear M1
  go_wp2_with fail
  refine (expect_any pre a1 n c1 ps vs w2 (by omega) hp M2).mono ?_
  rintro e w3 ⟨a3, c3, rfl, hO3, hb3⟩
  have hO2' := hO2.below hb3
  clear M2 hO2
  go_wp2_with fail
  refine (eq_any _ _ a2 a3 _ c2 c3 (model pre ps) w3 (by omega) hO2' hO3).mono ?_
  rintro e w4 ⟨rfl, hb4⟩
  go_wp2
  go_ret
  have z1 := hb1.size
  have z2 := hb2.size
  have z3 := hb3.size
  exact ⟨rfl, ((hb1.trans (hb2.mono (by omega))).trans (hb3.mono (by omega))).trans (hb4.mono (by omega))⟩

set_option maxHeartbeats 400000 in
theorem self_long (pre : ByteArray) (a : Option Addr) (n c : Nat) (w : World) (h : 1024 < n ∨ 4096 < pre.size ∨ pre.size = 0) :
    Calls Yba.prog 4 #[.string pre, .slice a n c] w fun e w' => e = .returned (.bool true) ∧ Below w.heap.size w w' := by
  by_cases h0 : 1024 < n
  · clear h
    go_enter Yba.func4, Yba.ntmps4
    go_wp2
    go_ret
    exact ⟨rfl, Below.refl _ _⟩
  · by_cases h1 : 4096 < pre.size
    · clear h
      go_enter Yba.func4, Yba.ntmps4
      go_wp2
      go_ret
      exact ⟨rfl, Below.refl _ _⟩
    · have h2 : pre.toList.isEmpty = true := by rw [ByteArray.toList_eq, nil_of_size (by omega)]; rfl
      clear h
      go_enter Yba.func4, Yba.ntmps4
      go_wp2
      go_ret
      exact ⟨rfl, Below.refl _ _⟩

theorem MIn.below {B : Nat} {w w' : World} {a : Option Addr} {n : Nat} {ps vs : List ByteArray} (h : MIn B w a n ps vs) (hb : Below B w w') : MIn B w' a n ps vs :=
  ⟨h.len, h.lev, fun hn => by
    obtain ⟨b, off, e, hbB, hc⟩ := h.at_ hn
    exact ⟨b, off, e, hbB, fun i hi => ⟨(hb.cell (p := ⟨b, off + i * 2, none⟩) hbB).trans (hc i hi).1, (hb.cell (p := ⟨b, off + i * 2 + 1, none⟩) hbB).trans (hc i hi).2⟩⟩, h.sz⟩
theorem modsV_snoc : ∀ (ps vs : List ByteArray) (p v : ByteArray), ps.length = vs.length → modsV ps vs ++ [.string p, .string v] = modsV (ps ++ [p]) (vs ++ [v])
  | [], [], _, _, _ => rfl
  | [], _ :: _, _, _, h => by simp at h
  | _ :: _, [], _, _, h => by simp at h
  | q :: ps, u :: vs, p, v, h => by
    have ih := modsV_snoc ps vs p v (by simpa using h)
    have e : modsV (q :: ps) (u :: vs) = .string q :: .string u :: modsV ps vs := rfl
    have e2 : modsV (q :: ps ++ [p]) (u :: vs ++ [v]) = .string q :: .string u :: modsV (ps ++ [p]) (vs ++ [v]) := rfl
    rw [e, e2, ← ih]; rfl
theorem cell_two (w : World) (x y : Value) (t : TypeId) : ∀ j u, [x, y][j]? = some u → (w.alloc (.cells #[x, y] t)).cell? ((⟨w.heap.size, 0, none⟩ : Addr).add j) = some u := by
  intro j u h
  match j, h with
  | 0, h => simp at h; subst h; simp [Addr.add]
  | 1, h => simp at h; subst h; simp [Addr.add]
theorem getD_snoc_sz {ps : List ByteArray} {pre : ByteArray} (h : ∀ i, (ps.getD i ByteArray.empty).size ≤ 140737488351232) (hp : pre.size ≤ 4096) : ∀ i, ((ps ++ [pre]).getD i ByteArray.empty).size ≤ 140737488351232 := by
  intro i
  by_cases hi : i < ps.length
  · have := h i
    rw [List.getD, List.getElem?_append_left hi]; exact this
  · by_cases he : i = ps.length
    · subst he; simp; omega
    · rw [List.getD, List.getElem?_eq_none (by simp; omega)]; exact Nat.zero_le _

/-- The version that the law gives. -/
abbrev ver : ByteArray := ⟨#[118, 49, 46, 48, 46, 48]⟩

set_option maxHeartbeats 2000000 in
theorem self_any (pre : ByteArray) (a : Option Addr) (n c : Nat) (ps vs : List ByteArray) (w : World) (hn : n ≤ 1024) (hp : pre.size ≤ 4096) (hp0 : 0 < pre.size) (M : MIn w.heap.size w a n ps vs) (hna : a = none → n = 0) :
    Calls Yba.prog 4 #[.string pre, .slice a n c] w fun e w' => e = .returned (.bool true) ∧ Below w.heap.size w w' := by
  have hml := model_len pre ps
  rw [M.len] at hml
  have hne : pre.toList.isEmpty = false := by rw [ByteArray.toList_eq]; exact ne_of_pos hp0
  obtain ⟨i0, hi, hz0, hz1, hz2⟩ := info_parts Yba.info30
  have HNA := hide hna
  clear hna
  go_enter Yba.func4, Yba.ntmps4
  go_wp2_with fail
  refine (mods_any w.heap.size a n c ps vs w hn M (Nat.le_refl _) (unhide HNA)).mono ?_
  rintro e w1 ⟨a1, c1, rfl, ho1, hb1⟩
  have M1 := mods_of ho1 M.len M.lev M.sz
  have z1 := hb1.size
  clear ho1
  go_wp2_with fail
  refine (below_any pre a1 n c1 ps vs w1 (by omega) hp M1).mono ?_
  rintro e w2 ⟨a2, c2, rfl, hO2, hb2⟩
  have z2 := hb2.size
  have B2 : Below w.heap.size w w2 := hb1.trans (hb2.mono (by omega))
  clear M1 hb1 hb2
  go_wp2_with fail
  refine (mods_any w.heap.size a n c ps vs w2 hn (M.below B2) (by omega) (unhide HNA)).mono ?_
  rintro e w3 ⟨a3, c3, rfl, ho3, hb3⟩
  have z3 := hb3.size
  go_wp2_with (first | (at_builtin; refine wpList_append_own _ rfl _ _ 23 rfl w2.heap.size 30 i0 _ 2 32 Yba.underlying23 hi hz0 hz1 hz2 rfl (by decide) _ _ _ rfl (ho3.alloc _) ⟨w3.heap.size, 0, none⟩ 1 1 [.string pre, .string ver] rfl rfl (cell_two _ _ _ _) (by simp [Value.oneCell']) (by unfold maxLen; omega) (by omega) (by simp; omega) ?_; intro v' w5 hown5 hgrow5 _))
  have hb5 : Below w2.heap.size w2 w5 := (hb3.alloc z3 _).grown hgrow5 (by simp; omega) (fun x hx => (ho3.lt x hx).1)
  obtain ⟨a5, c5, rfl⟩ := own_slice hown5
  rw [modsV_snoc ps vs pre ver (by rw [M.len, M.lev])] at hown5
  have M5 : Mods w5 a5 (n + 1) c5 (ps ++ [pre]) (vs ++ [ver]) := mods_of hown5 (by simp [M.len]) (by simp [M.lev]) (getD_snoc_sz M.sz hp)
  have hO5 := hO2.below hb5
  have B5 : Below w.heap.size w w5 := B2.trans (hb5.mono (by omega))
  have z5 := hb5.size
  clear hown5 hgrow5 ho3 hb3 hO2 hb5 B2
  go_wp2_with fail
  refine (below_any pre a5 (n + 1) c5 (ps ++ [pre]) (vs ++ [ver]) w5 (by omega) hp M5).mono ?_
  rintro e w6 ⟨a6, c6, rfl, hO6, hb6⟩
  have hO7 := hO5.below hb6
  have B6 : Below w.heap.size w w6 := B5.trans (hb6.mono (by omega))
  clear M5 hO5 hb6 B5
  have hmm := model_more hp0 ps
  have hF : ∀ x ∈ ps.filter (fun p => isPre p (pre ++ slash)), x ≠ pre := fun x hx => below_ne (by simpa using (List.mem_filter.1 hx).2)
  have hold : model pre ps = (if ps.any (prov pre) then [pre] else []) ++ ps.filter (fun p => isPre p (pre ++ slash)) := rfl
  have hFl := List.length_filter_le (fun p => isPre p (pre ++ slash)) ps
  rw [M.len] at hFl
  rw [hmm] at hO6
  rw [hmm]
  generalize ps.filter (fun p => isPre p (pre ++ slash)) = F at hmm hF hold hFl hO6
  clear hmm
  obtain ⟨g6, rfl, hg6, hc6⟩ := hO6.at_ (by simp)
  have q0 := hc6 0 (by simp)
  simp only [List.getD_cons_zero] at q0
  cases hf : ps.any (prov pre)
  · have hold' : model pre ps = F := by rw [hold, hf]; rfl
    rw [hold'] at hO7 ⊢
    clear hold hold' hml
    have hL6 : (pre :: F).length = F.length + 1 := rfl
    rw [hL6] at hc6 hO6 ⊢
    clear hL6
    by_cases hz : F.length = 0
    · have hFn : F = [] := List.eq_nil_of_length_eq_zero hz
      subst hFn
      clear hc6 hO7 hO6
      simp only [List.length_nil]
      go_wp2
      refine wp_loop_rounds 1 ?_
      rw [rounds_succ]
      go_wp2
      go_ret
      exact ⟨rfl, B6⟩
    · obtain ⟨g7, rfl, hg7, hc7⟩ := hO7.at_ (by omega)
      have q1 := hc7 0 (by omega)
      have hx : ((F.getD 0 ByteArray.empty).toList == pre.toList) = false := by
        cases he : ((F.getD 0 ByteArray.empty).toList == pre.toList)
        · rfl
        · exfalso
          rw [ByteArray.toList_eq, ByteArray.toList_eq, beq_iff_eq] at he
          have hm : F.getD 0 ByteArray.empty ∈ F := by
            have h0 : 0 < F.length := by omega
            rw [List.getD, List.getElem?_eq_getElem h0, Option.getD_some]
            exact List.getElem_mem h0
          exact hF _ hm (Go.WideShapes.bytes_inj he)
      clear hF hO6 hO7
      generalize F.getD 0 ByteArray.empty = f0 at q1 hx
      have HC6 := hide hc6
      have HC7 := hide hc7
      clear hc6 hc7
      go_wp2
      have z6 := B6.size
      go_loopw [9] (fun i wx => ∃ k : Nat, k ≤ F.length ∧ i = .int .i64 k ∧ Below w6.heap.size w6 wx) (fun i _ => F.length - (intOf i).toNat)
      case atStart => exact ⟨0, Nat.zero_le _, rfl, Below.refl _ _⟩
      case round =>
        obtain ⟨k, hk, rfl, hbel⟩ := hrel
        by_cases hkn : k < F.length
        · have r0 := (hbel.cell (p := ⟨g6, k + 1, none⟩) hg6).trans (unhide HC6 (k + 1) (by omega))
          have r1 := (hbel.cell (p := ⟨g7, k, none⟩) hg7).trans (unhide HC7 k hkn)
          simp only [List.getD_cons_succ] at r0
          clear HC6 HC7
          generalize F.getD k ByteArray.empty = f at r0 r1
          have hki : (0 : Int) ≤ (k : Int) + 1 := by omega
          have hki2 : (k : Int) + 1 < (F.length : Int) + 1 := by omega
          go_wp2
          go_quiet (fail)
          go_wp2
          go_roundw
          case rel => exact ⟨k + 1, by omega, by go_num, below_drewN hbel _⟩
          case measure => simp [intOf]; omega
        · go_wp2
          go_ret
          exact ⟨rfl, B6.trans (hbel.mono (by omega))⟩
  · have hold' : model pre ps = pre :: F := by rw [hold, hf]; rfl
    rw [hold'] at hO7 ⊢
    clear hold hold' hml
    obtain ⟨g7, rfl, hg7, hc7⟩ := hO7.at_ (by simp)
    have q1 := hc7 0 (by simp)
    simp only [List.getD_cons_zero] at q1
    clear hc6 hc7 hF
    have hL1 : 1 ≤ (pre :: F).length := by simp
    have hL2 : (pre :: F).length ≤ 1025 := by simp; omega
    generalize hL : (pre :: F).length = L at hO6 hO7 hL1 hL2 ⊢
    have HE := hide (eq_any _ _ _ _ L _ _ (pre :: F) w6 (by omega) hO6 hO7)
    clear hO6 hO7 hL
    go_wp2_with (first | (go_at_call 7; refine (unhide HE).mono ?_; rintro e w7 ⟨rfl, hb7⟩))
    go_ret
    exact ⟨rfl, B6.trans (hb7.mono (by have := B6.size; omega))⟩

end Go.Proofs.Ybulkahwi
