/-
  THE WALKS of 'DependsOn', 'dependedOn', 'Needs': no package has dependencies.
-/
import Derived.Test.YbulkaibeRank
import Derived.Maps.AppendAt
import Derived.Maps.OwnOps
import Derived.Laws.EntriesVeiled
namespace Go.Proofs.Ybulkaibe
open Go.RowKit Go.WideMaps Go.Maps Kit
open Go.ChangeMaps (setBlock heap_setBlock_other)

/-- The packages as they lie. -/
structure Pk (w : World) (k : Nat) (pb wb : Nat → Nat) (pri wt : Nat → Nat) (pol : ByteArray) : Prop where
  blk : ∀ i, i < k → ∃ nv, w.heap[pb i]? = some (.cells #[.string (pnm i), nv, .bool false, .string pol, .string ⟨#[]⟩, .int .i64 (pri i), .map (some (wb i)), .slice none 0 0, .slice none 0 0, .slice none 0 0] 60 (0, 0))
  wm : ∀ i, i < k → w.heap[wb i]? = some (oneMap (wt i))
  inj : ∀ i j, i < k → j < k → pb i = pb j → i = j
  k6 : k ≤ 6
  p4 : ∀ i, pri i < 4
  w4 : ∀ i, wt i ≤ 4

section
variable {w w' : World} {k : Nat} {pb wb : Nat → Nat} {pri wt : Nat → Nat} {pol : ByteArray}
theorem Pk.of_blocks (h : Pk w k pb wb pri wt pol) (hb : ∀ i, i < k → w'.heap[pb i]? = w.heap[pb i]? ∧ w'.heap[wb i]? = w.heap[wb i]?) : Pk w' k pb wb pri wt pol :=
  ⟨fun i hi => by obtain ⟨nv, e⟩ := h.blk i hi; exact ⟨nv, (hb i hi).1.trans e⟩, fun i hi => (hb i hi).2.trans (h.wm i hi), h.inj, h.k6, h.p4, h.w4⟩
theorem Pk.lt (h : Pk w k pb wb pri wt pol) {i : Nat} (hi : i < k) : pb i < w.heap.size ∧ wb i < w.heap.size := by
  obtain ⟨nv, e⟩ := h.blk i hi; exact ⟨blk_lt e, blk_lt (h.wm i hi)⟩
theorem Pk.below (h : Pk w k pb wb pri wt pol) (hB : Below w.heap.size w w') : Pk w' k pb wb pri wt pol :=
  h.of_blocks (fun _ hi => ⟨hB.block _ (h.lt hi).1, hB.block _ (h.lt hi).2⟩)
theorem Pk.name (h : Pk w k pb wb pri wt pol) {i : Nat} (hi : i < k) : w.cell? ⟨pb i, 0, none⟩ = some (.string (pnm i)) := by
  obtain ⟨nv, e⟩ := h.blk i hi; exact cell_of_blk e rfl
theorem Pk.policy (h : Pk w k pb wb pri wt pol) {i : Nat} (hi : i < k) : w.cell? ⟨pb i, 3, none⟩ = some (.string pol) := by
  obtain ⟨nv, e⟩ := h.blk i hi; exact cell_of_blk e rfl
theorem Pk.prio (h : Pk w k pb wb pri wt pol) {i : Nat} (hi : i < k) : w.cell? ⟨pb i, 5, none⟩ = some (.int .i64 (pri i)) := by
  obtain ⟨nv, e⟩ := h.blk i hi; exact cell_of_blk e rfl
theorem Pk.weights (h : Pk w k pb wb pri wt pol) {i : Nat} (hi : i < k) : w.cell? ⟨pb i, 6, none⟩ = some (.map (some (wb i))) := by
  obtain ⟨nv, e⟩ := h.blk i hi; exact cell_of_blk e rfl
theorem Pk.deps (h : Pk w k pb wb pri wt pol) {i : Nat} (hi : i < k) : w.cell? ⟨pb i, 7, none⟩ = some (.slice none 0 0) := by
  obtain ⟨nv, e⟩ := h.blk i hi; exact cell_of_blk e rfl
theorem Pk.cells (h : Pk w k pb wb pri wt pol) {i : Nat} (hi : i < k) : IsCells w (pb i) := by
  obtain ⟨nv, e⟩ := h.blk i hi; exact ⟨_, _, e⟩
end

set_option maxHeartbeats 400000 in
theorem index_nil (fv : Value) (w : World) : Calls Yba.prog 42 #[.slice none 0 0, fv] w fun e w' => e = .returned (.int .i64 (-1)) ∧ w' = w := by
  go_enter Yba.func42, Yba.ntmps42
  go_wp2
  refine wp_loop_rounds 1 ?_
  rw [rounds_succ]
  go_wp2
  go_ret
  exact ⟨rfl, rfl⟩

set_option maxHeartbeats 400000 in
theorem containsF_nil (fv : Value) (w : World) : Calls Yba.prog 36 #[.slice none 0 0, fv] w fun e w' => e = .returned (.bool false) ∧ w' = w := by
  go_enter Yba.func36, Yba.ntmps36
  go_wp2_with (go_at_call 42; refine (index_nil _ _).mono ?_; rintro e w' ⟨rfl, hw⟩; rw [hw]; clear hw w')
  go_ret
  exact ⟨rfl, rfl⟩

set_option maxHeartbeats 400000 in
theorem dependsOn_any (pb : Nat) (s : ByteArray) (w : World) (h : w.cell? ⟨pb, 7, none⟩ = some (.slice none 0 0)) : Calls Yba.prog 28 #[ptr pb, .string s] w fun e w' => e = .returned (.bool false) ∧ Below w.heap.size w w' := by
  have hl := cell_lt h
  go_enter Yba.func28, Yba.ntmps28
  go_wp2_with (go_at_call 36; refine (containsF_nil _ _).mono ?_; rintro e w' ⟨rfl, hw⟩; rw [hw]; clear hw w')
  go_ret
  exact ⟨rfl, (Below.refl _ _).alloc (Nat.le_refl _) _⟩

set_option maxHeartbeats 800000 in
theorem dep1_any (r q hB qB : Nat) (a : Option Addr) (n c : Nat) (xs : List Nat) (s : ByteArray) (w : World) (hh : w.cell? ⟨hB, 0, none⟩ = some (.slice a n c)) (hn : n ≤ 1024) (hl : xs.length = n) (hcx : IsCells w r) (hcs : ∀ y ∈ xs, IsCells w y) (hrow : 0 < n → ∃ b, a = some ⟨b, 0, none⟩ ∧ ∀ i, i < n → w.cell? ⟨b, i, none⟩ = some (ptr (xs.getD i 0)))
    (hq : w.cell? ⟨qB, 0, none⟩ = some (ptr q)) (hs : w.cell? ⟨q, 0, none⟩ = some (.string s)) (hd : w.cell? ⟨r, 7, none⟩ = some (.slice none 0 0)) :
    Calls Yba.prog 27 #[ptr r, ptr hB, ptr qB] w fun e w' => e = .returned (.bool false) ∧ Below w.heap.size w w' := by
  have hcon := contains_any a n c xs r w hn hl hcx hcs hrow
  by_cases hm : r ∈ xs
  · rw [decide_eq_true hm] at hcon
    clear hm hcs hrow hcx
    go_enter Yba.func27, Yba.ntmps27
    go_wp2_with (go_at_call 24; refine hcon.mono ?_; rintro e w' ⟨rfl, hw⟩; rw [hw]; clear hw w')
    go_ret
    exact ⟨rfl, Below.refl _ _⟩
  · rw [decide_eq_false hm] at hcon
    clear hm hcs hrow hcx
    go_enter Yba.func27, Yba.ntmps27
    go_wp2_with (first | (go_at_call 24; refine hcon.mono ?_; rintro e w' ⟨rfl, hw⟩; rw [hw]; clear hw w') | (go_at_call 28; refine (dependsOn_any r s w hd).mono ?_; rintro e w' ⟨rfl, hw'⟩))
    go_ret
    exact ⟨rfl, hw'⟩

set_option maxHeartbeats 1000000 in
theorem indexF_dep (hB qB q : Nat) (a' : Option Addr) (n' c' : Nat) (ys : List Nat) (a : Option Addr) (n c : Nat) (xs : List Nat) (s : ByteArray) (w : World) (hh : w.cell? ⟨hB, 0, none⟩ = some (.slice a n c)) (hn : n ≤ 1024) (hl : xs.length = n) (hcs : ∀ y ∈ xs, IsCells w y) (hrow : 0 < n → ∃ b, a = some ⟨b, 0, none⟩ ∧ ∀ i, i < n → w.cell? ⟨b, i, none⟩ = some (ptr (xs.getD i 0)))
    (hq : w.cell? ⟨qB, 0, none⟩ = some (ptr q)) (hs : w.cell? ⟨q, 0, none⟩ = some (.string s)) (hn' : n' ≤ 1024) (hl' : ys.length = n') (hcy : ∀ y ∈ ys, IsCells w y ∧ w.cell? ⟨y, 7, none⟩ = some (.slice none 0 0)) (hrow' : 0 < n' → ∃ b, a' = some ⟨b, 0, none⟩ ∧ ∀ i, i < n' → w.cell? ⟨b, i, none⟩ = some (ptr (ys.getD i 0))) :
    Calls Yba.prog 35 #[.slice a' n' c', .func (.func 27) #[] #[ptr hB, ptr qB]] w fun e w' => e = .returned (.int .i64 (-1)) ∧ Below w.heap.size w w' := by
  go_enter Yba.func35, Yba.ntmps35
  go_wp2
  go_loopw [8] (fun i wx => ∃ k : Nat, k ≤ n' ∧ i = .int .i64 k ∧ Below w.heap.size w wx) (fun i _ => n' - (intOf i).toNat)
  case atStart => exact ⟨0, Nat.zero_le _, rfl, Below.refl _ _⟩
  case round =>
    obtain ⟨k, hk, rfl, hbx⟩ := hrel
    by_cases hkn : k < n'
    · have cc : ∀ {b i : Nat} {v : Value}, w.cell? ⟨b, i, none⟩ = some v → wr.cell? ⟨b, i, none⟩ = some v := fun {b i v} hv => by
        rw [hbx.cell (p := ⟨b, i, none⟩) (cell_lt hv)]; exact hv
      have ic : ∀ {y : Nat}, IsCells w y → IsCells wr y := fun {y} ⟨c, t, h⟩ => ⟨c, t, (hbx.block y (blk_lt h)).trans h⟩
      obtain ⟨b', rfl, hc'⟩ := hrow' (by omega)
      have q0 := cc (hc' k hkn)
      obtain ⟨r, hr⟩ : ∃ r, r = ys.getD k 0 := ⟨_, rfl⟩
      rw [← hr] at q0
      have hrm : r ∈ ys := by rw [hr, List.getD, List.getElem?_eq_getElem (by omega)]; exact List.getElem_mem _
      have hdep := dep1_any r q hB qB a n c xs s wr (cc hh) hn hl (ic (hcy r hrm).1) (fun y hy => ic (hcs y hy)) (fun hp => by
        obtain ⟨b, e, hb⟩ := hrow hp
        exact ⟨b, e, fun i hi => cc (hb i hi)⟩) (cc hq) (cc hs) (cc (hcy r hrm).2)
      clear hr hrm cc ic hc'
      go_wp2_with (go_at_call 27; refine hdep.mono ?_; rintro e w' ⟨rfl, hw'⟩)
      clear hdep
      refine ⟨⟨k + 1, by omega, by go_num, hbx.trans (hw'.mono hbx.size)⟩, by simp [intOf]; omega⟩
    · go_wp2
      go_ret
      exact ⟨rfl, hbx⟩

set_option maxHeartbeats 1000000 in
theorem dependedOn_any (onB hB q : Nat) (a' : Option Addr) (n' c' : Nat) (ys : List Nat) (a : Option Addr) (n c : Nat) (xs : List Nat) (s : ByteArray) (w : World) (hh : w.cell? ⟨hB, 0, none⟩ = some (.slice a n c)) (hn : n ≤ 1024) (hl : xs.length = n) (hcs : ∀ y ∈ xs, IsCells w y) (hrow : 0 < n → ∃ b, a = some ⟨b, 0, none⟩ ∧ ∀ i, i < n → w.cell? ⟨b, i, none⟩ = some (ptr (xs.getD i 0)))
    (hon : w.cell? ⟨onB, 0, none⟩ = some (.slice a' n' c')) (hs : w.cell? ⟨q, 0, none⟩ = some (.string s)) (hn' : n' ≤ 1024) (hl' : ys.length = n') (hcy : ∀ y ∈ ys, IsCells w y ∧ w.cell? ⟨y, 7, none⟩ = some (.slice none 0 0)) (hrow' : 0 < n' → ∃ b, a' = some ⟨b, 0, none⟩ ∧ ∀ i, i < n' → w.cell? ⟨b, i, none⟩ = some (ptr (ys.getD i 0))) :
    Calls Yba.prog 25 #[ptr q, ptr onB, ptr hB] w fun e w' => e = .returned (.bool false) ∧ Below w.heap.size w w' := by
  have hbw : Below w.heap.size w (w.alloc (.cells #[ptr q] 52)) := (Below.refl _ _).alloc (Nat.le_refl _) _
  have cc : ∀ {b i : Nat} {v : Value}, w.cell? ⟨b, i, none⟩ = some v → (w.alloc (.cells #[ptr q] 52)).cell? ⟨b, i, none⟩ = some v := fun {b i v} hv => by
    rw [hbw.cell (p := ⟨b, i, none⟩) (cell_lt hv)]; exact hv
  have ic : ∀ {y : Nat}, IsCells w y → IsCells (w.alloc (.cells #[ptr q] 52)) y := fun {y} ⟨c, t, h⟩ => ⟨c, t, (hbw.block y (blk_lt h)).trans h⟩
  have hidx := indexF_dep hB w.heap.size q a' n' c' ys a n c xs s (w.alloc (.cells #[ptr q] 52)) (cc hh) hn hl (fun y hy => ic (hcs y hy)) (fun hp => by
        obtain ⟨b, e, hb⟩ := hrow hp
        exact ⟨b, e, fun i hi => cc (hb i hi)⟩) (cell_of_blk (blk_new w _) (i := 0) rfl) (cc hs) hn' hl' (fun y hy => ⟨ic (hcy y hy).1, cc (hcy y hy).2⟩) (fun hp => by
        obtain ⟨b, e, hb⟩ := hrow' hp
        exact ⟨b, e, fun i hi => cc (hb i hi)⟩)
  have hon' := cc hon
  have hz := hbw.size
  have hcon : Calls Yba.prog 26 #[.slice a' n' c', .func (.func 27) #[] #[ptr hB, ptr w.heap.size]] (w.alloc (.cells #[ptr q] 52)) fun e w' => e = .returned (.bool false) ∧ Below w.heap.size w w' := by
    clear cc ic hrow hrow' hcs hcy
    go_enter Yba.func26, Yba.ntmps26
    go_wp2_with (go_at_call 35; refine hidx.mono ?_; rintro e w' ⟨rfl, hw'⟩)
    go_ret
    exact ⟨rfl, hbw.trans (hw'.mono hz)⟩
  clear hidx cc ic hrow hrow' hcs hcy hbw hz
  go_enter Yba.func25, Yba.ntmps25
  go_wp2_with (go_at_call 26; refine hcon.mono ?_; rintro e w' ⟨rfl, hw'⟩)
  go_ret
  exact ⟨rfl, hw'⟩

theorem Yba.info52 : (Yba.prog.info? 52).map (fun i => (i.zero, i.size, i.bytes)) = some (some (.pointer none), 1, 8) := by kernel_rfl
theorem contains_nil (x : Nat) (w : World) : Calls Yba.prog 24 #[.slice none 0 0, ptr x] w fun e w' => e = .returned (.bool false) ∧ w' = w := by
  have hi : Calls Yba.prog 34 #[.slice none 0 0, ptr x] w fun e w' => e = .returned (.int .i64 (-1)) ∧ w' = w := by
    go_enter Yba.func34, Yba.ntmps34
    go_wp2
    refine wp_loop_rounds 1 ?_
    rw [rounds_succ]
    go_wp2
    go_ret
    exact ⟨rfl, rfl⟩
  go_enter Yba.func24, Yba.ntmps24
  go_wp2_with (go_at_call 34; refine hi.mono ?_; rintro e w' ⟨rfl, hw⟩; rw [hw]; clear hw w')
  go_ret
  exact ⟨rfl, rfl⟩

set_option maxRecDepth 20000 in
set_option maxHeartbeats 1000000 in
theorem visit_any (q al vi cb : Nat) (w : World) (hal : w.cell? ⟨al, 0, none⟩ = some (.slice none 0 0)) (hf : w.frozen? ⟨al, 0, none⟩ = false) (hd : w.cell? ⟨q, 7, none⟩ = some (.slice none 0 0)) (hne : q ≠ al) :
    Calls Yba.prog 32 #[ptr q, ptr al, ptr vi, ptr cb] w fun e w' => e = .returned (.tuple #[]) ∧ ∃ b c, w'.cell? ⟨al, 0, none⟩ = some (.slice (some ⟨b, 0, none⟩) 1 c) ∧ w'.cell? ⟨b, 0, none⟩ = some (ptr q) ∧ w.heap.size ≤ b ∧ Upd w.heap.size [al] w w' := by
  obtain ⟨i0, hi, hz0, hz1, hz2⟩ := info_parts Yba.info52
  have hlal := cell_lt hal
  have hlq := cell_lt hd
  have hnil : w.ownsRow w.heap.size 52 1 (.slice none 0 0) 0 [] := World.ownsRow_nil _ _ _ _
  go_enter Yba.func32, Yba.ntmps32
  go_wp2_with (first | (go_at_call 24; refine (contains_nil q w).mono ?_; rintro e w' ⟨rfl, hw⟩; rw [hw]; clear hw w') | (at_builtin; refine wpList_append_own_at _ rfl _ _ 43 rfl w.heap.size 52 i0 (.pointer none) 1 8 Yba.underlying43 hi hz0 hz1 hz2 rfl (by decide) _ _ _ rfl (hnil.alloc _) ⟨w.heap.size, 0, none⟩ 1 1 [ptr q] rfl rfl (cell_one_new _ _ _) (by simp [Value.oneCell']) (by unfold maxLen; omega) (by omega) (by simp) ?_))
  intro v' w1 hown hgrow _ hat
  obtain ⟨a1, c1, rfl⟩ := own_slice hown
  have hB : Below w.heap.size w w1 := ((Below.refl _ _).alloc (Nat.le_refl _) _).grown hgrow (by simp) (fun k hk => by cases hk)
  obtain ⟨b, hb, hbs, hbl, hc⟩ := own_at0 hown (by omega)
  subst hb
  have f0 := (hB.cell (p := ⟨al, 0, none⟩) hlal).trans hal
  have f1 := (hB.frozen (p := ⟨al, 0, none⟩) hlal).trans hf
  have f2 : (w1.setCell ⟨al, 0, none⟩ (.slice (some ⟨b, 0, none⟩) (0 + 1) c1)).cell? ⟨q, 7, none⟩ = some (.slice none 0 0) := by
    rw [World.cell?_of_block (w := w1) (set_other _ _ (by simpa using hne)), hB.cell (p := ⟨q, 7, none⟩) hlq]; exact hd
  have f3 : (w1.setCell ⟨al, 0, none⟩ (.slice (some ⟨b, 0, none⟩) (0 + 1) c1)).cell? ⟨al, 0, none⟩ = some (.slice (some ⟨b, 0, none⟩) (0 + 1) c1) := World.cell?_setCell_same _ _ _ f0
  have f4 : (w1.setCell ⟨al, 0, none⟩ (.slice (some ⟨b, 0, none⟩) (0 + 1) c1)).cell? ⟨b, 0, none⟩ = some (ptr q) := by
    rw [World.cell?_of_block (w := w1) (set_other _ _ (by simp only; omega))]; exact hc 0 _ rfl
  have f5 : Upd w.heap.size [al] w (w1.setCell ⟨al, 0, none⟩ (.slice (some ⟨b, 0, none⟩) (0 + 1) c1)) := (Upd.of_below hB).trans (Upd.of_set _ _ _ (.inl (by simp)))
  have HF := hide (And.intro f3 (And.intro f4 (And.intro hbs f5)))
  clear f3 f4 f5 hB hown hgrow hat hc hbs hbl hd hal hf
  go_wp2
  refine wp_loop_rounds 1 ?_
  rw [rounds_succ]
  go_wp2
  go_end0
  exact ⟨rfl, b, c1, unhide HF⟩

set_option maxHeartbeats 1000000 in
theorem needs_any (c p : Nat) (w : World) (hd : w.cell? ⟨p, 7, none⟩ = some (.slice none 0 0)) :
    Calls Yba.prog 22 #[ptr c, ptr p] w fun e w' => ∃ b cc, e = .returned (.slice (some ⟨b, 0, none⟩) 1 cc) ∧ w'.cell? ⟨b, 0, none⟩ = some (ptr p) ∧ w.heap.size ≤ b ∧ Below w.heap.size w w' := by
  have hl := cell_lt hd
  have s1 : (((w.alloc (.cells #[ptr c] 28)).alloc (.cells #[.slice none 0 0] 43)).alloc (.cells #[(.func (.func 32) #[] #[ptr (w.heap.size + 1), ptr (w.heap.size + 1 + 1), ptr w.heap.size])] 87)).heap[w.heap.size + 1]? = some (.cells #[.slice none 0 0] 43) := by
    rw [blk_old _ _ (by simp)]
    have := blk_new (w.alloc (.cells #[ptr c] 28)) (.cells #[.slice none 0 0] 43)
    simpa only [World.size_alloc] using this
  have hB : Below w.heap.size w (((w.alloc (.cells #[ptr c] 28)).alloc (.cells #[.slice none 0 0] 43)).alloc (.cells #[(.func (.func 32) #[] #[ptr (w.heap.size + 1), ptr (w.heap.size + 1 + 1), ptr w.heap.size])] 87)) := (((Below.refl _ _).alloc (Nat.le_refl _) _).alloc (by simp) _).alloc (by simp; omega) _
  have hd' := (hB.cell (p := ⟨p, 7, none⟩) hl).trans hd
  have hz : (((w.alloc (.cells #[ptr c] 28)).alloc (.cells #[.slice none 0 0] 43)).alloc (.cells #[(.func (.func 32) #[] #[ptr (w.heap.size + 1), ptr (w.heap.size + 1 + 1), ptr w.heap.size])] 87)).heap.size = w.heap.size + 1 + 1 + 1 := by simp
  have hvis := visit_any p (w.heap.size + 1) (w.heap.size + 1 + 1) w.heap.size (((w.alloc (.cells #[ptr c] 28)).alloc (.cells #[.slice none 0 0] 43)).alloc (.cells #[(.func (.func 32) #[] #[ptr (w.heap.size + 1), ptr (w.heap.size + 1 + 1), ptr w.heap.size])] 87)) (cell_of_blk s1 rfl) (frozen_of_blk s1 0) hd' (by omega)
  go_enter Yba.func22, Yba.ntmps22
  go_wp2_with (go_at_call 32; refine hvis.mono ?_; rintro e w' ⟨rfl, b, cc, v1, v2, v3, v4⟩)
  go_ret
  rw [hz] at v3 v4
  exact ⟨b, cc, rfl, v2, by omega, hB.trans (v4.mono (T' := []) (by omega) (fun x hx hm => by simp at hm; omega)).below⟩

end Go.Proofs.Ybulkaibe
