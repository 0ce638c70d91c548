/-
  THE WALK of 'putGroup' (of one package).
-/
import Derived.Test.YbulkaibeMake
namespace Go.Proofs.Ybulkaibe
open Go.RowKit Go.WideMaps Go.Maps Kit
open Go.ChangeMaps (setBlock heap_setBlock_other)

/-! ### The first a of s removed from node j -/
def locR (s : List Nat) (loc : Nat → Option Nat) : Nat → Nat → Option Nat
  | 0 => loc
  | a + 1 => updF (locR s loc a) (s.getD a 0) none
def roomR (wt : Nat → Nat) (s : List Nat) (j : Nat) (room : Nat → Int) : Nat → Nat → Int
  | 0 => room
  | a + 1 => updF (roomR wt s j room a) j (roomR wt s j room a j + wt (s.getD a 0))
def cntR (j : Nat) (cnt : Nat → Int) : Nat → Nat → Int
  | 0 => cnt
  | a + 1 => updF (cntR j cnt a) j (cntR j cnt a j - 1)

theorem locR_other {s : List Nat} {loc : Nat → Option Nat} {q : Nat} : ∀ a, (∀ i, i < a → s.getD i 0 ≠ q) → locR s loc a q = loc q
  | 0, _ => rfl
  | a + 1, h => by
    show updF (locR s loc a) (s.getD a 0) none q = loc q
    rw [updF_other _ _ (fun e => h a (by omega) e.symm)]
    exact locR_other a (fun i hi => h i (by omega))

section
variable {A : Ad} {loc : Nat → Option Nat} {room cnt : Nat → Int} {N : Nat}

theorem cell_no_map {w : World} {b i : Nat} {v : Value} {es : Array MapEntry} {c : Nat} (h : w.cell? ⟨b, i, none⟩ = some v) (hm : w.heap[b]? = some (.map es c)) : False := by
  simp [World.cell?, hm] at h
theorem mapIs_blk {w : World} {k b n : Nat} {f : Lit → Option Value} (h : mapIs w Yba.prog k b n f) : ∃ es c, w.heap[b]? = some (.map es c) := by
  obtain ⟨D, ⟨es, clock, hb, _⟩, _⟩ := h
  exact ⟨es, clock, hb⟩
/-- A block of cells is none of those that turn. -/
theorem Pln.cell_dyn {w : World} (h : Pln A w loc room cnt N) {b i : Nat} {v : Value} (hc : w.cell? ⟨b, i, none⟩ = some v) : b ∉ A.dyn := by
  intro hb
  simp only [Ad.dyn, List.mem_cons, List.not_mem_nil, or_false] at hb
  obtain ⟨f, hf, _⟩ := h.placed
  obtain ⟨g, hg, _⟩ := h.count
  rcases hb with e | e | e | e | e <;> subst e
  · obtain ⟨es, c, hm⟩ := mapIs_blk hf; exact cell_no_map hc hm
  · obtain ⟨es, c, hm⟩ := mapIs_blk hg; exact cell_no_map hc hm
  · exact cell_no_map hc (h.rmap 0 (by omega))
  · exact cell_no_map hc (h.rmap 1 (by omega))
  · exact cell_no_map hc (h.rmap 2 (by omega))
theorem Pln.cell_on {w w' : World} (h : Pln A w loc room cnt N) (hU : Upd w.heap.size A.dyn w w') {b i : Nat} {v : Value} (hc : w.cell? ⟨b, i, none⟩ = some v) : w'.cell? ⟨b, i, none⟩ = some v := by
  rw [hU.cell (p := ⟨b, i, none⟩) (cell_lt hc) (h.cell_dyn hc)]; exact hc

theorem sorted_getD {k t j : Nat} (hk : k ≤ 6) {loc : Nat → Option Nat} {pri : Nat → Nat} {a : Nat} (ha : a < (sorted k loc pri t j).length) :
    (sorted k loc pri t j).getD a 0 < k ∧ loc ((sorted k loc pri t j).getD a 0) = some j ∧ ∀ i, i < a → (sorted k loc pri t j).getD i 0 ≠ (sorted k loc pri t j).getD a 0 := by
  have hs := sorted_is hk loc pri t j
  have e : ∀ i, (hi : i < (sorted k loc pri t j).length) → (sorted k loc pri t j).getD i 0 = (sorted k loc pri t j)[i] := fun i hi => by rw [List.getD, List.getElem?_eq_getElem hi]; rfl
  rw [e a ha]
  have hm := mem_cands.1 ((hs.mem _).1 (List.getElem_mem ha))
  refine ⟨hm.1, hm.2.1, fun i hi => ?_⟩
  rw [e i (by omega)]
  have := (List.pairwise_iff_getElem.1 hs.ord) i a (by omega) ha hi
  intro e'
  rw [e'] at this
  omega

/-- What 'putGroup' answers, and what it leaves. -/
structure Grp (A : Ad) (loc : Nat → Option Nat) (room cnt : Nat → Int) (N : Nat) (mn : Bool) (t : Nat) (idx : List Nat) (e : Ending) (w' : World) : Prop where
  picked : ∀ j, pickM mn (fitsB A room t) cnt none idx = some j → e = .returned (.tuple #[.slice none 0 0, .bool true]) ∧ Pln A w' (updF loc t (some j)) (updF room j (room j - A.wt t)) (updF cnt j (cnt j + 1)) (N + 1)
  none : pickM mn (fitsB A room t) cnt none idx = none → groupM A.wt t (sorted A.k loc A.pri t) room idx = none → e = .returned (.tuple #[.slice none 0 0, .bool false]) ∧ Pln A w' loc room cnt N
  made : ∀ j m, pickM mn (fitsB A room t) cnt Option.none idx = Option.none → groupM A.wt t (sorted A.k loc A.pri t) room idx = some (j, m) → ∃ a c, e = .returned (.tuple #[.slice a m c, .bool true]) ∧ m ≤ (sorted A.k loc A.pri t j).length ∧ (0 < m → ∃ b, a = some ⟨b, 0, Option.none⟩ ∧ ∀ i, i < m → w'.cell? ⟨b, i, Option.none⟩ = some (ptr (A.pb ((sorted A.k loc A.pri t j).getD i 0)))) ∧
    Pln A w' (updF (locR (sorted A.k loc A.pri t j) loc m) t (some j)) (updF (roomR A.wt (sorted A.k loc A.pri t j) j room m) j (roomR A.wt (sorted A.k loc A.pri t j) j room m j - A.wt t)) (updF (cntR j cnt m) j (cntR j cnt m j + 1)) (N + m + 1)

theorem pickM_lt {mn : Bool} {fits : Nat → Bool} {cnt : Nat → Int} : ∀ {idx : List Nat} {b : Option Nat} {j : Nat}, (∀ q, b = some q → q < 3) → (∀ q ∈ idx, q < 3) → pickM mn fits cnt b idx = some j → j < 3
  | [], b, j, hb, _, h => hb j h
  | x :: xs, b, j, hb, hi, h => by
    have hx := hi x (by simp)
    have hxs : ∀ q ∈ xs, q < 3 := fun q hq => hi q (List.mem_cons_of_mem _ hq)
    simp only [pickM] at h
    split at h
    · exact pickM_lt hb hxs h
    · split at h
      · cases h; exact hx
      · cases b with
        | none => exact pickM_lt (fun q hq => by cases hq; exact hx) hxs h
        | some q =>
          simp only at h
          split at h
          · exact pickM_lt (fun q hq => by cases hq; exact hx) hxs h
          · exact pickM_lt hb hxs h

set_option maxRecDepth 100000 in
set_option maxHeartbeats 4000000 in
theorem putGroup_any (w : World) (h : Pln A w loc room cnt N) (hN : N ≤ 50) (mn : Bool) (hpol : A.pol = if mn then minPol else confPol) (t gb cg : Nat) (ht : t < A.k) (hg : w.cell? ⟨gb, 0, none⟩ = some (ptr (A.pb t))) (a : Option Addr) (n c : Nat) (idx : List Nat) (hn : Nds w a n idx) :
    Calls Yba.prog 9 #[ptr A.pl, ptr (A.pb t), .slice (some ⟨gb, 0, none⟩) 1 cg, .slice a n c] w fun e w' => Grp A loc room cnt N mn t idx e w' ∧ Upd w.heap.size A.dyn w w' := by
  have hpick := pick_any w h (by omega) mn hpol t gb cg ht hg a n c idx hn
  have k6 := h.fix.pk.k6
  have hn1 := hn.n1
  cases hpk : pickM mn (fitsB A room t) cnt none idx with
  | some j =>
    have hj3 : j < 3 := pickM_lt (by simp) hn.lt hpk
    rw [hpk] at hpick
    simp only [Option.map_some, Option.getD_some] at hpick
    have hem : (nnm j).toList.isEmpty = false := by
      have key : ∀ a : Fin 3, (nnm a).toList.isEmpty = false := by decide +kernel
      exact key ⟨j, hj3⟩
    have hput : ∀ w1, Below w.heap.size w w1 → Calls Yba.prog 14 #[ptr A.pl, .slice (some ⟨gb, 0, none⟩) 1 cg, .string (nnm j)] w1 fun e w' => e = .returned (.tuple #[]) ∧ Hid (Grp A loc room cnt N mn t idx (.returned (.tuple #[.slice none 0 0, .bool true])) w' ∧ Upd w.heap.size A.dyn w w') := fun w1 hb1 => by
      refine (putAll_any w1 (h.below hb1) (by omega) t j gb cg ht hj3 ((hb1.cell (p := ⟨gb, 0, none⟩) (cell_lt hg)).trans hg)).mono ?_
      rintro e w2 ⟨he, hp2, hu2⟩
      refine ⟨he, ⟨fun j' e' => ?_, fun e' => (by rw [hpk] at e'; cases e'), fun j' m e' => (by rw [hpk] at e'; cases e')⟩, (Upd.of_below hb1).trans (hu2.mono hb1.size (fun _ _ h => h))⟩
      rw [hpk] at e'; cases e'
      exact ⟨rfl, hp2⟩
    clear hpk h hg hn
    go_enter Yba.func9, Yba.ntmps9
    go_wp2_with (first | (go_at_call 13; refine hpick.mono ?_; rintro e w1 ⟨rfl, hb1⟩) | (go_at_call 14; refine (hput w1 hb1).mono ?_; rintro e w2 ⟨rfl, HF⟩))
    go_ret2
    exact unhide HF
  | none =>
    rw [hpk] at hpick
    simp only [Option.map_none, Option.getD_none] at hpick
    have HPK := hide hpk
    have H := hide (And.intro h (And.intro hg hn))
    clear hpk h hg hn
    have hem : ((ByteArray.empty).toList == (⟨#[]⟩ : ByteArray).toList) = true := by decide +kernel
    go_enter Yba.func9, Yba.ntmps9
    go_wp2_with (go_at_call 13; refine hpick.mono ?_; rintro e w1 ⟨rfl, hb1⟩)
    clear hpick hem
    go_loopw [30] (fun iv wx => ∃ m : Nat, m ≤ n ∧ iv = .int .i64 m ∧ groupM A.wt t (sorted A.k loc A.pri t) room (idx.drop m) = groupM A.wt t (sorted A.k loc A.pri t) room idx ∧ Below w.heap.size w wx) (fun iv _ => n - (intOf iv).toNat)
    case atStart => exact ⟨0, Nat.zero_le _, rfl, rfl, hb1⟩
    case round =>
      obtain ⟨m, hm, rfl, hgm, hbx⟩ := hrel
      obtain ⟨h, hg, hn⟩ := unhide H
      by_cases hmn : m < n
      · obtain ⟨nb, rfl, hc⟩ := hn.at_ (by omega)
        have q0 := (hbx.cell (p := ⟨nb, m, none⟩) (cell_lt (hc m hmn))).trans (hc m hmn)
        obtain ⟨hj3, hdr⟩ := hn.get hmn
        have hz := hbx.size
        have hx := h.below hbx
        obtain ⟨j, hj⟩ : ∃ j, j = idx.getD m 0 := ⟨_, rfl⟩
        rw [← hj] at q0 hj3 hdr
        rw [hdr] at hgm
        have hgw := (hbx.cell (p := ⟨gb, 0, none⟩) (cell_lt hg)).trans hg
        have hmk := makeRoom_any wr hx (by omega) t j gb cg ht hj3 hgw
        clear hj hdr hc
        cases hh : haltM A.wt t (sorted A.k loc A.pri t j) 0 (room j) with
        | none =>
          have hmk' : Calls Yba.prog 15 #[ptr A.pl, ptr (A.pb t), .string (nnm j), .slice (some ⟨gb, 0, none⟩) 1 cg] wr fun e w' => e = .returned (.tuple #[.slice none 0 0, .bool false]) ∧ Below wr.heap.size wr w' := hmk.mono (fun e w' ⟨h1, h2⟩ => ⟨h2.1 hh, h1⟩)
          have hgm' : groupM A.wt t (sorted A.k loc A.pri t) room (idx.drop (m + 1)) = groupM A.wt t (sorted A.k loc A.pri t) room idx := by
            rw [← hgm]; simp only [groupM]; rw [hh]
          have HG := hide hgm'
          clear hmk hgm hgm' hh h hg hn hx hgw
          go_wp2_with (go_at_call 15; refine hmk'.mono ?_; rintro e w2 ⟨rfl, hb2⟩)
          refine ⟨⟨m + 1, by omega, by go_num, unhide HG, hbx.trans (hb2.mono hz)⟩, by simp [intOf]; omega⟩
        | some mm =>
          obtain ⟨s, hs⟩ : ∃ s, s = sorted A.k loc A.pri t j := ⟨_, rfl⟩
          have hmk' : Calls Yba.prog 15 #[ptr A.pl, ptr (A.pb t), .string (nnm j), .slice (some ⟨gb, 0, none⟩) 1 cg] wr fun e w2 => ∃ aH cH, e = .returned (.tuple #[.slice aH mm cH, .bool true]) ∧ Hid (Below wr.heap.size wr w2 ∧ mm ≤ s.length ∧ (0 < mm → ∃ b, aH = some ⟨b, 0, none⟩ ∧ ∀ i, i < mm → w2.cell? ⟨b, i, none⟩ = some (ptr (A.pb (s.getD i 0))))) := hmk.mono (fun e w' ⟨h1, h2⟩ => by
            obtain ⟨aH, cH, e1, e2, e3⟩ := h2.2 mm hh
            rw [hs]
            exact ⟨aH, cH, e1, h1, e2, e3⟩)
          have hgr : groupM A.wt t (sorted A.k loc A.pri t) room idx = some (j, mm) := by rw [← hgm]; simp only [groupM]; rw [hh]
          have hsd : ∀ a, a < s.length → s.getD a 0 < A.k ∧ loc (s.getD a 0) = some j ∧ ∀ i, i < a → s.getD i 0 ≠ s.getD a 0 := fun a ha => by
            rw [hs] at ha ⊢; exact sorted_getD k6 ha
          have hs6 : s.length ≤ 6 := by
            rw [hs]; unfold sorted; rw [List.length_mergeSort]
            have : (cands A.k loc A.pri t j).length ≤ A.k := Nat.le_trans (List.length_filter_le _ _) (by simp)
            omega
          have HX := hide (And.intro hx (And.intro hgw (And.intro hbx (And.intro hgr (And.intro hs hsd)))))
          clear hmk hgm hh h hg hn hx hgw hbx hgr hs hsd
          go_wp2_with (go_at_call 15; refine hmk'.mono ?_; rintro e w2 ⟨aH, cH, rfl, H2⟩)
          clear hmk' q0
          rename World => wm
          have hml := (unhide H2).2.1
          have hmm6 : mm ≤ 6 := by omega
          go_loopw [45] (fun iv wy => ∃ a : Nat, a ≤ mm ∧ iv = .int .i64 a ∧ Pln A wy (locR s loc a) (roomR A.wt s j room a) (cntR j cnt a) (N + a) ∧ Upd wm.heap.size A.dyn wm wy) (fun iv _ => mm - (intOf iv).toNat)
          case atStart => exact ⟨0, Nat.zero_le _, rfl, (unhide HX).1.below (unhide H2).1, Upd.refl _ _ _⟩
          case round =>
            obtain ⟨a, ha, rfl, hpl, hu⟩ := hrel
            have hpm : Pln A wm loc room cnt N := (unhide HX).1.below (unhide H2).1
            by_cases ham : a < mm
            · obtain ⟨b, rfl, hc⟩ := (unhide H2).2.2 (by omega)
              have q1 := hpm.cell_on hu (hc a ham)
              obtain ⟨hqk, hql, hqn⟩ := (unhide HX).2.2.2.2.2 a (by omega)
              have hrm := remove_any wr hpl (by omega) (s.getD a 0) j hqk hj3 (by rw [locR_other a hqn]; exact hql)
              have hrm' : Calls Yba.prog 16 #[ptr A.pl, ptr (A.pb (s.getD a 0))] wr fun e w' => e = .returned (.tuple #[]) ∧ Hid (Pln A w' (locR s loc (a + 1)) (roomR A.wt s j room (a + 1)) (cntR j cnt (a + 1)) (N + (a + 1)) ∧ Upd wm.heap.size A.dyn wm w') := hrm.mono (fun e w' ⟨e1, e2, e3⟩ => ⟨e1, e2, hu.trans (e3.mono hu.size (fun _ _ h => h))⟩)
              clear hrm hc hqk hql hqn hpl hu hpm
              generalize s.getD a 0 = q at q1 hrm'
              go_wp2_with (go_at_call 16; refine hrm'.mono ?_; rintro e w3 ⟨rfl, H3⟩)
              refine ⟨⟨a + 1, by omega, by go_num, (unhide H3).1, (unhide H3).2⟩, by simp [intOf]; omega⟩
            · have hae : mm = a := by omega
              subst hae
              have hgy := hpm.cell_on hu (((unhide H2).1.cell (p := ⟨gb, 0, none⟩) (cell_lt (unhide HX).2.1)).trans (unhide HX).2.1)
              have hpa := putAll_any wr hpl (by omega) t j gb cg ht hj3 hgy
              have hpa' : Calls Yba.prog 14 #[ptr A.pl, .slice (some ⟨gb, 0, none⟩) 1 cg, .string (nnm j)] wr fun e w' => e = .returned (.tuple #[]) ∧ Hid (Grp A loc room cnt N mn t idx (.returned (.tuple #[.slice aH mm cH, .bool true])) w' ∧ Upd w.heap.size A.dyn w w') := hpa.mono (fun e w' ⟨e1, e2, e3⟩ => by
                obtain ⟨hx, hgw, hbx, hgr, hs, hsd⟩ := unhide HX
                obtain ⟨hb2, _, hrw⟩ := unhide H2
                refine ⟨e1, ⟨fun j' e' => (by rw [unhide HPK] at e'; cases e'), fun _ e' => (by rw [hgr] at e'; cases e'), fun j' m' _ e' => ?_⟩, ((Upd.of_below hbx).trans ((Upd.of_below hb2).mono hbx.size (fun _ _ h => h))).trans ((hu.trans (e3.mono hu.size (fun _ _ h => h))).mono (by have := hb2.size; omega) (fun _ _ h => h))⟩
                rw [hgr] at e'; cases e'
                rw [← hs]
                refine ⟨aH, cH, rfl, hml, fun hpos => ?_, e2⟩
                obtain ⟨b, e0, hc⟩ := hrw hpos
                exact ⟨b, e0, fun i hi => hpl.cell_on e3 (hpm.cell_on hu (hc i hi))⟩)
              clear hpa hpl hu hpm hgy
              go_wp2_with (go_at_call 14; refine hpa'.mono ?_; rintro e w3 ⟨rfl, H3⟩)
              go_ret2
              exact unhide H3
      · have hme : m = n := by omega
        rw [hme, List.drop_of_length_le (by rw [hn.len]; exact Nat.le_refl _)] at hgm
        have hfin : Grp A loc room cnt N mn t idx (.returned (.tuple #[.slice none 0 0, .bool false])) wr := by
          have e0 : groupM A.wt t (sorted A.k loc A.pri t) room idx = none := by rw [← hgm]; rfl
          refine ⟨fun j' e' => (by rw [unhide HPK] at e'; cases e'), fun _ _ => ⟨rfl, h.below hbx⟩, fun j' m e' e2 => (by rw [e0] at e2; cases e2)⟩
        have HF := hide (And.intro hfin (Upd.of_below (T := A.dyn) hbx))
        clear hfin hgm h hg hn hbx
        go_wp2
        go_ret2
        exact unhide HF
end

end Go.Proofs.Ybulkaibe
