/-
  THE WALKS of 'putAll' (of one package) and 'pick'.
-/
import Derived.Test.YbulkaibePut
namespace Go.Proofs.Ybulkaibe
open Go.RowKit Go.WideMaps Go.Maps Kit
open Go.ChangeMaps (setBlock heap_setBlock_other)

abbrev minPol : ByteArray := ⟨#[109, 105, 110, 95, 112, 97, 99, 107, 97, 103, 101, 95, 110, 111, 100, 101]⟩
abbrev confPol : ByteArray := ⟨#[99, 111, 110, 102, 105, 103, 117, 114, 101, 100, 95, 110, 111, 100, 101]⟩

/-- Which node is picked: b: the best so far. -/
def pickM (mn : Bool) (fits : Nat → Bool) (cnt : Nat → Int) : Option Nat → List Nat → Option Nat
  | b, [] => b
  | b, j :: js => if fits j = false then pickM mn fits cnt b js else if mn = false then some j else
    match b with
    | none => pickM mn fits cnt (some j) js
    | some q => if cnt j < cnt q then pickM mn fits cnt (some j) js else pickM mn fits cnt (some q) js

section
variable {fits : Nat → Bool} {cnt : Nat → Int} {j q : Nat} {js : List Nat}
theorem pickM_skip {mn : Bool} {b : Option Nat} (h : fits j = false) : pickM mn fits cnt b (j :: js) = pickM mn fits cnt b js := by simp only [pickM]; rw [if_pos h]
theorem pickM_conf {b : Option Nat} (h : fits j = true) : pickM false fits cnt b (j :: js) = some j := by simp [pickM, h]
theorem pickM_first (h : fits j = true) : pickM true fits cnt none (j :: js) = pickM true fits cnt (some j) js := by simp [pickM, h]
theorem pickM_less (h : fits j = true) (hl : cnt j < cnt q) : pickM true fits cnt (some q) (j :: js) = pickM true fits cnt (some j) js := by simp [pickM, h, hl]
theorem pickM_keep (h : fits j = true) (hl : ¬ cnt j < cnt q) : pickM true fits cnt (some q) (j :: js) = pickM true fits cnt (some q) js := by simp [pickM, h, hl]
end

section
variable {A : Ad} {loc : Nat → Option Nat} {room cnt : Nat → Int} {N : Nat}

set_option maxHeartbeats 1000000 in
theorem putAll_any (w : World) (h : Pln A w loc room cnt N) (hN : N ≤ 100) (t j gb cg : Nat) (ht : t < A.k) (hj : j < 3) (hg : w.cell? ⟨gb, 0, none⟩ = some (ptr (A.pb t))) :
    Calls Yba.prog 14 #[ptr A.pl, .slice (some ⟨gb, 0, none⟩) 1 cg, .string (nnm j)] w fun e w' => e = .returned (.tuple #[]) ∧ Pln A w' (updF loc t (some j)) (updF room j (room j - A.wt t)) (updF cnt j (cnt j + 1)) (N + 1) ∧ Upd w.heap.size A.dyn w w' := by
  have hput := put_any w h hN t j ht hj
  clear h
  go_enter Yba.func14, Yba.ntmps14
  go_wp2
  refine wp_loop_rounds 2 ?_
  rw [rounds_succ]
  go_wp2_with (go_at_call 6; refine hput.mono ?_; rintro e w1 ⟨rfl, h1, u1⟩)
  have H := hide (And.intro h1 u1)
  clear h1 u1 hput
  rw [rounds_succ]
  go_wp2
  go_end0
  exact ⟨rfl, unhide H⟩

/-- The nodes' names, as they lie. -/
structure Nds (w : World) (a : Option Addr) (n : Nat) (idx : List Nat) : Prop where
  len : idx.length = n
  n1 : n ≤ 1024
  lt : ∀ j ∈ idx, j < 3
  at_ : 0 < n → ∃ b, a = some ⟨b, 0, none⟩ ∧ ∀ i, i < n → w.cell? ⟨b, i, none⟩ = some (.string (nnm (idx.getD i 0)))

theorem Nds.get {w : World} {a : Option Addr} {n : Nat} {idx : List Nat} (h : Nds w a n idx) {i : Nat} (hi : i < n) : idx.getD i 0 < 3 ∧ idx.drop i = idx.getD i 0 :: idx.drop (i + 1) := by
  have hl : i < idx.length := by rw [h.len]; exact hi
  have e : idx.getD i 0 = idx[i] := by rw [List.getD, List.getElem?_eq_getElem hl]; rfl
  rw [e]
  exact ⟨h.lt _ (List.getElem_mem hl), List.drop_eq_getElem_cons hl⟩

def fitsB (A : Ad) (room : Nat → Int) (t j : Nat) : Bool := decide (0 ≤ room j - A.wt t)

theorem bestStr (b : Option Nat) (hb : ∀ q, b = some q → q < 3) : ((b.map nnm).getD ByteArray.empty = ByteArray.empty) ↔ b = none := by
  cases b with
  | none => simp
  | some q =>
    have hq := hb q rfl
    simp only [Option.map_some, Option.getD_some]
    constructor
    · intro e
      have key : ∀ a : Fin 3, nnm a ≠ ByteArray.empty := by decide
      exact absurd e (key ⟨q, hq⟩)
    · intro e; cases e

set_option maxRecDepth 20000 in
set_option maxHeartbeats 4000000 in
theorem pick_any (w : World) (h : Pln A w loc room cnt N) (hN : N ≤ 100) (mn : Bool) (hpol : A.pol = if mn then minPol else confPol) (t gb cg : Nat) (ht : t < A.k) (hg : w.cell? ⟨gb, 0, none⟩ = some (ptr (A.pb t))) (a : Option Addr) (n c : Nat) (idx : List Nat) (hn : Nds w a n idx) :
    Calls Yba.prog 13 #[ptr A.pl, ptr (A.pb t), .slice a n c, .slice (some ⟨gb, 0, none⟩) 1 cg] w fun e w' => e = .returned (.string (((pickM mn (fitsB A room t) cnt none idx).map nnm).getD ByteArray.empty)) ∧ Below w.heap.size w w' := by
  have hn1 := hn.n1
  go_enter Yba.func13, Yba.ntmps13
  go_wp2
  go_loopw [9, 14] (fun bv iv wx => ∃ (m : Nat) (b : Option Nat), m ≤ n ∧ iv = .int .i64 m ∧ bv = .string ((b.map nnm).getD ByteArray.empty) ∧ (∀ q, b = some q → q < 3) ∧ pickM mn (fitsB A room t) cnt b (idx.drop m) = pickM mn (fitsB A room t) cnt none idx ∧ Below w.heap.size w wx) (fun _ iv _ => n - (intOf iv).toNat)
  case atStart => exact ⟨0, none, Nat.zero_le _, rfl, rfl, by simp, rfl, Below.refl _ _⟩
  case round =>
    obtain ⟨m, b, hm, rfl, rfl, hb3, hpk, hbx⟩ := hrel
    have HP := hide hpk
    clear hpk
    by_cases hmn : m < n
    · obtain ⟨nb, rfl, hc⟩ := hn.at_ (by omega)
      have q0 := (hbx.cell (p := ⟨nb, m, none⟩) (cell_lt (hc m hmn))).trans (hc m hmn)
      obtain ⟨hj3, hdr⟩ := hn.get hmn
      have hz := hbx.size
      have h1 := h.below hbx
      obtain ⟨j, hj⟩ : ∃ j, j = idx.getD m 0 := ⟨_, rfl⟩
      rw [← hj] at q0 hj3 hdr
      have HD := hide (And.intro hdr hj)
      clear hdr hj hc
      have hgw := (hbx.cell (p := ⟨gb, 0, none⟩) (cell_lt hg)).trans hg
      have hb := h1.rm j hj3
      have hw4 := h1.fix.pk.w4 t
      have hfits := fits_any A.c (A.pb t) (A.wb t) (A.rb j) gb cg (room j) (A.wt t) wr.drew (h1.fix.pk.weights ht) (h1.fix.pk.wm t ht) (h1.rmap j hj3) hgw (by omega) (by omega)
      have look : (Instr.lookup 74 (.map (some A.rm)) (.string (nnm j)) false).run Yba.prog wr.drew = .ok (.map (some (A.rb j))) wr.drew := Fix.lookRoom (w := wr.drew) (h1.fix.of_blocks (fun _ _ => rfl)) hj3
      have p0 : wr.drew.cell? ⟨A.pl, 0, none⟩ = some (ptr A.c) := h1.fix.plCell.1
      have p4 : wr.drew.cell? ⟨A.pl, 4, none⟩ = some (.map (some A.rm)) := h1.fix.plCell.2.2.1
      have fbe : fitsB A room t j = decide (0 ≤ room j - A.wt t) := rfl
      rw [← fbe] at hfits
      have H1 := hide (And.intro h1 hbx)
      clear fbe hb hw4 h1 hbx hgw h hn hg
      generalize hfb : fitsB A room t j = fb at hfits
      have HFB := hide hfb
      clear hfb
      go_wp2
      go_region_held3 (fun W => W.cell? ⟨A.pl, 0, none⟩ = some (ptr A.c) ∧ W.cell? ⟨A.pl, 4, none⟩ = some (.map (some A.rm))) (with_reducible first | exact ⟨by assumption, by assumption⟩) (first | (go_at_call 21; refine hfits.mono ?_; rintro e w2 ⟨rfl, hb2⟩; have hbw : Below w.heap.size w w2 := (unhide H1).2.trans (Below.mono (B := wr.heap.size) ⟨hb2.os, hb2.tape, hb2.output, hb2.size, hb2.block⟩ hz); have h2 := (unhide H1).1.below (w' := w2) ⟨hb2.os, hb2.tape, hb2.output, hb2.size, hb2.block⟩; have c0 := h2.fix.plCell.1; have c4 := h2.fix.plCell.2.2.1; have H2 := hide (And.intro h2 hbw); clear h2 hbw hb2))
      clear look p0 p4 c0 c4 hfits
      cases fb with
      | false =>
        go_wp2
        refine ⟨⟨m + 1, b, by omega, by go_num, rfl, hb3, ?_, (unhide H2).2⟩, by simp [intOf]; omega⟩
        have e := unhide HP
        rw [(unhide HD).1] at e
        rw [← e, pickM_skip (unhide HFB)]
      | true =>
        obtain ⟨h2, hbw⟩ := unhide H2
        have pp := h2.fix.pk.policy ht
        have e := unhide HP
        rw [(unhide HD).1] at e
        have HPK := hide e
        clear e
        cases mn with
        | false =>
          rw [hpol] at pp
          simp only [Bool.false_eq_true, if_false] at pp
          clear h2 hbw
          have hne : ((⟨#[99, 111, 110, 102, 105, 103, 117, 114, 101, 100, 95, 110, 111, 100, 101]⟩ : ByteArray).toList == (⟨#[109, 105, 110, 95, 112, 97, 99, 107, 97, 103, 101, 95, 110, 111, 100, 101]⟩ : ByteArray).toList) = false := by decide +kernel
          go_wp2
          go_ret
          refine ⟨?_, (unhide H2).2⟩
          have e := unhide HPK
          rw [pickM_conf (unhide HFB)] at e
          rw [← e]
          rfl
        | true =>
          rw [hpol] at pp
          simp only [if_true] at pp
          have lk1 : (Instr.lookup 75 (.map (some A.cm)) (.string (nnm j)) false).run Yba.prog w2.drew = .ok (.int .i64 (cnt j)) w2.drew := (h2.below (w' := w2.drew) (Below.refl _ _).drew).lookCount hj3
          have c5d : w2.drew.cell? ⟨A.pl, 5, none⟩ = some (.map (some A.cm)) := h2.fix.plCell.2.2.2
          have c5 := h2.fix.plCell.2.2.2
          cases b with
          | none =>
            clear h2 hbw lk1
            have hem : ((ByteArray.empty).toList == (⟨#[]⟩ : ByteArray).toList) = true := by decide +kernel
            go_wp2
            go_quiet (fail)
            go_wp2
            refine ⟨⟨m + 1, some j, by omega, by go_num, rfl, fun q hq => by cases hq; exact hj3, ?_, below_drewN (unhide H2).2 _⟩, by simp [intOf]; omega⟩
            rw [← unhide HPK, pickM_first (unhide HFB)]
          | some q =>
            have hq3 := hb3 q rfl
            have lk2 : (Instr.lookup 75 (.map (some A.cm)) (.string (nnm q)) false).run Yba.prog w2.drew = .ok (.int .i64 (cnt q)) w2.drew := (h2.below (w' := w2.drew) (Below.refl _ _).drew).lookCount hq3
            have hem : (nnm q).toList.isEmpty = false := by
              have key : ∀ a : Fin 3, (nnm a).toList.isEmpty = false := by decide +kernel
              exact key ⟨q, hq3⟩
            clear h2 hbw
            by_cases hlt : cnt j < cnt q
            · go_wp2
              go_region_held3 (fun W => W.cell? ⟨A.pl, 5, none⟩ = some (.map (some A.cm))) (with_reducible first | assumption) (first | fail)
              go_wp2
              all_goals
                refine ⟨⟨m + 1, some j, by omega, by go_num, rfl, fun q hq => by cases hq; exact hj3, ?_, (unhide H2).2.drew⟩, by simp [intOf]; omega⟩
                rw [← unhide HPK, pickM_less (unhide HFB) hlt]
            · go_wp2
              go_region_held3 (fun W => W.cell? ⟨A.pl, 5, none⟩ = some (.map (some A.cm))) (with_reducible first | assumption) (first | fail)
              go_wp2
              all_goals
                refine ⟨⟨m + 1, some q, by omega, by go_num, rfl, hb3, ?_, (unhide H2).2.drew⟩, by simp [intOf]; omega⟩
                rw [← unhide HPK, pickM_keep (unhide HFB) (Int.not_lt.2 hlt)]
    · go_wp2
      go_ret
      have hme : m = n := by omega
      have e := unhide HP
      rw [hme, List.drop_of_length_le (by rw [hn.len]; exact Nat.le_refl _)] at e
      rw [← e]
      exact ⟨rfl, hbx⟩
end

end Go.Proofs.Ybulkaibe
