/-
  THE WALK of LawS1694CPutGroup, statement by statement.
-/
import Derived.Test.YbulkaibeBegin
import Derived.Test.YbulkaibeLoop1
import Derived.Test.YbulkaibeBits
import Derived.Test.YbulkaibeLoop2
import Derived.Test.YbulkaibeWants
import Derived.Test.YbulkaibeMakes
import Derived.Test.YbulkaibeLoop11
import Derived.Test.YbulkaibeEnds
namespace Go.Proofs.Ybulkaibe
open Go.RowKit Go.WideMaps Go.Maps Kit
open Go.ChangeMaps (setBlock heap_setBlock_other)

/-- The case as it came in: 25 cells. -/
abbrev zCells (P W H C : Nat → Nat) (a : Option Addr) (l c K T : Nat) (mn : Bool) : Array Value :=
  #[.int .u8 (P 0 : Nat), .int .u8 (P 1 : Nat), .int .u8 (P 2 : Nat), .int .u8 (P 3 : Nat), .int .u8 (P 4 : Nat), .int .u8 (P 5 : Nat), .int .u8 (W 0 : Nat), .int .u8 (W 1 : Nat), .int .u8 (W 2 : Nat), .int .u8 (W 3 : Nat), .int .u8 (W 4 : Nat), .int .u8 (W 5 : Nat),
    .int .u8 (H 0 : Nat), .int .u8 (H 1 : Nat), .int .u8 (H 2 : Nat), .int .u8 (H 3 : Nat), .int .u8 (H 4 : Nat), .int .u8 (H 5 : Nat), .int .u8 (C 0 : Nat), .int .u8 (C 1 : Nat), .int .u8 (C 2 : Nat), .slice a l c, .int .u8 (K : Nat), .int .u8 (T : Nat), .bool mn]

theorem zCells_ok (P W H C : Nat → Nat) (a : Option Addr) (l c K T : Nat) (mn : Bool) : Zs (zCells P W H C a l c K T mn) P W H C (.slice a l c) mn := by
  refine ⟨fun i hi => ?_, fun i hi => ?_, fun i hi => ?_, fun i hi => ?_, rfl, rfl⟩
  · match i, hi with
    | 0, _ => rfl
    | 1, _ => rfl
    | 2, _ => rfl
    | 3, _ => rfl
    | 4, _ => rfl
    | 5, _ => rfl
  · match i, hi with
    | 0, _ => rfl
    | 1, _ => rfl
    | 2, _ => rfl
    | 3, _ => rfl
    | 4, _ => rfl
    | 5, _ => rfl
  · match i, hi with
    | 0, _ => rfl
    | 1, _ => rfl
    | 2, _ => rfl
    | 3, _ => rfl
    | 4, _ => rfl
    | 5, _ => rfl
  · match i, hi with
    | 0, _ => rfl
    | 1, _ => rfl
    | 2, _ => rfl

theorem outM_is {A : Ad} {loc : Nat → Option Nat} {room cnt : Nat → Int} {mn : Bool} {t : Nat} {idx : List Nat} : outM A loc room cnt mn t idx = outB (groupM A.wt t (sorted A.k loc A.pri t) room idx) (pickM mn (fitsB A room t) cnt none idx) := by
  unfold outM outB; rfl
theorem Nds.below {w w' : World} {a : Option Addr} {n : Nat} {idx : List Nat} (h : Nds w a n idx) (hB : Below w.heap.size w w') : Nds w' a n idx :=
  ⟨h.len, h.n1, h.lt, fun hn => by obtain ⟨b, e, hc⟩ := h.at_ hn; exact ⟨b, e, fun i hi => (hB.cell (p := ⟨b, i, none⟩) (cell_lt (hc i hi))).trans (hc i hi)⟩⟩
theorem low {n B : Nat} {T : List Nat} {w a b : World} (h : Below n w a) (u : Upd B T a b) (hT : ∀ x, x ∈ T → n ≤ x) (hB : n ≤ B) : Below n w b :=
  h.trans ⟨u.os, u.tape, u.output, u.size, fun k hk => u.block k (by omega) (fun e => by have := hT k e; omega)⟩

set_option maxRecDepth 100000 in
set_option maxHeartbeats 4000000 in
theorem law_any (P W H C S : Nat → Nat) (a : Option Addr) (l c K T : Nat) (mn : Bool) (w : World) (hl : l ≤ 1024) (hK : K < 256) (hT : T < 256) (hC : ∀ i, C i < 256) (hS : ∀ q, q < l → ∃ b o, a = some ⟨b, o, none⟩ ∧ w.cell? ⟨b, o + q, none⟩ = some (.int .u8 (S q : Nat))) :
    Calls Yba.prog 3 #[.agg (zCells P W H C a l c K T mn)] w fun e w' => e = .returned (.bool true) ∧ Below w.heap.size w w' := by
  have hZ := zCells_ok P W H C a l c K T mn
  obtain ⟨k, hk⟩ : ∃ k, k = 1 + K % 6 := ⟨_, rfl⟩
  have hk1 : (K : Int) % 6 + 1 = (k : Int) := by omega
  have hk1' : 1 + (K : Int) % 6 = (k : Int) := by omega
  have hk0 : 0 < k := by omega
  have hk6 : k ≤ 6 := by omega
  obtain ⟨t, ht⟩ : ∃ t, t = T % k := ⟨_, rfl⟩
  have ht1 : (T : Int) % (k : Int) = (t : Int) := by rw [ht]; omega
  have htk : t < k := by rw [ht]; exact Nat.mod_lt _ hk0
  have HS := hide (And.intro hS hZ)
  clear hk ht hS hZ
  go_enter Yba.func3, Yba.ntmps3
  refine wp_seq_k (fun K hK => ?_)
  have HK := hide hK
  clear hK
  go_wp2
  refine unhide HK _ _ ?_
  clear HK K
  refine wp_seq_k (fun K hK => ?_)
  have HK := hide hK
  clear hK
  go_wp2
  refine unhide HK _ _ ?_
  clear HK K
  refine wp_seq_k (fun K hK => ?_)
  have HK := hide hK
  clear hK
  go_wp2
  refine unhide HK _ _ ?_
  clear HK K
  refine wp_seq_k (fun K hK => ?_)
  have HK := hide hK
  clear hK
  go_wp2
  refine unhide HK _ _ ?_
  clear HK K
  refine wp_seq_k (fun K hK => ?_)
  have HK := hide hK
  clear hK
  go_wp2
  refine unhide HK _ _ ?_
  clear HK K
  refine wp_seq_k (fun K hK => ?_)
  have HK := hide hK
  clear hK
  go_wp2
  refine unhide HK _ _ ?_
  clear HK K
  rw [ht1]
  clear hk1 hk1' ht1
  obtain ⟨hS, hZ⟩ := unhide HS
  clear HS
  obtain ⟨W0, hW0'⟩ : ∃ W0, W0 = ((w.alloc (.cells (zCells P W H C a l c K T mn) 26)).alloc (.cells #[.string ⟨#[97]⟩, .string ⟨#[98]⟩, .string ⟨#[99]⟩] 27)).alloc (.cells (clCells (.slice none 0 0) (.slice none 0 0)) 45) := ⟨_, rfl⟩
  rw [← hW0']
  obtain ⟨Z, hZe⟩ : ∃ Z, Z = zCells P W H C a l c K T mn := ⟨_, rfl⟩
  have hW0 : W0 = ((w.alloc (.cells Z 26)).alloc (.cells namesC 27)).alloc (.cells (clCells (.slice none 0 0) (.slice none 0 0)) 45) := by rw [hW0', hZe]
  rw [← hZe] at hZ
  rw [← hZe]
  clear hW0' hZe
  have z0 : W0.heap.size = w.heap.size + 3 := by rw [hW0]; simp
  have hB0 : Below w.heap.size w W0 := by rw [hW0]; exact (((Below.refl _ _).alloc (Nat.le_refl _) _).alloc (by simp) _).alloc (by simp; omega) _
  have b0 : W0.heap[w.heap.size]? = some (.cells Z 26) := by
    rw [hW0, blk_old _ _ (by simp; omega), blk_old _ _ (by simp)]; exact blk_new _ _
  have b1 : W0.heap[w.heap.size + 1]? = some (.cells namesC 27) := by
    rw [hW0, blk_old _ _ (by simp)]
    have := blk_new (w.alloc (.cells Z 26)) (.cells namesC 27)
    simpa only [World.size_alloc] using this
  have b2 : W0.heap[w.heap.size + 1 + 1]? = some (.cells (clCells (.slice none 0 0) (.slice none 0 0)) 45) := by
    rw [hW0]
    have := blk_new ((w.alloc (.cells Z 26)).alloc (.cells namesC 27)) (.cells (clCells (.slice none 0 0) (.slice none 0 0)) 45)
    simpa only [World.size_alloc] using this
  have hNd0 : Nd W0 (w.heap.size + 1 + 1) C 0 W0 := ⟨⟨none, 0, fun _ => 0, [], b2, World.ownsRow_nil _ _ _ _, fun j hj => absurd hj (by omega)⟩, Upd.refl _ _ _, by omega⟩
  clear hW0
  have hSl : ∀ q, q < l → ∃ b o, a = some ⟨b, o, none⟩ ∧ b < w.heap.size ∧ w.cell? ⟨b, o + q, none⟩ = some (.int .u8 (S q : Nat)) := fun q hq => by
    obtain ⟨b, o, e, hc⟩ := hS q hq
    exact ⟨b, o, e, cell_lt hc, hc⟩
  clear hS
  generalize hcc : w.heap.size + 1 + 1 = cc at *
  generalize hnB : w.heap.size + 1 = nB at *
  have HW := hide hB0
  clear hB0
  generalize hzB : w.heap.size = zB at *
  refine wp_seq ?_
  refine stm6_ok (fun _ _ _ _ h => nomatch h.2.1) W0 zB nB cc hZ b0 b1 (by omega) (by omega) hC hNd0 ?_
  intro u7 u67 u68 u69 u70 u71 u72 u73 u74 u75 u76 u77 u78 u79 u80 u81 u82 u83 u84 u85 u86 u87 u88 u89 u90 w1 hN
  show Code.wp Yba.prog _ _ _ _
  obtain ⟨nr, cn, cb, hNod, hcb, hcB, hnr⟩ := hN.nod
  have hud1 := hN.ud
  have zb1 : w1.heap[zB]? = some (.cells Z 26) := (hud1.block zB (blk_lt b0) (by simp; omega)).trans b0
  have nb1 : w1.heap[nB]? = some (.cells namesC 27) := (hud1.block nB (blk_lt b1) (by simp; omega)).trans b1
  have zm1 := cell_of_blk zb1 hZ.mn
  have H1 := hide (And.intro hZ (And.intro b0 (And.intro b1 (And.intro hNod (And.intro hcb (And.intro hcB (And.intro hnr (And.intro hud1 (And.intro zb1 (And.intro nb1 (And.intro hSl (And.intro z0 (And.intro hcc (And.intro hnB hzB))))))))))))))
  clear hZ b0 b1 b2 hNod hcb hcB hnr hud1 zb1 nb1 hSl z0 hcc hnB hzB hN hNd0
  refine wp_seq_k (fun K hK => ?_)
  have HK := hide hK
  clear hK
  go_wp2
  refine unhide HK _ _ ?_
  clear HK K
  refine wp_seq ?_
  refine stm8_ok w1 zB mn zm1 ?_
  intro u8 u91 u92 w1' hu
  obtain ⟨hu8, hw1'⟩ := hu
  subst hu8
  subst hw1'
  show Code.wp Yba.prog _ _ _ _
  obtain ⟨pol, hpol⟩ : ∃ pol, pol = (if mn then minPol else confPol) := ⟨_, rfl⟩
  rw [← hpol]
  have HPOL := hide hpol
  clear hpol zm1
  have hm50 := fun w => make50 k (by omega) w
  have hm51 := fun w => make51 k (by omega) w
  refine wp_seq_k (fun K hK => ?_)
  have HK := hide hK
  clear hK
  go_wp2
  refine unhide HK _ _ ?_
  clear HK K
  refine wp_seq_k (fun K hK => ?_)
  have HK := hide hK
  clear hK
  go_wp2
  refine unhide HK _ _ ?_
  clear HK K
  refine wp_seq_k (fun K hK => ?_)
  have HK := hide hK
  clear hK
  go_wp2
  refine unhide HK _ _ ?_
  clear HK K
  clear hm50 hm51
  obtain ⟨W2, hW2⟩ : ∃ W2, W2 = ((w1'.alloc (.cells (madeCells #[.int .i64 0] k) 3)).alloc (.cells (madeCells #[.int .i64 0] k) 2)).alloc (.cells (madeCells #[.int .i64 0] k) 3) := ⟨_, rfl⟩
  rw [← hW2]
  obtain ⟨hZ, b0, b1, hNod, hcb, hcB, hnr, hud1, zb1, nb1, hSl, z0, hcc, hnB, hzB⟩ := unhide H1
  have z1 := hud1.size
  have z2 : W2.heap.size = w1'.heap.size + 3 := by rw [hW2]; simp
  have hB2 : Below w1'.heap.size w1' W2 := by rw [hW2]; exact (((Below.refl _ _).alloc (Nat.le_refl _) _).alloc (by simp) _).alloc (by simp; omega) _
  have bp : W2.heap[w1'.heap.size]? = some (.cells (madeCells #[.int .i64 0] k) 3) := by
    rw [hW2, blk_old _ _ (by simp; omega), blk_old _ _ (by simp)]; exact blk_new _ _
  have bw : W2.heap[w1'.heap.size + 1]? = some (.cells (madeCells #[.int .i64 0] k) 2) := by
    rw [hW2, blk_old _ _ (by simp)]
    have := blk_new (w1'.alloc (.cells (madeCells #[.int .i64 0] k) 3)) (.cells (madeCells #[.int .i64 0] k) 2)
    simpa only [World.size_alloc] using this
  have bl : W2.heap[w1'.heap.size + 1 + 1]? = some (.cells (madeCells #[.int .i64 0] k) 3) := by
    rw [hW2]
    have := blk_new ((w1'.alloc (.cells (madeCells #[.int .i64 0] k) 3)).alloc (.cells (madeCells #[.int .i64 0] k) 2)) (.cells (madeCells #[.int .i64 0] k) 3)
    simpa only [World.size_alloc] using this
  clear hW2
  have zb2 := (hB2.block zB (blk_lt zb1)).trans zb1
  have nb2 := (hB2.block nB (blk_lt nb1)).trans nb1
  have cb2 := (hB2.block cc (blk_lt hcB)).trans hcB
  have hPg0 : Pg W2 cc w1'.heap.size (w1'.heap.size + 1) k P W pol (.slice (some ⟨nr, 0, none⟩) 3 cn) 0 (fun _ => 0) (fun _ => 0) W2 :=
    ⟨⟨none, 0, fun _ => 0, fun _ => 0, cb2, World.ownsRow_nil _ _ _ _, ⟨fun i hi => absurd hi (by omega), fun i hi => absurd hi (by omega), fun i j hi => absurd hi (by omega), by omega, fun q => Nat.mod_lt _ (by omega), fun q => by have := Nat.mod_lt (W q) (show 0 < 5 by omega); omega⟩, fun q hq => absurd hq (by omega)⟩, row_made bp, row_made bw, Upd.refl _ _ _, blk_lt cb2, blk_lt bp, blk_lt bw, by have := blk_lt hcB; omega, by have := blk_lt hcB; omega, by omega⟩
  generalize hpB : w1'.heap.size = pB at *
  generalize hwB : pB + 1 = wB at *
  generalize hlB : wB + 1 = lB at *
  refine wp_seq ?_
  refine stm12_ok (fun _ _ _ _ h => nomatch h.2.1) W2 zB cc pB wB k k k hZ zb2 pol _ hk6 (by simp; omega) hPg0 ?_
  intro u12 u99 u100 u101 u102 u103 u104 u105 u106 u107 u108 u109 u110 u111 u112 u113 u114 u115 u116 u117 u118 u119 u120 u121 u122 u123 u124 u125 u126 u127 u128 u129 u130 u131 u132 u133 u134 u135 u136 u137 u138 u139 u140 u141 u142 u143 u144 u145 u146 w3 hPg
  show Code.wp Yba.prog _ _ _ _
  have hud3 := hPg.ud
  have cc3 : ∃ a cpk, w3.heap[cc]? = some (.cells (clCells (.slice (some ⟨nr, 0, none⟩) 3 cn) (.slice a k cpk)) 45 (0, 0)) := by obtain ⟨a, cpk, _, _, e, _⟩ := hPg.ex; exact ⟨a, cpk, e⟩
  have z3 := hud3.size
  have nodW2 := hNod.below (by rw [hpB]; exact hB2)
  have lnr : nr < pB := by obtain ⟨x0, _⟩ := hNod.at_ 0 (by omega); have := cell_lt x0; omega
  have nrcc : nr ≠ cc := fun e => by omega
  have nod3 : Nod w3 cc nr cn cb := nodW2.on (by obtain ⟨a', cpk', e⟩ := cc3; rw [nodW2.sl]; exact cell_of_blk e (i := 10) rfl) (hud3.block nr (by omega) (by simp; omega))
  have caps3 : ∀ j, j < 3 → w3.heap[cb j]? = some (oneMap (C j)) := fun j hj => by
    have h1 := (hcb j hj).1
    have l1 := blk_lt h1
    have ne : cb j ≠ cc := fun e => by rw [e, hcB] at h1; cases h1
    rw [hud3.block (cb j) (by omega) (by simp; omega), hB2.block (cb j) (by omega)]
    exact h1
  obtain ⟨w3', hw3'⟩ : ∃ w3', w3' = w3.alloc (.cells #[.string ⟨#[97]⟩, .string ⟨#[98]⟩, .string ⟨#[99]⟩] 9) := ⟨_, rfl⟩
  have b33 : Below w3.heap.size w3 w3' := by rw [hw3']; exact (Below.refl _ _).alloc (Nat.le_refl _) _
  have mem3 : w3'.heap[w3.heap.size]? = some (.cells #[.string ⟨#[97]⟩, .string ⟨#[98]⟩, .string ⟨#[99]⟩] 9) := by rw [hw3']; exact blk_new _ _
  have hnew := newPlan_any cc nr cn w3.heap.size 3 cb (fun j => (C j : Nat)) w3' (nod3.below b33) (fun j hj => (b33.block _ (blk_lt (caps3 j hj))).trans (caps3 j hj)) (fun j hj => cell_of_blk mem3 (namesC_at hj))
  rw [hw3'] at hnew
  have H3 := hide (And.intro hPg (And.intro b33 (And.intro hZ (And.intro zb2 (And.intro nb2 (And.intro bl (And.intro hB2 (And.intro hud1 (And.intro hSl (And.intro z0 (And.intro z1 (And.intro z2 (And.intro hcc (And.intro hnB (And.intro hzB (And.intro hpB (And.intro hwB hlB)))))))))))))))))
  clear hPg b33 hZ zb2 nb2 bl hB2 hud1 hSl z0 z1 z2 hcc hnB hzB hpB hwB hlB hud3 cc3 z3 nodW2 lnr nrcc nod3 caps3 mem3 H1 hPg0 bp bw zb1 nb1 cb2 hcB hcb hNod hnr b0 b1
  refine wp_seq_k (fun K hK => ?_)
  have HK := hide hK
  clear hK
  go_wp2_with (go_at_call 5; refine hnew.mono ?_; rintro e w4 ⟨rb, rfl, hr⟩; have HR := hide hr; clear hr)
  refine unhide HK _ _ ?_
  clear HK K hnew
  obtain ⟨hPg, b33, hZ, zb2, nb2, bl, hB2, hud1, hSl, z0, z1, z2, hcc, hnB, hzB, hpB, hwB, hlB⟩ := unhide H3
  have sz3 : w3'.heap.size = w3.heap.size + 1 := by rw [hw3']; simp
  have hr := unhide HR
  rw [← hw3', sz3] at hr
  obtain ⟨hpl, hpm, hcm, hRms, b34⟩ := hr
  have hud3 := hPg.ud
  have z3 := hud3.size
  have keep4 : ∀ x, x < W2.heap.size → x ∉ [cc, pB, wB] → w4.heap[x]? = W2.heap[x]? := fun x hx hn => by
    rw [b34.block x (by omega), b33.block x (by omega), hud3.block x hx hn]
  have zb4 := (keep4 zB (blk_lt zb2) (by simp; omega)).trans zb2
  have y0 := cell_of_blk zb4 (hZ.cap 0 (by omega))
  have y1 := cell_of_blk zb4 (hZ.cap 1 (by omega))
  have y2 := cell_of_blk zb4 (hZ.cap 2 (by omega))
  simp only [Nat.add_zero, Nat.reduceAdd] at y0 y1 y2
  have hC0 := hC 0
  have hC1 := hC 1
  have hC2 := hC 2
  have hq0 : IntKind.i64.wrap ((C 0 : Nat) : Int) = ((C 0 : Nat) : Int) := wrap_mid (by omega) (by omega)
  have hq1 : IntKind.i64.wrap ((C 1 : Nat) : Int) = ((C 1 : Nat) : Int) := wrap_mid (by omega) (by omega)
  have hq2 : IntKind.i64.wrap ((C 2 : Nat) : Int) = ((C 2 : Nat) : Int) := wrap_mid (by omega) (by omega)
  have H4 := hide (And.intro hpl (And.intro hpm (And.intro hcm (And.intro hRms (And.intro b34 (And.intro sz3 (And.intro keep4 hw3')))))))
  clear hPg b33 hZ zb2 nb2 bl hB2 hud1 hSl z0 z1 z2 hcc hnB hzB hpB hwB hlB sz3 hpl hpm hcm hRms b34 keep4 zb4 HR hw3' hud3 z3
  refine wp_seq_k (fun K hK => ?_)
  have HK := hide hK
  clear hK
  go_wp2
  refine unhide HK _ _ ?_
  clear HK K
  clear y0 y1 y2 hq0 hq1 hq2 hC0 hC1 hC2
  refine wp_seq_k (fun K hK => ?_)
  have HK := hide hK
  clear hK
  go_wp2
  refine unhide HK _ _ ?_
  clear HK K
  obtain ⟨hPg, b33, hZ, zb2, nb2, bl, hB2, hud1, hSl, z0, z1, z2, hcc, hnB, hzB, hpB, hwB, hlB⟩ := unhide H3
  obtain ⟨hpl, hpm, hcm, hRms, b34, sz3, keep4, hw3'⟩ := unhide H4
  clear H3 H4
  obtain ⟨A, hAc, hApl, hAk, hApol, hApri, hAwt, hL3, hAp, hdyn, hud5⟩ := begin_ok hk0 hC hPg b33 sz3.symm hpl hpm hcm hRms b34 (row_made bl) (by simp; omega) _ _ rfl rfl
  obtain ⟨W5, hW5⟩ : ∃ W5, W5 = (w4.alloc (.cells #[.int .i64 (C 0 : Nat), .int .i64 (C 1 : Nat), .int .i64 (C 2 : Nat)] 63)).alloc (.cells #[.int .i64 0, .int .i64 0, .int .i64 0] 64) := ⟨_, rfl⟩
  rw [← hW5] at hL3 hud5 ⊢
  have z5 : W5.heap.size = w4.heap.size + 2 := by rw [hW5]; simp
  have b45 : Below w4.heap.size w4 W5 := by rw [hW5]; exact ((Below.refl _ _).alloc (Nat.le_refl _) _).alloc (by simp) _
  have z3 := hPg.ud.size
  have z34 := b34.size
  have k35 : ∀ x, x < w3.heap.size → W5.heap[x]? = w3.heap[x]? := fun x hx => by rw [b45.block x (by omega), b34.block x (by omega), b33.block x hx]
  have hp5 : Row W5 pB k (fun q => (A.pri q : Nat)) := by rw [hApri]; exact hPg.p.of_block (k35 _ hPg.p.lt)
  have hw5 : Row W5 wB k (fun q => (A.wt q : Nat)) := by rw [hAwt]; exact hPg.w.of_block (k35 _ hPg.w.lt)
  have zb5 := (hud5.block zB (blk_lt zb2) (by simp; omega)).trans zb2
  have nb5 := (hud5.block nB (blk_lt nb2) (by simp; omega)).trans nb2
  have low5 : Below zB w W5 := by
    have l0 := unhide HW
    have l1 := low l0 hud1 (by simp; omega) (by omega)
    have l2 := l1.trans (hB2.mono (by omega))
    exact low l2 hud5 (by simp; omega) (by omega)
  have out : ∀ x, x < W2.heap.size → x ≠ lB → x ∉ lB :: w4.heap.size :: (w4.heap.size + 1) :: A.dyn := fun x hx hne h => by
    rcases List.mem_cons.1 h with h | h
    · exact hne h
    · rcases List.mem_cons.1 h with h | h
      · omega
      · rcases List.mem_cons.1 h with h | h
        · omega
        · have := (hdyn x h).1; omega
  have oz := out zB (by omega) (by omega)
  have on := out nB (by omega) (by omega)
  have ow := out wB (by omega) (by omega)
  have op := out pB (by omega) (by omega)
  have hge : ∀ x, x ∈ lB :: w4.heap.size :: (w4.heap.size + 1) :: A.dyn → zB ≤ x ∧ x < W5.heap.size := fun x h => by
    rcases List.mem_cons.1 h with h | h
    · omega
    · rcases List.mem_cons.1 h with h | h
      · omega
      · rcases List.mem_cons.1 h with h | h
        · omega
        · have := hdyn x h; omega
  clear hpl hpm hcm hRms b34 sz3 keep4 hw3' hud5 b45 z3 z34 k35 hPg b33 zb2 nb2 bl hB2 hud1 z0 z1 z2 hcc hnB hpB hwB hlB hW5 z5 hdyn hApri hAwt out HW
  subst hAc
  subst hAk
  subst hApol
  rw [← hApl]
  clear hApl
  generalize w4.heap.size + 1 = cB at *
  generalize w4.heap.size = rB at *
  refine wp_seq ?_
  refine stm16_ok (fun _ _ _ _ h => nomatch h.2.1) A W5 zB nB wB lB rB cB t A.k A.k hZ zb5 nb5 hw5 hL3 oz on ow hAp ?_
  intro u16 u17 u18 u164 u165 u166 u167 u168 u169 u170 u171 u172 u173 u174 u175 u176 u177 u178 u179 u180 u181 u182 u183 u184 u185 u186 u187 u188 u189 u190 u191 u192 u193 u194 u195 u196 u197 u198 u199 u200 u201 u202 u203 u204 u205 u206 u207 u208 u209 u210 u211 u212 u213 u214 w6 hL
  show Code.wp Yba.prog _ _ _ _
  obtain ⟨loc, room, cnt, N, hNk, hm0, _⟩ := hL
  have hm : M3 A W5 lB rB cB loc room cnt N (fun q => locI (loc q)) room cnt w6 := hm0.congr (fun q hq => by simp [hq]) (fun _ _ => rfl) (fun _ _ => rfl)
  have z56 := hm.ud.size
  have low6 : Below zB w w6 := low low5 hm.ud (fun x hx => (hge x hx).1) (by have := blk_lt zb5; omega)
  have zb6 := (hm.ud.block zB (blk_lt zb5) oz).trans zb5
  have nb6 := (hm.ud.block nB (blk_lt nb5) on).trans nb5
  have hp6 := hp5.of_block (hm.ud.block pB hp5.lt op)
  have hw6 := hw5.of_block (hm.ud.block wB hw5.lt ow)
  have y0 := cell_of_blk zb6 hZ.sel
  have y1 := cell_alloc (.cells (madeCells #[.string ByteArray.empty] l) 9) y0
  have hm54 := fun w => make54z l hl w
  have hm50 := fun w => make50z l hl w
  have H6 := hide (And.intro hm (And.intro low6 (And.intro zb6 (And.intro nb6 (And.intro hp6 (And.intro hw6 (And.intro hZ (And.intro hSl (And.intro hge (And.intro oz (And.intro on (And.intro ow (And.intro op (And.intro hAp (And.intro z56 (And.intro hNk hzB))))))))))))))))
  clear hm low6 zb6 nb6 hp6 hw6 hZ hSl hge oz on ow op hAp z56 hNk hm0 low5 zb5 nb5 hp5 hw5 hL3 hzB
  refine wp_seq_k (fun K hK => ?_)
  have HK := hide hK
  clear hK
  go_wp2
  refine unhide HK _ _ ?_
  clear HK K
  refine wp_seq_k (fun K hK => ?_)
  have HK := hide hK
  clear hK
  go_wp2
  refine unhide HK _ _ ?_
  clear HK K
  clear hm54 hm50 y0 y1
  obtain ⟨w7, hw7⟩ : ∃ w7, w7 = (w6.alloc (.cells (madeCells #[.string ByteArray.empty] l) 9)).alloc (.cells (madeCells #[.int .i64 0] l) 3) := ⟨_, rfl⟩
  rw [← hw7]
  obtain ⟨hm, low6, zb6, nb6, hp6, hw6, hZ, hSl, hge, oz, on, ow, op, hAp, z56, hNk, hzB⟩ := unhide H6
  have b67 : Below w6.heap.size w6 w7 := by rw [hw7]; exact ((Below.refl _ _).alloc (Nat.le_refl _) _).alloc (by simp) _
  have z7 : w7.heap.size = w6.heap.size + 2 := by rw [hw7]; simp
  have bs : w7.heap[w6.heap.size]? = some (.cells (madeCells #[.string ByteArray.empty] l) 9) := by rw [hw7, blk_old _ _ (by simp)]; exact blk_new _ _
  have bi : w7.heap[w6.heap.size + 1]? = some (.cells (madeCells #[.int .i64 0] l) 3) := by
    rw [hw7]
    have := blk_new (w6.alloc (.cells (madeCells #[.string ByteArray.empty] l) 9)) (.cells (madeCells #[.int .i64 0] l) 3)
    simpa only [World.size_alloc] using this
  clear hw7
  have hml : l ≤ maxLen := by unfold maxLen; omega
  have nx0 : Nx w7 w6.heap.size [] (.slice (some ⟨w6.heap.size, 0, none⟩) 0 l) (.slice (some ⟨w6.heap.size + 1, 0, none⟩) 0 l) w7 :=
    ⟨⟨rfl, .inr ⟨_, _, _, rfl, Nat.le_refl _, bs, Nat.zero_le _, hml, by rw [size_madeCells]; omega, rfl⟩⟩, ⟨rfl, .inr ⟨_, _, _, rfl, by omega, bi, Nat.zero_le _, hml, by rw [size_madeCells]; omega, rfl⟩⟩, Below.refl _ _, by omega⟩
  have zb7 := (b67.block zB (blk_lt zb6)).trans zb6
  have nb7 := (b67.block nB (blk_lt nb6)).trans nb6
  have lz6 := low6.size
  have low7 : Below zB w w7 := low6.trans (b67.mono (by omega))
  refine wp_seq ?_
  refine stm19_ok w7 zB nB w6.heap.size (w6.heap.size + 1) l c w6.heap.size a S (cell_of_blk zb7 hZ.sel) (fun j hj => cell_of_blk nb7 (namesC_at hj)) hl (fun q hq => ?_) (blk_lt nb6) nx0 ?_
  · obtain ⟨b, o, e, hb, hc⟩ := hSl q hq
    exact ⟨b, o, e, by omega, (low7.cell (p := ⟨b, o + q, none⟩) (by omega)).trans hc⟩
  intro u19 u20 u22 u23 u223 u224 u225 u226 u227 u228 u229 u230 u231 u232 u233 u234 u235 u236 u237 u238 u239 u240 u241 u242 u243 w8 hN
  show Code.wp Yba.prog _ _ _ _
  obtain ⟨a19, c19, hv⟩ := own_slice hN.s
  subst hv
  obtain ⟨a20, c20, hv⟩ := own_slice hN.i
  subst hv
  generalize hidx : (List.range l).map (fun q => S q % 3) = idx at *
  have hil : idx.length = l := by rw [← hidx]; simp
  rw [hil] at hN ⊢
  obtain ⟨hx1, hx2, hNds, hIxs⟩ := hN.ixs (by omega) (fun j hj => by rw [← hidx] at hj; obtain ⟨q, _, rfl⟩ := List.mem_map.1 hj; exact Nat.mod_lt _ (by omega))
  clear hidx hil hx1 hx2
  have hnb : ∀ b, a19 = some ⟨b, 0, none⟩ → W5.heap.size ≤ b := fun b e => by subst e; exact Nat.le_trans z56 (hN.s.lt b rfl).1
  have b68 : Below w6.heap.size w6 w8 := b67.trans (hN.bel.mono (Nat.le_refl _))
  have hm8 := hm.below b68
  have low8 : Below zB w w8 := low6.trans (b68.mono (by omega))
  have zb8 := (b68.block zB (blk_lt zb6)).trans zb6
  have nb8 := (b68.block nB (blk_lt nb6)).trans nb6
  have hp8 := hp6.below b68
  have hw8 := hw6.below b68
  have k6 := hm.p.fix.pk.k6
  have p0 := hm8.p.fix.cpk
  have p1 := hm8.p.fix.row t htk
  have htI : (t : Int) < (A.k : Nat) := by omega
  have H8 := hide (And.intro hm8 (And.intro low8 (And.intro zb8 (And.intro nb8 (And.intro hp8 (And.intro hw8 (And.intro hZ (And.intro hge (And.intro oz (And.intro on (And.intro ow (And.intro op (And.intro hAp (And.intro hNk (And.intro hzB (And.intro hNds (And.intro hIxs (And.intro hnb (Nat.le_trans z56 b68.size)))))))))))))))))))
  clear hm8 low8 zb8 nb8 hp8 hw8 hZ hge oz on ow op hAp hNk hzB hNds hIxs hnb z56 hm low6 zb6 nb6 hp6 hw6 hSl b67 z7 bs bi hml nx0 zb7 nb7 lz6 low7 hN b68 H6
  refine wp_seq_k (fun K hK => ?_)
  have HK := hide hK
  clear hK
  go_wp2
  refine unhide HK _ _ ?_
  clear HK K
  clear p0 p1
  refine wp_seq_k (fun K hK => ?_)
  have HK := hide hK
  clear hK
  go_wp2
  refine unhide HK _ _ ?_
  clear HK K
  refine wp_seq_k (fun K hK => ?_)
  have HK := hide hK
  clear hK
  go_wp2
  refine unhide HK _ _ ?_
  clear HK K
  refine wp_seq_k (fun K hK => ?_)
  have HK := hide hK
  clear hK
  go_wp2
  refine unhide HK _ _ ?_
  clear HK K
  refine wp_seq_k (fun K hK => ?_)
  have HK := hide hK
  clear hK
  go_wp2
  refine unhide HK _ _ ?_
  clear HK K
  obtain ⟨hm8, low8, zb8, nb8, hp8, hw8, hZ, hge, oz, on, ow, op, hAp, hNk, hzB, hNds, hIxs, hnb, z58⟩ := unhide H8
  have hrm : ∀ j, j < 3 → -1000 ≤ room j ∧ room j ≤ 1000 := fun j hj => by have := hm8.p.rm j hj; omega
  have hct : ∀ j, j < 3 → -1000 ≤ cnt j ∧ cnt j ≤ 1000 := fun j hj => by have := hm8.p.ct j hj; omega
  have pk := hm8.p.fix.pk
  refine wp_seq ?_
  refine stm25_ok A w8 zB wB rB cB t A.k l c20 a20 idx room cnt mn (cell_of_blk zb8 hZ.mn) hw8 hm8.r hm8.c hIxs htk (pk.w4 t) hrm hct ?_
  intro u28 u30 u251 u252 u253 u254 u255 u256 u257 u258 u259 u260 u261 u262 u263 u264 u265 u266 u267 u268 u269 u270 u271 u272 u273 u274 u275 u276 u277 u278 u279 u280 u281 u282 w9 hu
  obtain ⟨hu28, b89⟩ := hu
  subst hu28
  show Code.wp Yba.prog _ _ _ _
  refine wp_seq ?_
  refine stm26_ok A w9 pB wB lB rB t A.k A.k A.k l c20 a20 idx (hp8.below b89) (hw8.below b89) (hm8.l.below b89) (hm8.r.below b89) (hIxs.below b89) k6 pk.p4 pk.w4 htk hrm _ ?_
  intro u25 u26 u27 u32 u33 u34 u35 u36 u37 u38 u39 u283 u284 u285 u286 u287 u288 u289 u290 u291 u292 u293 u294 u295 u296 u297 u298 u299 u300 u301 u302 u303 u304 u305 u306 u307 u308 u309 u310 u311 u312 u313 u314 u315 u316 u317 u318 u319 u320 u321 u322 u323 u324 u325 u326 u327 u328 u329 u330 u331 u332 u333 u334 u335 u336 u337 u338 u339 u340 u341 u342 u343 u344 u345 u346 u347 u348 u349 u350 u351 u352 u353 u354 u355 u356 u357 u358 u359 u360 u361 u362 u363 u364 u365 u366 u367 u368 u369 u370 u371 u372 u373 u374 u375 u376 u377 u378 u379 u380 u381 u382 u383 u384 u385 u386 u387 u388 u389 u390 u391 u392 u393 u394 u395 u396 u397 u398 u399 w10 hu
  obtain ⟨hwant, b910⟩ := hu
  rw [← outM_is] at hwant
  show Code.wp Yba.prog _ _ _ _
  have b810 : Below w8.heap.size w8 w10 := b89.trans (b910.mono b89.size)
  have hm10 := hm8.below b810
  have low10 : Below zB w w10 := low8.trans (b810.mono (by have := blk_lt zb8; omega))
  have zb10 := (b810.block zB (blk_lt zb8)).trans zb8
  have nb10 := (b810.block nB (blk_lt nb8)).trans nb8
  have hw10 := hw8.below b810
  have hNds10 := hNds.below b810
  have hlt9 : ∀ x, x ∈ lB :: rB :: cB :: A.dyn → x < w9.heap.size := fun x hx => by have := hge x hx; have := b89.size; omega
  have hidx3 := hNds.lt
  clear hm8 low8 zb8 nb8 hp8 hw8 hNds hIxs b810 b89 b910 H8
  cases ho : outM A loc room cnt mn t idx with
  | none =>
    obtain ⟨h25, h27⟩ := hwant.off ho
    subst h25
    subst h27
    refine wp_seq ?_
    refine stm27_off w10 ?_
    intro u41 u400 u401 u402 u403 u404 u405 u406 u407 u408 u409 u410 u411 u412 u413 u414 u415 u416 u417 u418 u419 u420 u421 u422 u423 u424 u425 u426 u427 u428 u429 u430 u431 u432 u433 u434 u435 u436 u437 u438 u439 u440 u441 u442 u443 u444 u445 u446 u447 u448 w11 hw11
    subst hw11
    show Code.wp Yba.prog _ _ _ _
    obtain ⟨sv, hsv⟩ : ∃ sv : List Nat, sv = [] := ⟨_, rfl⟩
    have hm11 := hm10
    have hNds11 := hNds10
    have low11 := low10
    have nb11 := nb10
    have lz11 : zB ≤ w11.heap.size := by have := blk_lt zb10; omega
    have hHc : 0 < 0 → ∃ b, (none : Option Addr) = some ⟨b, 0, none⟩ ∧ ∀ i, i < 0 → w11.cell? ⟨b, i, none⟩ = some (.int .i64 (sv.getD i 0 : Nat)) := fun h => absurd h (by omega)
    have hsk : ∀ i, i < 0 → sv.getD i 0 < A.k := fun i h => absurd h (by omega)
    have hm6 : 0 ≤ 6 := by omega
    clear hsv hm10 hNds10 low10 nb10 zb10 hw10 hwant hlt9
    have bal : Below w11.heap.size w11 (w11.alloc (.cells #[ptr (A.pb t)] 52)) := (Below.refl _ _).alloc (Nat.le_refl _) _
    have mp := hm11.below bal
    have hg0 : (w11.alloc (.cells #[ptr (A.pb t)] 52)).cell? ⟨w11.heap.size, 0, none⟩ = some (ptr (A.pb t)) := cell_of_blk (blk_new _ _) (i := 0) rfl
    have hpg := putGroup_any (w11.alloc (.cells #[ptr (A.pb t)] 52)) mp.p (by omega) mn (unhide HPOL) t w11.heap.size 1 htk hg0 a19 l c19 idx (hNds11.below bal)
    have hpg' : Calls Yba.prog 9 #[ptr A.pl, ptr (A.pb t), .slice (some ⟨w11.heap.size, 0, none⟩) 1 1, .slice a19 l c19] (w11.alloc (.cells #[ptr (A.pb t)] 52)) fun e w' => ∃ aG cG, e = .returned (.tuple #[.slice aG 0 cG, .bool false]) ∧ Hid ((0 < 0 → ∃ b, aG = some ⟨b, 0, none⟩ ∧ ∀ i, i < 0 → w'.cell? ⟨b, i, none⟩ = some (ptr (A.pb (sv.getD i 0)))) ∧ Pln A w' loc room cnt N ∧ Upd (w11.alloc (.cells #[ptr (A.pb t)] 52)).heap.size A.dyn (w11.alloc (.cells #[ptr (A.pb t)] 52)) w') :=
      hpg.mono (fun e w' ⟨hgr, hU⟩ => by
        obtain ⟨e1, e2⟩ := grp_off hgr ho
        exact ⟨none, 0, e1, fun h => absurd h (by omega), e2, hU⟩)
    have HT := hide (And.intro mp (And.intro bal (And.intro low11 (And.intro nb11 (And.intro hge (And.intro hHc hsk))))))
    clear mp bal low11 nb11 hge hHc hsk hm11 hNds11 hg0 hpg
    refine wp_seq_k (fun K hK => ?_)
    have HK := hide hK
    clear hK
    go_wp2_with (go_at_call 9; refine hpg'.mono ?_; rintro e w12 ⟨aG, cG, rfl, HG⟩)
    refine unhide HK _ _ ?_
    clear HK K hpg'
    obtain ⟨mp, bal, low11, nb11, hge, hHc, hsk⟩ := unhide HT
    obtain ⟨hGc, hp12, hU12⟩ := unhide HG
    have m12 := mp.upd hp12 hU12
    have n12 : ∀ j, j < 3 → w12.cell? ⟨nB, j, none⟩ = some (.string (nnm j)) := fun j hj => mp.p.cell_on hU12 ((bal.cell (p := ⟨nB, j, none⟩) (blk_lt nb11)).trans (cell_of_blk nb11 (namesC_at hj)))
    have low12 : Below zB w w12 := low (low11.trans (bal.mono lz11)) hU12 (fun x hx => (hge x (by simp [hx])).1) (by simp; omega)
    have lz12 : zB ≤ w12.heap.size := by have := hU12.size; simp at this; omega
    have hH12 : 0 < 0 → ∃ b, (none : Option Addr) = some ⟨b, 0, none⟩ ∧ ∀ i, i < 0 → w12.cell? ⟨b, i, none⟩ = some (.int .i64 (sv.getD i 0 : Nat)) := fun hpos => by
      obtain ⟨b, e, hc⟩ := hHc hpos
      exact ⟨b, e, fun i hi => mp.p.cell_on hU12 ((bal.cell (p := ⟨b, i, none⟩) (cell_lt (hc i hi))).trans (hc i hi))⟩
    refine wp_seq ?_
    refine stm29_ok w12 false 0 cG 0 aG none ?_
    intro u2 u458 u459 u460 u461 u462 u463 u464 u465 u466 u467 w13 hw13
    subst hw13
    show Code.wp Yba.prog _ _ _ _
    refine wp_seq ?_
    refine stm30_ok A w13 0 0 cG none aG (fun i => sv.getD i 0) hp12 hm6 hsk hH12 hGc ?_
    intro u2 u44 u45 u468 u469 u470 u471 u472 u473 u474 u475 u476 u477 u478 u479 u480 u481 u482 u483 u484 u485 u486 u487 w14 b34
    show Code.wp Yba.prog _ _ _ _
    have m14 := m12.below b34
    refine wp_seq ?_
    refine stm31_ok A w14 nB lB A.k (hp12.below b34) m14.l (fun j hj => (b34.cell (p := ⟨nB, j, none⟩) (cell_lt (n12 j hj))).trans (n12 j hj)) ?_
    intro u2 u46 u47 u48 u488 u489 u490 u491 u492 u493 u494 u495 u496 u497 u498 u499 u500 u501 u502 u503 u504 u505 u506 u507 u508 u509 u510 u511 u512 u513 u514 u515 u516 u517 u518 u519 u520 u521 u522 u523 u524 u525 u526 u527 u528 w15 b45
    show Code.wp Yba.prog _ _ _ _
    have b35 := b34.trans (b45.mono b34.size)
    have m15 := m12.below b35
    refine wp_seq ?_
    refine stm32_ok A w15 nB rB cB (hp12.below b35) m15.r m15.c (fun j hj => (b35.cell (p := ⟨nB, j, none⟩) (cell_lt (n12 j hj))).trans (n12 j hj)) ?_
    intro u2 u49 u529 u530 u531 u532 u533 u534 u535 u536 u537 u538 u539 u540 u541 u542 u543 u544 u545 u546 u547 u548 u549 u550 u551 u552 u553 u554 u555 u556 u557 u558 u559 w16 b56
    show Code.wp Yba.prog _ _ _ _
    have fin : Below zB w w16 := by
      exact low12.trans ((b35.trans (b56.mono b35.size)).mono lz12)
    have HFIN := hide fin
    clear fin b56 m15 b35 b45 m14 b34 hH12 hGc hp12 hU12 m12 n12 low12 lz12 mp bal low11 nb11 hge hHc hsk HT HG
    go_wp2
    go_ret
    exact ⟨rfl, unhide HFIN⟩
  | some jm =>
    obtain ⟨j, m⟩ := jm
    obtain ⟨h25, h26, aH, cH, h27, hmle, hHr⟩ := hwant.on j m ho
    subst h25
    subst h26
    subst h27
    have hj3 := outM_lt hidx3 ho
    have hs6 : (sorted A.k loc A.pri t j).length ≤ 6 := by
      unfold sorted; rw [List.length_mergeSort]
      have := cands_le A.k loc A.pri t j
      omega
    have hHx : 0 < m → ∃ b, aH = some ⟨b, 0, none⟩ ∧ b ∉ lB :: rB :: cB :: A.dyn ∧ ∀ i, i < m → w10.cell? ⟨b, i, none⟩ = some (.int .i64 ((sorted A.k loc A.pri t j).getD i 0 : Nat)) := fun hpos => by
      obtain ⟨b, e, hB, hc⟩ := hHr hpos
      exact ⟨b, e, fun hb => (by have := hlt9 b hb; omega), hc⟩
    refine wp_seq ?_
    refine stm27_ok (fun _ _ _ _ h => nomatch h.2.1) A w10 W5 wB lB rB cB t A.k A.k j m cH aH (sorted A.k loc A.pri t j) hm10 hw10 ow hAp htk hj3 hmle hs6 (fun a ha => sorted_getD k6 ha) hHx (by omega) ?_
    intro u41 u400 u401 u402 u403 u404 u405 u406 u407 u408 u409 u410 u411 u412 u413 u414 u415 u416 u417 u418 u419 u420 u421 u422 u423 u424 u425 u426 u427 u428 u429 u430 u431 u432 u433 u434 u435 u436 u437 u438 u439 u440 u441 u442 u443 u444 u445 u446 u447 u448 w11 hm11
    show Code.wp Yba.prog _ _ _ _
    have hm6 : m ≤ 6 := by omega
    have hsk : ∀ i, i < m → (sorted A.k loc A.pri t j).getD i 0 < A.k := fun i hi => (sorted_getD k6 (show i < (sorted A.k loc A.pri t j).length by omega)).1
    have hHc : 0 < m → ∃ b, aH = some ⟨b, 0, none⟩ ∧ ∀ i, i < m → w11.cell? ⟨b, i, none⟩ = some (.int .i64 ((sorted A.k loc A.pri t j).getD i 0 : Nat)) := fun hpos => by
      obtain ⟨b, e, hB, hc⟩ := hHx hpos
      exact ⟨b, e, fun i hi => hm11.cell (hc i hi) hB⟩
    have nb11 := (hm11.ud.block nB (blk_lt nb10) on).trans nb10
    have low11 : Below zB w w11 := low low10 hm11.ud (fun x hx => (hge x hx).1) (by have := blk_lt zb10; omega)
    have lz11 : zB ≤ w11.heap.size := by have := blk_lt zb10; have := hm11.ud.size; omega
    have hNds11 : Nds w11 a19 l idx := ⟨hNds10.len, hNds10.n1, hNds10.lt, fun hn => by
      obtain ⟨b, e, hc⟩ := hNds10.at_ hn
      exact ⟨b, e, fun i hi => hm11.cell (hc i hi) (fun hb => by have := (hge b hb).2; have := hnb b e; omega)⟩⟩
    generalize hsv : sorted A.k loc A.pri t j = sv at *
    clear hm10 hNds10 low10 nb10 zb10 hw10 hwant hlt9 hHr hHx hs6
    have bal : Below w11.heap.size w11 (w11.alloc (.cells #[ptr (A.pb t)] 52)) := (Below.refl _ _).alloc (Nat.le_refl _) _
    have mp := hm11.below bal
    have hg0 : (w11.alloc (.cells #[ptr (A.pb t)] 52)).cell? ⟨w11.heap.size, 0, none⟩ = some (ptr (A.pb t)) := cell_of_blk (blk_new _ _) (i := 0) rfl
    have hpg := putGroup_any (w11.alloc (.cells #[ptr (A.pb t)] 52)) mp.p (by omega) mn (unhide HPOL) t w11.heap.size 1 htk hg0 a19 l c19 idx (hNds11.below bal)
    have hpg' : Calls Yba.prog 9 #[ptr A.pl, ptr (A.pb t), .slice (some ⟨w11.heap.size, 0, none⟩) 1 1, .slice a19 l c19] (w11.alloc (.cells #[ptr (A.pb t)] 52)) fun e w' => ∃ aG cG, e = .returned (.tuple #[.slice aG m cG, .bool true]) ∧ Hid ((0 < m → ∃ b, aG = some ⟨b, 0, none⟩ ∧ ∀ i, i < m → w'.cell? ⟨b, i, none⟩ = some (ptr (A.pb (sv.getD i 0)))) ∧ Pln A w' (updF (locR sv loc m) t (some j)) (updF (roomR A.wt sv j room m) j (roomR A.wt sv j room m j - A.wt t)) (updF (cntR j cnt m) j (cntR j cnt m j + 1)) (N + m + 1) ∧ Upd (w11.alloc (.cells #[ptr (A.pb t)] 52)).heap.size A.dyn (w11.alloc (.cells #[ptr (A.pb t)] 52)) w') :=
      hpg.mono (fun e w' ⟨hgr, hU⟩ => by
        obtain ⟨aG, cG, e1, _, e2, e3⟩ := grp_on hgr ho
        rw [hsv] at e2 e3
        exact ⟨aG, cG, e1, e2, e3, hU⟩)
    have HT := hide (And.intro mp (And.intro bal (And.intro low11 (And.intro nb11 (And.intro hge (And.intro hHc hsk))))))
    clear mp bal low11 nb11 hge hHc hsk hm11 hNds11 hg0 hpg
    refine wp_seq_k (fun K hK => ?_)
    have HK := hide hK
    clear hK
    go_wp2_with (go_at_call 9; refine hpg'.mono ?_; rintro e w12 ⟨aG, cG, rfl, HG⟩)
    refine unhide HK _ _ ?_
    clear HK K hpg'
    obtain ⟨mp, bal, low11, nb11, hge, hHc, hsk⟩ := unhide HT
    obtain ⟨hGc, hp12, hU12⟩ := unhide HG
    have m12 := mp.upd hp12 hU12
    have n12 : ∀ j, j < 3 → w12.cell? ⟨nB, j, none⟩ = some (.string (nnm j)) := fun j hj => mp.p.cell_on hU12 ((bal.cell (p := ⟨nB, j, none⟩) (blk_lt nb11)).trans (cell_of_blk nb11 (namesC_at hj)))
    have low12 : Below zB w w12 := low (low11.trans (bal.mono lz11)) hU12 (fun x hx => (hge x (by simp [hx])).1) (by simp; omega)
    have lz12 : zB ≤ w12.heap.size := by have := hU12.size; simp at this; omega
    have hH12 : 0 < m → ∃ b, aH = some ⟨b, 0, none⟩ ∧ ∀ i, i < m → w12.cell? ⟨b, i, none⟩ = some (.int .i64 (sv.getD i 0 : Nat)) := fun hpos => by
      obtain ⟨b, e, hc⟩ := hHc hpos
      exact ⟨b, e, fun i hi => mp.p.cell_on hU12 ((bal.cell (p := ⟨b, i, none⟩) (cell_lt (hc i hi))).trans (hc i hi))⟩
    refine wp_seq ?_
    refine stm29_ok w12 true m cG cH aG aH ?_
    intro u2 u458 u459 u460 u461 u462 u463 u464 u465 u466 u467 w13 hw13
    subst hw13
    show Code.wp Yba.prog _ _ _ _
    refine wp_seq ?_
    refine stm30_ok A w13 m cH cG aH aG (fun i => sv.getD i 0) hp12 hm6 hsk hH12 hGc ?_
    intro u2 u44 u45 u468 u469 u470 u471 u472 u473 u474 u475 u476 u477 u478 u479 u480 u481 u482 u483 u484 u485 u486 u487 w14 b34
    show Code.wp Yba.prog _ _ _ _
    have m14 := m12.below b34
    refine wp_seq ?_
    refine stm31_ok A w14 nB lB A.k (hp12.below b34) m14.l (fun j hj => (b34.cell (p := ⟨nB, j, none⟩) (cell_lt (n12 j hj))).trans (n12 j hj)) ?_
    intro u2 u46 u47 u48 u488 u489 u490 u491 u492 u493 u494 u495 u496 u497 u498 u499 u500 u501 u502 u503 u504 u505 u506 u507 u508 u509 u510 u511 u512 u513 u514 u515 u516 u517 u518 u519 u520 u521 u522 u523 u524 u525 u526 u527 u528 w15 b45
    show Code.wp Yba.prog _ _ _ _
    have b35 := b34.trans (b45.mono b34.size)
    have m15 := m12.below b35
    refine wp_seq ?_
    refine stm32_ok A w15 nB rB cB (hp12.below b35) m15.r m15.c (fun j hj => (b35.cell (p := ⟨nB, j, none⟩) (cell_lt (n12 j hj))).trans (n12 j hj)) ?_
    intro u2 u49 u529 u530 u531 u532 u533 u534 u535 u536 u537 u538 u539 u540 u541 u542 u543 u544 u545 u546 u547 u548 u549 u550 u551 u552 u553 u554 u555 u556 u557 u558 u559 w16 b56
    show Code.wp Yba.prog _ _ _ _
    have fin : Below zB w w16 := by
      exact low12.trans ((b35.trans (b56.mono b35.size)).mono lz12)
    have HFIN := hide fin
    clear fin b56 m15 b35 b45 m14 b34 hH12 hGc hp12 hU12 m12 n12 low12 lz12 mp bal low11 nb11 hge hHc hsk HT HG
    go_wp2
    go_ret
    exact ⟨rfl, unhide HFIN⟩

end Go.Proofs.Ybulkaibe
