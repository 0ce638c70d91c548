/-
  THE SECOND LOOP: the packages are laid.
-/
import Derived.Test.YbulkaibePkgs
namespace Go.Proofs.Ybulkaibe
open Go.RowKit Go.WideMaps Go.Maps Kit
open Go.ChangeMaps (setBlock heap_setBlock_other)

/-- Ways that meet again inside a region: what follows is walked once. -/
theorem wpAnyH_mid {P : Program} {md : Region.Mode} {ops : Array Oper} {Q : Exit → Act → World → Prop} {S : World → Prop} {fuel m : Nat} {listed : Array Bool} {a0 : Act} {w0 : World} {F : Nat → Nat → Act} (L : Array Bool) (X : Nat → Nat → World → Prop)
    (h : (∀ l nb mb a w, l = L → a = F nb mb → X nb mb w → wpAnyH P md ops Q S m l a w) → wpAnyH P md ops Q S fuel listed a0 w0) (hT : ∀ nb mb w, X nb mb w → wpAnyH P md ops Q S m L (F nb mb) w) : wpAnyH P md ops Q S fuel listed a0 w0 :=
  h (fun l nb mb a w e1 e2 hx => by rw [e1, e2]; exact hT nb mb w hx)

set_option maxRecDepth 100000 in
set_option maxHeartbeats 4000000 in
theorem stm12_ok {c0 c2 c3 c5 c7 c11 c50 c51 c52 c53 c54 c55 c56 c57 c58 c59 c60 c61 c62 c63 c64 c65 c66 c67 c68 c69 c70 c71 c72 c73 c74 c75 c76 c77 c78 c79 c80 c81 c82 c83 c84 c85 c86 c87 c88 c89 c90 c91 c92 c93 c94 c95 c96 c97 c98 : Value} {Q : Exit → Act → World → Prop} (hP : ∀ c a a' w, Q (.panic c) a w → Q (.panic c) a' w) (W : World) (zB cc pB wB k cp cw : Nat) {Z : Array Value} {P Wt H C : Nat → Nat} {sel : Value} {mn : Bool} (hZ : Zs Z P Wt H C sel mn) (hz : W.heap[zB]? = some (.cells Z 26 (0, 0))) (pol : ByteArray) (nv : Value) (k6 : k ≤ 6) (oz : zB ∉ [cc, pB, wB])
    (h0 : Pg W cc pB wB k P Wt pol nv 0 (fun _ => 0) (fun _ => 0) W)
    (hQ : ∀ (u12 : Value) (u99 : Value) (u100 : Value) (u101 : Value) (u102 : Value) (u103 : Value) (u104 : Value) (u105 : Value) (u106 : Value) (u107 : Value) (u108 : Value) (u109 : Value) (u110 : Value) (u111 : Value) (u112 : Value) (u113 : Value) (u114 : Value) (u115 : Value) (u116 : Value) (u117 : Value) (u118 : Value) (u119 : Value) (u120 : Value) (u121 : Value) (u122 : Value) (u123 : Value) (u124 : Value) (u125 : Value) (u126 : Value) (u127 : Value) (u128 : Value) (u129 : Value) (u130 : Value) (u131 : Value) (u132 : Value) (u133 : Value) (u134 : Value) (u135 : Value) (u136 : Value) (u137 : Value) (u138 : Value) (u139 : Value) (u140 : Value) (u141 : Value) (u142 : Value) (u143 : Value) (u144 : Value) (u145 : Value) (u146 : Value) (wx : World), Pg W cc pB wB k P Wt pol nv k (fun q => (P q % 4 : Nat)) (fun q => (Wt q % 5 : Nat)) wx → Q .normal ⟨#[c0, (ptr zB), c2, c3, (.int .i64 (k : Nat)), c5, (ptr cc), c7, (.string pol), (.slice (some ⟨pB, 0, none⟩) k cp), (.slice (some ⟨wB, 0, none⟩) k cw), c11, u12, undef, undef, undef, undef, undef, undef, undef, undef, undef, undef, undef, undef, undef, undef, undef, undef, undef, undef, undef, undef, undef, undef, undef, undef, undef, undef, undef, undef, undef, undef, undef, undef, undef, undef, undef, undef, undef, c50, c51, c52, c53, c54, c55, c56, c57, c58, c59, c60, c61, c62, c63, c64, c65, c66, c67, c68, c69, c70, c71, c72, c73, c74, c75, c76, c77, c78, c79, c80, c81, c82, c83, c84, c85, c86, c87, c88, c89, c90, c91, c92, c93, c94, c95, c96, c97, c98, u99, u100, u101, u102, u103, u104, u105, u106, u107, u108, u109, u110, u111, u112, u113, u114, u115, u116, u117, u118, u119, u120, u121, u122, u123, u124, u125, u126, u127, u128, u129, u130, u131, u132, u133, u134, u135, u136, u137, u138, u139, u140, u141, u142, u143, u144, u145, u146, undef, undef, undef, undef, undef, undef, undef, undef, undef, undef, undef, undef, undef, undef, undef, undef, undef, undef, undef, undef, undef, undef, undef, undef, undef, undef, undef, undef, undef, undef, undef, undef, undef, undef, undef, undef, undef, undef, undef, undef, undef, undef, undef, undef, undef, undef, undef, undef, undef, undef, undef, undef, undef, undef, undef, undef, undef, undef, undef, undef, undef, undef, undef, undef, undef, undef, undef, undef, undef, undef, undef, undef, undef, undef, undef, undef, undef, undef, undef, undef, undef, undef, undef, undef, undef, undef, undef, undef, undef, undef, undef, undef, undef, undef, undef, undef, undef, undef, undef, undef, undef, undef, undef, undef, undef, undef, undef, undef, undef, undef, undef, undef, undef, undef, undef, undef, undef, undef, undef, undef, undef, undef, undef, undef, undef, undef, undef, undef, undef, undef, undef, undef, undef, undef, undef, undef, undef, undef, undef, undef, undef, undef, undef, undef, undef, undef, undef, undef, undef, undef, undef, undef, undef, undef, undef, undef, undef, undef, undef, undef, undef, undef, undef, undef, undef, undef, undef, undef, undef, undef, undef, undef, undef, undef, undef, undef, undef, undef, undef, undef, undef, undef, undef, undef, undef, undef, undef, undef, undef, undef, undef, undef, undef, undef, undef, undef, undef, undef, undef, undef, undef, undef, undef, undef, undef, undef, undef, undef, undef, undef, undef, undef, undef, undef, undef, undef, undef, undef, undef, undef, undef, undef, undef, undef, undef, undef, undef, undef, undef, undef, undef, undef, undef, undef, undef, undef, undef, undef, undef, undef, undef, undef, undef, undef, undef, undef, undef, undef, undef, undef, undef, undef, undef, undef, undef, undef, undef, undef, undef, undef, undef, undef, undef, undef, undef, undef, undef, undef, undef, undef, undef, undef, undef, undef, undef, undef, undef, undef, undef, undef, undef, undef, undef, undef, undef, undef, undef, undef, undef, undef, undef, undef, undef, undef, undef, undef, undef, undef, undef, undef, undef, undef, undef, undef, undef, undef, undef, undef, undef, undef, undef, undef, undef, undef, undef, undef, undef, undef, undef, undef, undef, undef, undef, undef, undef, undef, undef, undef, undef, undef, undef, undef, undef, undef, undef, undef, undef, undef, undef, undef, undef, undef, undef, undef, undef, undef, undef, undef, undef, undef, undef, undef, undef, undef, undef, undef, undef, undef, undef, undef, undef, undef, undef, undef, undef, undef, undef, undef, undef, undef, undef, undef, undef, undef, undef, undef, undef, undef, undef, undef, undef, undef, undef, undef, undef, undef, undef, undef, undef, undef, undef, undef, undef, undef, undef, undef, undef, undef, undef, undef, undef, undef, undef, undef, undef, undef, undef, undef, undef, undef, undef, undef, undef], []⟩ wx) :
    (stm 12).wp Yba.prog Q ⟨#[c0, (ptr zB), c2, c3, (.int .i64 (k : Nat)), c5, (ptr cc), c7, (.string pol), (.slice (some ⟨pB, 0, none⟩) k cp), (.slice (some ⟨wB, 0, none⟩) k cw), c11, undef, undef, undef, undef, undef, undef, undef, undef, undef, undef, undef, undef, undef, undef, undef, undef, undef, undef, undef, undef, undef, undef, undef, undef, undef, undef, undef, undef, undef, undef, undef, undef, undef, undef, undef, undef, undef, undef, c50, c51, c52, c53, c54, c55, c56, c57, c58, c59, c60, c61, c62, c63, c64, c65, c66, c67, c68, c69, c70, c71, c72, c73, c74, c75, c76, c77, c78, c79, c80, c81, c82, c83, c84, c85, c86, c87, c88, c89, c90, c91, c92, c93, c94, c95, c96, c97, c98, undef, undef, undef, undef, undef, undef, undef, undef, undef, undef, undef, undef, undef, undef, undef, undef, undef, undef, undef, undef, undef, undef, undef, undef, undef, undef, undef, undef, undef, undef, undef, undef, undef, undef, undef, undef, undef, undef, undef, undef, undef, undef, undef, undef, undef, undef, undef, undef, undef, undef, undef, undef, undef, undef, undef, undef, undef, undef, undef, undef, undef, undef, undef, undef, undef, undef, undef, undef, undef, undef, undef, undef, undef, undef, undef, undef, undef, undef, undef, undef, undef, undef, undef, undef, undef, undef, undef, undef, undef, undef, undef, undef, undef, undef, undef, undef, undef, undef, undef, undef, undef, undef, undef, undef, undef, undef, undef, undef, undef, undef, undef, undef, undef, undef, undef, undef, undef, undef, undef, undef, undef, undef, undef, undef, undef, undef, undef, undef, undef, undef, undef, undef, undef, undef, undef, undef, undef, undef, undef, undef, undef, undef, undef, undef, undef, undef, undef, undef, undef, undef, undef, undef, undef, undef, undef, undef, undef, undef, undef, undef, undef, undef, undef, undef, undef, undef, undef, undef, undef, undef, undef, undef, undef, undef, undef, undef, undef, undef, undef, undef, undef, undef, undef, undef, undef, undef, undef, undef, undef, undef, undef, undef, undef, undef, undef, undef, undef, undef, undef, undef, undef, undef, undef, undef, undef, undef, undef, undef, undef, undef, undef, undef, undef, undef, undef, undef, undef, undef, undef, undef, undef, undef, undef, undef, undef, undef, undef, undef, undef, undef, undef, undef, undef, undef, undef, undef, undef, undef, undef, undef, undef, undef, undef, undef, undef, undef, undef, undef, undef, undef, undef, undef, undef, undef, undef, undef, undef, undef, undef, undef, undef, undef, undef, undef, undef, undef, undef, undef, undef, undef, undef, undef, undef, undef, undef, undef, undef, undef, undef, undef, undef, undef, undef, undef, undef, undef, undef, undef, undef, undef, undef, undef, undef, undef, undef, undef, undef, undef, undef, undef, undef, undef, undef, undef, undef, undef, undef, undef, undef, undef, undef, undef, undef, undef, undef, undef, undef, undef, undef, undef, undef, undef, undef, undef, undef, undef, undef, undef, undef, undef, undef, undef, undef, undef, undef, undef, undef, undef, undef, undef, undef, undef, undef, undef, undef, undef, undef, undef, undef, undef, undef, undef, undef, undef, undef, undef, undef, undef, undef, undef, undef, undef, undef, undef, undef, undef, undef, undef, undef, undef, undef, undef, undef, undef, undef, undef, undef, undef, undef, undef, undef, undef, undef, undef, undef, undef, undef, undef, undef, undef, undef, undef, undef, undef, undef, undef, undef, undef, undef, undef, undef, undef, undef, undef, undef, undef, undef, undef, undef, undef, undef, undef, undef, undef, undef, undef, undef, undef, undef, undef, undef, undef, undef, undef, undef, undef, undef, undef, undef, undef, undef, undef, undef, undef, undef, undef, undef, undef, undef, undef, undef, undef, undef, undef, undef, undef, undef, undef, undef, undef, undef, undef, undef, undef, undef, undef, undef, undef, undef, undef, undef], []⟩ W := by
  conv => arg 2; whnf
  have hmm := @run_makeMap Yba.prog
  obtain ⟨i0, hi0, hz0, hz1, hz2⟩ := info_parts Yba.info52
  have HF := hide (And.intro hZ (And.intro hz (And.intro oz h0)))
  clear hZ hz oz h0
  go_wp2
  go_loopw [12] (fun iv wx => ∃ i : Nat, i ≤ k ∧ iv = .int .i64 i ∧ Pg W cc pB wB k P Wt pol nv i (fun q => if q < i then (P q % 4 : Nat) else 0) (fun q => if q < i then (Wt q % 5 : Nat) else 0) wx) (fun iv _ => k - (intOf iv).toNat)
  case atStart => exact ⟨0, Nat.zero_le _, rfl, (unhide HF).2.2.2.congr (fun q _ => by simp) (fun q _ => by simp)⟩
  case round =>
    obtain ⟨i, hi, rfl, hN⟩ := hrel
    by_cases hik : i < k
    · obtain ⟨hZ, hz, oz, _⟩ := unhide HF
      have hi6 : i < 6 := by omega
      have zr : wr.heap[zB]? = some (.cells Z 26 (0, 0)) := (hN.ud.block zB (blk_lt hz) oz).trans hz
      have z0 := cell_of_blk zr (hZ.pri i hi6)
      have p0 : wr.cell? ⟨pB, i, none⟩ = some (.int .i64 0) := by have := hN.p.cell hik; simpa using this
      have p0f := hN.p.frozen i
      have m1 := hN.setP i ((P i % 4 : Nat) : Int)
      have zr1 : (wr.setCell ⟨pB, i, none⟩ (.int .i64 ((P i % 4 : Nat) : Int))).heap[zB]? = some (.cells Z 26 (0, 0)) := (m1.ud.block zB (blk_lt hz) oz).trans hz
      have z1 := cell_of_blk zr1 (hZ.wt i hi6)
      have w0 : (wr.setCell ⟨pB, i, none⟩ (.int .i64 ((P i % 4 : Nat) : Int))).cell? ⟨wB, i, none⟩ = some (.int .i64 0) := by have := m1.w.cell hik; simpa using this
      have w0f := m1.w.frozen i
      have m2 := m1.setW i ((Wt i % 5 : Nat) : Int)
      have m3 : Pg W cc pB wB k P Wt pol nv i (fun q => if q < i + 1 then (P q % 4 : Nat) else 0) (fun q => if q < i + 1 then (Wt q % 5 : Nat) else 0) _ := m2.congr (fun q _ => by
        by_cases h1 : q = i
        · subst h1; rw [updF_same, if_pos (by omega)]
        · rw [updF_other _ _ h1]
          by_cases h2 : q < i
          · rw [if_pos h2, if_pos (by omega)]
          · rw [if_neg h2, if_neg (by omega)]) (fun q _ => by
        by_cases h1 : q = i
        · subst h1; rw [updF_same, if_pos (by omega)]
        · rw [updF_other _ _ h1]
          by_cases h2 : q < i
          · rw [if_pos h2, if_pos (by omega)]
          · rw [if_neg h2, if_neg (by omega)])
      obtain ⟨w2, hw2⟩ : ∃ w2, w2 = (wr.setCell ⟨pB, i, none⟩ (.int .i64 ((P i % 4 : Nat) : Int))).setCell ⟨wB, i, none⟩ (.int .i64 ((Wt i % 5 : Nat) : Int)) := ⟨_, rfl⟩
      rw [← hw2] at m3
      have hPi : ((P i : Nat) : Int) % 4 = ((P i % 4 : Nat) : Int) := by omega
      have hWi : ((Wt i : Nat) : Int) % 5 = ((Wt i % 5 : Nat) : Int) := by omega
      have hW5 : Wt i % 5 < 5 := Nat.mod_lt _ (by omega)
      have HM := hide m3
      clear m1 m2 m3 hN zr zr1 hZ hz oz
      generalize hpn : P i % 4 = pn at *
      generalize hwn : Wt i % 5 = wn at *
      have HPN := hide (And.intro hpn hwn)
      clear hpn hwn
      go_upto_region 22 with fail
      rw [← hw2]
      clear hw2 z0 p0 p0f z1 w0 w0f hPi hWi
      obtain ⟨a, cpk, pb, wb, e1, e2, e3, e4⟩ := (unhide HM).ex
      have r1 := (unhide HM).p.cell hik
      have r2 := (unhide HM).w.cell hik
      simp only [Nat.lt_succ_self, if_true] at r1 r2
      rw [(unhide HPN).1] at r1
      rw [(unhide HPN).2] at r2
      have hk : Kp w2 cc pB wB i (.slice a i cpk) pn wn w2.drew := ⟨(Below.refl _ _).drew, cell_of_blk (w := w2.drew) e1 (i := 11) rfl, r1, r2⟩
      have HE := hide (And.intro e1 (And.intro e3 e4))
      clear e1 e3 e4 r1 r2
      refine wp_region_pop (fun W => W.cell? ⟨cc, 11, none⟩ = some (.slice a i cpk) ∧ W.cell? ⟨pB, i, none⟩ = some (.int .i64 (pn : Nat)) ∧ W.cell? ⟨wB, i, none⟩ = some (.int .i64 (wn : Nat))) (by kernel_rfl) rfl (by kernel_rfl) ?_
      refine wpAnyH_take (i := 0) (v := (ptr cc)) rfl (by kernel_rfl) (by kernel_rfl) (by kernel_rfl) (fun c _ w h => hP c _ _ w h) (.inl ⟨rfl, fun _ _ => by go_simp⟩) ⟨hk.k1, hk.k2, hk.k3⟩ ?_
      refine wpAnyH_take (i := 1) (v := (ptr cc)) rfl (by kernel_rfl) (by kernel_rfl) (by kernel_rfl) (fun c _ w h => hP c _ _ w h) (.inl ⟨rfl, fun _ _ => by go_simp⟩) ⟨hk.k1, hk.k2, hk.k3⟩ ?_
      refine wpAnyH_take (i := 2) (v := (ptr cc)) rfl (by kernel_rfl) (by kernel_rfl) (by kernel_rfl) (fun c _ w h => hP c _ _ w h) (.inl ⟨rfl, fun _ _ => by go_simp⟩) ⟨hk.k1, hk.k2, hk.k3⟩ ?_
      refine wpAnyH_take (i := 3) (v := (.pointer (some ⟨cc, 11, none⟩))) rfl (by kernel_rfl) (by kernel_rfl) (by kernel_rfl) (fun c _ w h => hP c _ _ w h) (.inl ⟨rfl, fun _ _ => by go_simp⟩) ⟨hk.k1, hk.k2, hk.k3⟩ ?_
      refine wpAnyH_take (i := 4) (v := (.slice a i cpk)) rfl (by kernel_rfl) (by kernel_rfl) (by kernel_rfl) (fun c _ w h => hP c _ _ w h) (.inl ⟨rfl, fun _ hS => by obtain ⟨s1, s2, s3⟩ := hS; go_simp⟩) ⟨hk.k1, hk.k2, hk.k3⟩ ?_
      refine wpAnyH_take (i := 5) (v := (.int .i64 (i : Nat))) rfl (by kernel_rfl) (by kernel_rfl) (by kernel_rfl) (fun c _ w h => hP c _ _ w h) (.inl ⟨rfl, fun _ _ => by go_simp⟩) ⟨hk.k1, hk.k2, hk.k3⟩ ?_
      refine wpAnyH_take (i := 8) (v := (.string pol)) rfl (by kernel_rfl) (by kernel_rfl) (by kernel_rfl) (fun c _ w h => hP c _ _ w h) (.inl ⟨rfl, fun _ _ => by go_simp⟩) ⟨hk.k1, hk.k2, hk.k3⟩ ?_
      refine wpAnyH_take (i := 9) (v := (.slice (some ⟨pB, 0, none⟩) k cp)) rfl (by kernel_rfl) (by kernel_rfl) (by kernel_rfl) (fun c _ w h => hP c _ _ w h) (.inl ⟨rfl, fun _ _ => by go_simp⟩) ⟨hk.k1, hk.k2, hk.k3⟩ ?_
      refine wpAnyH_take (i := 10) (v := (.int .i64 (i : Nat))) rfl (by kernel_rfl) (by kernel_rfl) (by kernel_rfl) (fun c _ w h => hP c _ _ w h) (.inl ⟨rfl, fun _ _ => by go_simp⟩) ⟨hk.k1, hk.k2, hk.k3⟩ ?_
      refine wpAnyH_take (i := 11) (v := (.pointer (some ⟨pB, i, none⟩))) rfl (by kernel_rfl) (by kernel_rfl) (by kernel_rfl) (fun c _ w h => hP c _ _ w h) (.inl ⟨rfl, fun _ _ => by go_simp⟩) ⟨hk.k1, hk.k2, hk.k3⟩ ?_
      refine wpAnyH_take (i := 12) (v := (.int .i64 (pn : Nat))) rfl (by kernel_rfl) (by kernel_rfl) (by kernel_rfl) (fun c _ w h => hP c _ _ w h) (.inl ⟨rfl, fun _ hS => by obtain ⟨s1, s2, s3⟩ := hS; go_simp⟩) ⟨hk.k1, hk.k2, hk.k3⟩ ?_
      refine wpAnyH_take (i := 14) (v := (.slice (some ⟨wB, 0, none⟩) k cw)) rfl (by kernel_rfl) (by kernel_rfl) (by kernel_rfl) (fun c _ w h => hP c _ _ w h) (.inl ⟨rfl, fun _ _ => by go_simp⟩) ⟨hk.k1, hk.k2, hk.k3⟩ ?_
      refine wpAnyH_take (i := 15) (v := (.int .i64 (i : Nat))) rfl (by kernel_rfl) (by kernel_rfl) (by kernel_rfl) (fun c _ w h => hP c _ _ w h) (.inl ⟨rfl, fun _ _ => by go_simp⟩) ⟨hk.k1, hk.k2, hk.k3⟩ ?_
      refine wpAnyH_take (i := 16) (v := (.pointer (some ⟨wB, i, none⟩))) rfl (by kernel_rfl) (by kernel_rfl) (by kernel_rfl) (fun c _ w h => hP c _ _ w h) (.inl ⟨rfl, fun _ _ => by go_simp⟩) ⟨hk.k1, hk.k2, hk.k3⟩ ?_
      refine wpAnyH_take (i := 17) (v := (.int .i64 (wn : Nat))) rfl (by kernel_rfl) (by kernel_rfl) (by kernel_rfl) (fun c _ w h => hP c _ _ w h) (.inl ⟨rfl, fun _ hS => by obtain ⟨s1, s2, s3⟩ := hS; go_simp⟩) ⟨hk.k1, hk.k2, hk.k3⟩ ?_
      generalize w2.drew = wc at hk ⊢
      apply wpAnyH_mid #[true, true, true, true, true, true, true, true, true, true, true, true, true, true, true, true, true, true, true, true, false, false, false, false, false, false] (fun nb mb wc => Kp w2 cc pB wB i (.slice a i cpk) pn wn wc ∧ wc.heap[mb]? = some (oneMap (wn : Nat)) ∧ w2.heap.size ≤ mb)
      · intro hR
        have hk := hk
        refine wpAnyH_ready (rs := [6, 7, 13]) (by kernel_rfl) (by simp) ?_
        refine AllReadyH.cons rfl (fun K hK => ?_) (AllReadyH.cons rfl (fun K hK => ?_) (AllReadyH.cons rfl (fun K hK => ?_) AllReadyH.nil))
        · go_simp
          refine (zzname_any i hi6 wc).mono ?_
          rintro e w' ⟨rfl, rfl⟩
          have hk' := hk.alloc (.cells #[.int .u8 112, .int .u8 (48 + i)] 5)
          refine hK.out _ _ hk'.s (fun _ => ?_)
          clear hK K hk
          revert hk'
          generalize wc.alloc (.cells #[.int .u8 112, .int .u8 (48 + i)] 5) = wd
          intro hk'
          revert wd
          intro wc hk
          refine wpAnyH_ready (rs := [7, 13]) (by kernel_rfl) (by simp) ?_
          refine AllReadyH.cons rfl (fun K hK => ?_) (AllReadyH.cons rfl (fun K hK => ?_) AllReadyH.nil)
          · go_simp
            have hk' := hk.alloc (.cells #[.string ⟨#[97]⟩, .string ⟨#[98]⟩, .string ⟨#[99]⟩] 9)
            refine hK.out _ _ hk'.s (fun _ => ?_)
            clear hK K hk
            revert hk'
            generalize wc.alloc (.cells #[.string ⟨#[97]⟩, .string ⟨#[98]⟩, .string ⟨#[99]⟩] 9) = wd
            generalize wc.heap.size = nb
            intro hk'
            revert wd
            intro wc hk
            refine wpAnyH_ready (rs := [13]) (by kernel_rfl) (by simp) ?_
            refine AllReadyH.cons rfl (fun K hK => ?_) AllReadyH.nil
            go_simp
            have hk' := hk.alloc (.map #[] 0)
            have hm' := blk_new wc (.map #[] 0)
            have hge := hk.bel.size
            refine hK.out _ _ hk'.s (fun _ => ?_)
            clear hK K hk
            revert hk' hm' hge
            generalize wc.alloc (.map #[] 0) = wd
            generalize wc.heap.size = mb
            intro hk' hm' hge
            revert wd
            intro wc hk hm
            refine wpAnyH_ready (rs := [18]) (by kernel_rfl) (by simp) ?_
            refine AllReadyH.cons rfl (fun K hK => ?_) AllReadyH.nil
            have hins := insert_new hm (wn : Nat)
            go_simp
            have hk' := hk.sb hm hge (oneMap (wn : Nat))
            have hm' := sb_same (blk_lt hm) (oneMap (wn : Nat))
            refine hK.out _ _ hk'.s (fun _ => ?_)
            clear hK K hk hm hins
            revert hk' hm'
            generalize setBlock wc mb (oneMap (wn : Nat)) = wd
            intro hk' hm'
            revert wd
            intro wc hk hm
            refine wpAnyH_take (i := 19) (v := (.map (some mb))) rfl (by kernel_rfl) (by kernel_rfl) (by kernel_rfl) (fun c _ w h => hP c _ _ w h) (.inl ⟨rfl, fun _ _ => by go_simp⟩) ⟨hk.k1, hk.k2, hk.k3⟩ ?_
            exact hR _ nb mb _ wc (by kernel_rfl) rfl ⟨hk, hm, hge⟩
          · go_simp
            have hk' := hk.alloc (.map #[] 0)
            have hm' := blk_new wc (.map #[] 0)
            have hge := hk.bel.size
            refine hK.out _ _ hk'.s (fun _ => ?_)
            clear hK K hk
            revert hk' hm' hge
            generalize wc.alloc (.map #[] 0) = wd
            generalize wc.heap.size = mb
            intro hk' hm' hge
            revert wd
            intro wc hk hm
            refine wpAnyH_ready (rs := [7, 18]) (by kernel_rfl) (by simp) ?_
            refine AllReadyH.cons rfl (fun K hK => ?_) (AllReadyH.cons rfl (fun K hK => ?_) AllReadyH.nil)
            · go_simp
              have hk' := hk.alloc (.cells #[.string ⟨#[97]⟩, .string ⟨#[98]⟩, .string ⟨#[99]⟩] 9)
              have hm' := (blk_old wc (.cells #[.string ⟨#[97]⟩, .string ⟨#[98]⟩, .string ⟨#[99]⟩] 9) (blk_lt hm)).trans hm
              refine hK.out _ _ hk'.s (fun _ => ?_)
              clear hK K hk hm
              revert hk' hm'
              generalize wc.alloc (.cells #[.string ⟨#[97]⟩, .string ⟨#[98]⟩, .string ⟨#[99]⟩] 9) = wd
              generalize wc.heap.size = nb
              intro hk' hm'
              revert wd
              intro wc hk hm
              refine wpAnyH_ready (rs := [18]) (by kernel_rfl) (by simp) ?_
              refine AllReadyH.cons rfl (fun K hK => ?_) AllReadyH.nil
              have hins := insert_new hm (wn : Nat)
              go_simp
              have hk' := hk.sb hm hge (oneMap (wn : Nat))
              have hm' := sb_same (blk_lt hm) (oneMap (wn : Nat))
              refine hK.out _ _ hk'.s (fun _ => ?_)
              clear hK K hk hm hins
              revert hk' hm'
              generalize setBlock wc mb (oneMap (wn : Nat)) = wd
              intro hk' hm'
              revert wd
              intro wc hk hm
              refine wpAnyH_take (i := 19) (v := (.map (some mb))) rfl (by kernel_rfl) (by kernel_rfl) (by kernel_rfl) (fun c _ w h => hP c _ _ w h) (.inl ⟨rfl, fun _ _ => by go_simp⟩) ⟨hk.k1, hk.k2, hk.k3⟩ ?_
              exact hR _ nb mb _ wc (by kernel_rfl) (by kernel_rfl) ⟨hk, hm, hge⟩
            · have hins := insert_new hm (wn : Nat)
              go_simp
              have hk' := hk.sb hm hge (oneMap (wn : Nat))
              have hm' := sb_same (blk_lt hm) (oneMap (wn : Nat))
              refine hK.out _ _ hk'.s (fun _ => ?_)
              clear hK K hk hm hins
              revert hk' hm'
              generalize setBlock wc mb (oneMap (wn : Nat)) = wd
              intro hk' hm'
              revert wd
              intro wc hk hm
              refine wpAnyH_take (i := 19) (v := (.map (some mb))) rfl (by kernel_rfl) (by kernel_rfl) (by kernel_rfl) (fun c _ w h => hP c _ _ w h) (.inl ⟨rfl, fun _ _ => by go_simp⟩) ⟨hk.k1, hk.k2, hk.k3⟩ ?_
              refine wpAnyH_ready (rs := [7]) (by kernel_rfl) (by simp) ?_
              refine AllReadyH.cons rfl (fun K hK => ?_) AllReadyH.nil
              go_simp
              have hk' := hk.alloc (.cells #[.string ⟨#[97]⟩, .string ⟨#[98]⟩, .string ⟨#[99]⟩] 9)
              have hm' := (blk_old wc (.cells #[.string ⟨#[97]⟩, .string ⟨#[98]⟩, .string ⟨#[99]⟩] 9) (blk_lt hm)).trans hm
              refine hK.out _ _ hk'.s (fun _ => ?_)
              clear hK K hk hm
              revert hk' hm'
              generalize wc.alloc (.cells #[.string ⟨#[97]⟩, .string ⟨#[98]⟩, .string ⟨#[99]⟩] 9) = wd
              generalize wc.heap.size = nb
              intro hk' hm'
              revert wd
              intro wc hk hm
              exact hR _ nb mb _ wc (by kernel_rfl) (by kernel_rfl) ⟨hk, hm, hge⟩
        · go_simp
          have hk' := hk.alloc (.cells #[.string ⟨#[97]⟩, .string ⟨#[98]⟩, .string ⟨#[99]⟩] 9)
          refine hK.out _ _ hk'.s (fun _ => ?_)
          clear hK K hk
          revert hk'
          generalize wc.alloc (.cells #[.string ⟨#[97]⟩, .string ⟨#[98]⟩, .string ⟨#[99]⟩] 9) = wd
          generalize wc.heap.size = nb
          intro hk'
          revert wd
          intro wc hk
          refine wpAnyH_ready (rs := [6, 13]) (by kernel_rfl) (by simp) ?_
          refine AllReadyH.cons rfl (fun K hK => ?_) (AllReadyH.cons rfl (fun K hK => ?_) AllReadyH.nil)
          · go_simp
            refine (zzname_any i hi6 wc).mono ?_
            rintro e w' ⟨rfl, rfl⟩
            have hk' := hk.alloc (.cells #[.int .u8 112, .int .u8 (48 + i)] 5)
            refine hK.out _ _ hk'.s (fun _ => ?_)
            clear hK K hk
            revert hk'
            generalize wc.alloc (.cells #[.int .u8 112, .int .u8 (48 + i)] 5) = wd
            intro hk'
            revert wd
            intro wc hk
            refine wpAnyH_ready (rs := [13]) (by kernel_rfl) (by simp) ?_
            refine AllReadyH.cons rfl (fun K hK => ?_) AllReadyH.nil
            go_simp
            have hk' := hk.alloc (.map #[] 0)
            have hm' := blk_new wc (.map #[] 0)
            have hge := hk.bel.size
            refine hK.out _ _ hk'.s (fun _ => ?_)
            clear hK K hk
            revert hk' hm' hge
            generalize wc.alloc (.map #[] 0) = wd
            generalize wc.heap.size = mb
            intro hk' hm' hge
            revert wd
            intro wc hk hm
            refine wpAnyH_ready (rs := [18]) (by kernel_rfl) (by simp) ?_
            refine AllReadyH.cons rfl (fun K hK => ?_) AllReadyH.nil
            have hins := insert_new hm (wn : Nat)
            go_simp
            have hk' := hk.sb hm hge (oneMap (wn : Nat))
            have hm' := sb_same (blk_lt hm) (oneMap (wn : Nat))
            refine hK.out _ _ hk'.s (fun _ => ?_)
            clear hK K hk hm hins
            revert hk' hm'
            generalize setBlock wc mb (oneMap (wn : Nat)) = wd
            intro hk' hm'
            revert wd
            intro wc hk hm
            refine wpAnyH_take (i := 19) (v := (.map (some mb))) rfl (by kernel_rfl) (by kernel_rfl) (by kernel_rfl) (fun c _ w h => hP c _ _ w h) (.inl ⟨rfl, fun _ _ => by go_simp⟩) ⟨hk.k1, hk.k2, hk.k3⟩ ?_
            exact hR _ nb mb _ wc (by kernel_rfl) (by kernel_rfl) ⟨hk, hm, hge⟩
          · go_simp
            have hk' := hk.alloc (.map #[] 0)
            have hm' := blk_new wc (.map #[] 0)
            have hge := hk.bel.size
            refine hK.out _ _ hk'.s (fun _ => ?_)
            clear hK K hk
            revert hk' hm' hge
            generalize wc.alloc (.map #[] 0) = wd
            generalize wc.heap.size = mb
            intro hk' hm' hge
            revert wd
            intro wc hk hm
            refine wpAnyH_ready (rs := [6, 18]) (by kernel_rfl) (by simp) ?_
            refine AllReadyH.cons rfl (fun K hK => ?_) (AllReadyH.cons rfl (fun K hK => ?_) AllReadyH.nil)
            · go_simp
              refine (zzname_any i hi6 wc).mono ?_
              rintro e w' ⟨rfl, rfl⟩
              have hk' := hk.alloc (.cells #[.int .u8 112, .int .u8 (48 + i)] 5)
              have hm' := (blk_old wc (.cells #[.int .u8 112, .int .u8 (48 + i)] 5) (blk_lt hm)).trans hm
              refine hK.out _ _ hk'.s (fun _ => ?_)
              clear hK K hk hm
              revert hk' hm'
              generalize wc.alloc (.cells #[.int .u8 112, .int .u8 (48 + i)] 5) = wd
              intro hk' hm'
              revert wd
              intro wc hk hm
              refine wpAnyH_ready (rs := [18]) (by kernel_rfl) (by simp) ?_
              refine AllReadyH.cons rfl (fun K hK => ?_) AllReadyH.nil
              have hins := insert_new hm (wn : Nat)
              go_simp
              have hk' := hk.sb hm hge (oneMap (wn : Nat))
              have hm' := sb_same (blk_lt hm) (oneMap (wn : Nat))
              refine hK.out _ _ hk'.s (fun _ => ?_)
              clear hK K hk hm hins
              revert hk' hm'
              generalize setBlock wc mb (oneMap (wn : Nat)) = wd
              intro hk' hm'
              revert wd
              intro wc hk hm
              refine wpAnyH_take (i := 19) (v := (.map (some mb))) rfl (by kernel_rfl) (by kernel_rfl) (by kernel_rfl) (fun c _ w h => hP c _ _ w h) (.inl ⟨rfl, fun _ _ => by go_simp⟩) ⟨hk.k1, hk.k2, hk.k3⟩ ?_
              exact hR _ nb mb _ wc (by kernel_rfl) (by kernel_rfl) ⟨hk, hm, hge⟩
            · have hins := insert_new hm (wn : Nat)
              go_simp
              have hk' := hk.sb hm hge (oneMap (wn : Nat))
              have hm' := sb_same (blk_lt hm) (oneMap (wn : Nat))
              refine hK.out _ _ hk'.s (fun _ => ?_)
              clear hK K hk hm hins
              revert hk' hm'
              generalize setBlock wc mb (oneMap (wn : Nat)) = wd
              intro hk' hm'
              revert wd
              intro wc hk hm
              refine wpAnyH_take (i := 19) (v := (.map (some mb))) rfl (by kernel_rfl) (by kernel_rfl) (by kernel_rfl) (fun c _ w h => hP c _ _ w h) (.inl ⟨rfl, fun _ _ => by go_simp⟩) ⟨hk.k1, hk.k2, hk.k3⟩ ?_
              refine wpAnyH_ready (rs := [6]) (by kernel_rfl) (by simp) ?_
              refine AllReadyH.cons rfl (fun K hK => ?_) AllReadyH.nil
              go_simp
              refine (zzname_any i hi6 wc).mono ?_
              rintro e w' ⟨rfl, rfl⟩
              have hk' := hk.alloc (.cells #[.int .u8 112, .int .u8 (48 + i)] 5)
              have hm' := (blk_old wc (.cells #[.int .u8 112, .int .u8 (48 + i)] 5) (blk_lt hm)).trans hm
              refine hK.out _ _ hk'.s (fun _ => ?_)
              clear hK K hk hm
              revert hk' hm'
              generalize wc.alloc (.cells #[.int .u8 112, .int .u8 (48 + i)] 5) = wd
              intro hk' hm'
              revert wd
              intro wc hk hm
              exact hR _ nb mb _ wc (by kernel_rfl) (by kernel_rfl) ⟨hk, hm, hge⟩
        · go_simp
          have hk' := hk.alloc (.map #[] 0)
          have hm' := blk_new wc (.map #[] 0)
          have hge := hk.bel.size
          refine hK.out _ _ hk'.s (fun _ => ?_)
          clear hK K hk
          revert hk' hm' hge
          generalize wc.alloc (.map #[] 0) = wd
          generalize wc.heap.size = mb
          intro hk' hm' hge
          revert wd
          intro wc hk hm
          refine wpAnyH_ready (rs := [6, 7, 18]) (by kernel_rfl) (by simp) ?_
          refine AllReadyH.cons rfl (fun K hK => ?_) (AllReadyH.cons rfl (fun K hK => ?_) (AllReadyH.cons rfl (fun K hK => ?_) AllReadyH.nil))
          · go_simp
            refine (zzname_any i hi6 wc).mono ?_
            rintro e w' ⟨rfl, rfl⟩
            have hk' := hk.alloc (.cells #[.int .u8 112, .int .u8 (48 + i)] 5)
            have hm' := (blk_old wc (.cells #[.int .u8 112, .int .u8 (48 + i)] 5) (blk_lt hm)).trans hm
            refine hK.out _ _ hk'.s (fun _ => ?_)
            clear hK K hk hm
            revert hk' hm'
            generalize wc.alloc (.cells #[.int .u8 112, .int .u8 (48 + i)] 5) = wd
            intro hk' hm'
            revert wd
            intro wc hk hm
            refine wpAnyH_ready (rs := [7, 18]) (by kernel_rfl) (by simp) ?_
            refine AllReadyH.cons rfl (fun K hK => ?_) (AllReadyH.cons rfl (fun K hK => ?_) AllReadyH.nil)
            · go_simp
              have hk' := hk.alloc (.cells #[.string ⟨#[97]⟩, .string ⟨#[98]⟩, .string ⟨#[99]⟩] 9)
              have hm' := (blk_old wc (.cells #[.string ⟨#[97]⟩, .string ⟨#[98]⟩, .string ⟨#[99]⟩] 9) (blk_lt hm)).trans hm
              refine hK.out _ _ hk'.s (fun _ => ?_)
              clear hK K hk hm
              revert hk' hm'
              generalize wc.alloc (.cells #[.string ⟨#[97]⟩, .string ⟨#[98]⟩, .string ⟨#[99]⟩] 9) = wd
              generalize wc.heap.size = nb
              intro hk' hm'
              revert wd
              intro wc hk hm
              refine wpAnyH_ready (rs := [18]) (by kernel_rfl) (by simp) ?_
              refine AllReadyH.cons rfl (fun K hK => ?_) AllReadyH.nil
              have hins := insert_new hm (wn : Nat)
              go_simp
              have hk' := hk.sb hm hge (oneMap (wn : Nat))
              have hm' := sb_same (blk_lt hm) (oneMap (wn : Nat))
              refine hK.out _ _ hk'.s (fun _ => ?_)
              clear hK K hk hm hins
              revert hk' hm'
              generalize setBlock wc mb (oneMap (wn : Nat)) = wd
              intro hk' hm'
              revert wd
              intro wc hk hm
              refine wpAnyH_take (i := 19) (v := (.map (some mb))) rfl (by kernel_rfl) (by kernel_rfl) (by kernel_rfl) (fun c _ w h => hP c _ _ w h) (.inl ⟨rfl, fun _ _ => by go_simp⟩) ⟨hk.k1, hk.k2, hk.k3⟩ ?_
              exact hR _ nb mb _ wc (by kernel_rfl) (by kernel_rfl) ⟨hk, hm, hge⟩
            · have hins := insert_new hm (wn : Nat)
              go_simp
              have hk' := hk.sb hm hge (oneMap (wn : Nat))
              have hm' := sb_same (blk_lt hm) (oneMap (wn : Nat))
              refine hK.out _ _ hk'.s (fun _ => ?_)
              clear hK K hk hm hins
              revert hk' hm'
              generalize setBlock wc mb (oneMap (wn : Nat)) = wd
              intro hk' hm'
              revert wd
              intro wc hk hm
              refine wpAnyH_take (i := 19) (v := (.map (some mb))) rfl (by kernel_rfl) (by kernel_rfl) (by kernel_rfl) (fun c _ w h => hP c _ _ w h) (.inl ⟨rfl, fun _ _ => by go_simp⟩) ⟨hk.k1, hk.k2, hk.k3⟩ ?_
              refine wpAnyH_ready (rs := [7]) (by kernel_rfl) (by simp) ?_
              refine AllReadyH.cons rfl (fun K hK => ?_) AllReadyH.nil
              go_simp
              have hk' := hk.alloc (.cells #[.string ⟨#[97]⟩, .string ⟨#[98]⟩, .string ⟨#[99]⟩] 9)
              have hm' := (blk_old wc (.cells #[.string ⟨#[97]⟩, .string ⟨#[98]⟩, .string ⟨#[99]⟩] 9) (blk_lt hm)).trans hm
              refine hK.out _ _ hk'.s (fun _ => ?_)
              clear hK K hk hm
              revert hk' hm'
              generalize wc.alloc (.cells #[.string ⟨#[97]⟩, .string ⟨#[98]⟩, .string ⟨#[99]⟩] 9) = wd
              generalize wc.heap.size = nb
              intro hk' hm'
              revert wd
              intro wc hk hm
              exact hR _ nb mb _ wc (by kernel_rfl) (by kernel_rfl) ⟨hk, hm, hge⟩
          · go_simp
            have hk' := hk.alloc (.cells #[.string ⟨#[97]⟩, .string ⟨#[98]⟩, .string ⟨#[99]⟩] 9)
            have hm' := (blk_old wc (.cells #[.string ⟨#[97]⟩, .string ⟨#[98]⟩, .string ⟨#[99]⟩] 9) (blk_lt hm)).trans hm
            refine hK.out _ _ hk'.s (fun _ => ?_)
            clear hK K hk hm
            revert hk' hm'
            generalize wc.alloc (.cells #[.string ⟨#[97]⟩, .string ⟨#[98]⟩, .string ⟨#[99]⟩] 9) = wd
            generalize wc.heap.size = nb
            intro hk' hm'
            revert wd
            intro wc hk hm
            refine wpAnyH_ready (rs := [6, 18]) (by kernel_rfl) (by simp) ?_
            refine AllReadyH.cons rfl (fun K hK => ?_) (AllReadyH.cons rfl (fun K hK => ?_) AllReadyH.nil)
            · go_simp
              refine (zzname_any i hi6 wc).mono ?_
              rintro e w' ⟨rfl, rfl⟩
              have hk' := hk.alloc (.cells #[.int .u8 112, .int .u8 (48 + i)] 5)
              have hm' := (blk_old wc (.cells #[.int .u8 112, .int .u8 (48 + i)] 5) (blk_lt hm)).trans hm
              refine hK.out _ _ hk'.s (fun _ => ?_)
              clear hK K hk hm
              revert hk' hm'
              generalize wc.alloc (.cells #[.int .u8 112, .int .u8 (48 + i)] 5) = wd
              intro hk' hm'
              revert wd
              intro wc hk hm
              refine wpAnyH_ready (rs := [18]) (by kernel_rfl) (by simp) ?_
              refine AllReadyH.cons rfl (fun K hK => ?_) AllReadyH.nil
              have hins := insert_new hm (wn : Nat)
              go_simp
              have hk' := hk.sb hm hge (oneMap (wn : Nat))
              have hm' := sb_same (blk_lt hm) (oneMap (wn : Nat))
              refine hK.out _ _ hk'.s (fun _ => ?_)
              clear hK K hk hm hins
              revert hk' hm'
              generalize setBlock wc mb (oneMap (wn : Nat)) = wd
              intro hk' hm'
              revert wd
              intro wc hk hm
              refine wpAnyH_take (i := 19) (v := (.map (some mb))) rfl (by kernel_rfl) (by kernel_rfl) (by kernel_rfl) (fun c _ w h => hP c _ _ w h) (.inl ⟨rfl, fun _ _ => by go_simp⟩) ⟨hk.k1, hk.k2, hk.k3⟩ ?_
              exact hR _ nb mb _ wc (by kernel_rfl) (by kernel_rfl) ⟨hk, hm, hge⟩
            · have hins := insert_new hm (wn : Nat)
              go_simp
              have hk' := hk.sb hm hge (oneMap (wn : Nat))
              have hm' := sb_same (blk_lt hm) (oneMap (wn : Nat))
              refine hK.out _ _ hk'.s (fun _ => ?_)
              clear hK K hk hm hins
              revert hk' hm'
              generalize setBlock wc mb (oneMap (wn : Nat)) = wd
              intro hk' hm'
              revert wd
              intro wc hk hm
              refine wpAnyH_take (i := 19) (v := (.map (some mb))) rfl (by kernel_rfl) (by kernel_rfl) (by kernel_rfl) (fun c _ w h => hP c _ _ w h) (.inl ⟨rfl, fun _ _ => by go_simp⟩) ⟨hk.k1, hk.k2, hk.k3⟩ ?_
              refine wpAnyH_ready (rs := [6]) (by kernel_rfl) (by simp) ?_
              refine AllReadyH.cons rfl (fun K hK => ?_) AllReadyH.nil
              go_simp
              refine (zzname_any i hi6 wc).mono ?_
              rintro e w' ⟨rfl, rfl⟩
              have hk' := hk.alloc (.cells #[.int .u8 112, .int .u8 (48 + i)] 5)
              have hm' := (blk_old wc (.cells #[.int .u8 112, .int .u8 (48 + i)] 5) (blk_lt hm)).trans hm
              refine hK.out _ _ hk'.s (fun _ => ?_)
              clear hK K hk hm
              revert hk' hm'
              generalize wc.alloc (.cells #[.int .u8 112, .int .u8 (48 + i)] 5) = wd
              intro hk' hm'
              revert wd
              intro wc hk hm
              exact hR _ nb mb _ wc (by kernel_rfl) (by kernel_rfl) ⟨hk, hm, hge⟩
          · have hins := insert_new hm (wn : Nat)
            go_simp
            have hk' := hk.sb hm hge (oneMap (wn : Nat))
            have hm' := sb_same (blk_lt hm) (oneMap (wn : Nat))
            refine hK.out _ _ hk'.s (fun _ => ?_)
            clear hK K hk hm hins
            revert hk' hm'
            generalize setBlock wc mb (oneMap (wn : Nat)) = wd
            intro hk' hm'
            revert wd
            intro wc hk hm
            refine wpAnyH_take (i := 19) (v := (.map (some mb))) rfl (by kernel_rfl) (by kernel_rfl) (by kernel_rfl) (fun c _ w h => hP c _ _ w h) (.inl ⟨rfl, fun _ _ => by go_simp⟩) ⟨hk.k1, hk.k2, hk.k3⟩ ?_
            refine wpAnyH_ready (rs := [6, 7]) (by kernel_rfl) (by simp) ?_
            refine AllReadyH.cons rfl (fun K hK => ?_) (AllReadyH.cons rfl (fun K hK => ?_) AllReadyH.nil)
            · go_simp
              refine (zzname_any i hi6 wc).mono ?_
              rintro e w' ⟨rfl, rfl⟩
              have hk' := hk.alloc (.cells #[.int .u8 112, .int .u8 (48 + i)] 5)
              have hm' := (blk_old wc (.cells #[.int .u8 112, .int .u8 (48 + i)] 5) (blk_lt hm)).trans hm
              refine hK.out _ _ hk'.s (fun _ => ?_)
              clear hK K hk hm
              revert hk' hm'
              generalize wc.alloc (.cells #[.int .u8 112, .int .u8 (48 + i)] 5) = wd
              intro hk' hm'
              revert wd
              intro wc hk hm
              refine wpAnyH_ready (rs := [7]) (by kernel_rfl) (by simp) ?_
              refine AllReadyH.cons rfl (fun K hK => ?_) AllReadyH.nil
              go_simp
              have hk' := hk.alloc (.cells #[.string ⟨#[97]⟩, .string ⟨#[98]⟩, .string ⟨#[99]⟩] 9)
              have hm' := (blk_old wc (.cells #[.string ⟨#[97]⟩, .string ⟨#[98]⟩, .string ⟨#[99]⟩] 9) (blk_lt hm)).trans hm
              refine hK.out _ _ hk'.s (fun _ => ?_)
              clear hK K hk hm
              revert hk' hm'
              generalize wc.alloc (.cells #[.string ⟨#[97]⟩, .string ⟨#[98]⟩, .string ⟨#[99]⟩] 9) = wd
              generalize wc.heap.size = nb
              intro hk' hm'
              revert wd
              intro wc hk hm
              exact hR _ nb mb _ wc (by kernel_rfl) (by kernel_rfl) ⟨hk, hm, hge⟩
            · go_simp
              have hk' := hk.alloc (.cells #[.string ⟨#[97]⟩, .string ⟨#[98]⟩, .string ⟨#[99]⟩] 9)
              have hm' := (blk_old wc (.cells #[.string ⟨#[97]⟩, .string ⟨#[98]⟩, .string ⟨#[99]⟩] 9) (blk_lt hm)).trans hm
              refine hK.out _ _ hk'.s (fun _ => ?_)
              clear hK K hk hm
              revert hk' hm'
              generalize wc.alloc (.cells #[.string ⟨#[97]⟩, .string ⟨#[98]⟩, .string ⟨#[99]⟩] 9) = wd
              generalize wc.heap.size = nb
              intro hk' hm'
              revert wd
              intro wc hk hm
              refine wpAnyH_ready (rs := [6]) (by kernel_rfl) (by simp) ?_
              refine AllReadyH.cons rfl (fun K hK => ?_) AllReadyH.nil
              go_simp
              refine (zzname_any i hi6 wc).mono ?_
              rintro e w' ⟨rfl, rfl⟩
              have hk' := hk.alloc (.cells #[.int .u8 112, .int .u8 (48 + i)] 5)
              have hm' := (blk_old wc (.cells #[.int .u8 112, .int .u8 (48 + i)] 5) (blk_lt hm)).trans hm
              refine hK.out _ _ hk'.s (fun _ => ?_)
              clear hK K hk hm
              revert hk' hm'
              generalize wc.alloc (.cells #[.int .u8 112, .int .u8 (48 + i)] 5) = wd
              intro hk' hm'
              revert wd
              intro wc hk hm
              exact hR _ nb mb _ wc (by kernel_rfl) (by kernel_rfl) ⟨hk, hm, hge⟩
      · intro nb mb wc hx
        obtain ⟨hk, hm, hge⟩ := hx
        refine wpAnyH_take (i := 20) (v := (.agg (pkC i (.slice (some ⟨nb, 0, none⟩) 3 3) pol pn mb))) rfl (by kernel_rfl) (by kernel_rfl) (by kernel_rfl) (fun c _ w h => hP c _ _ w h) (.inl ⟨rfl, fun _ _ => by go_simp⟩) ⟨hk.k1, hk.k2, hk.k3⟩ ?_
        refine wpAnyH_ready (rs := [21]) (by kernel_rfl) (by simp) ?_
        refine AllReadyH.cons rfl (fun K hK => ?_) AllReadyH.nil
        go_simp
        have hk2 := hk.alloc (.cells (pkC i (.slice (some ⟨nb, 0, none⟩) 3 3) pol pn mb) 60)
        have hpk := blk_new wc (.cells (pkC i (.slice (some ⟨nb, 0, none⟩) 3 3) pol pn mb) 60)
        have hm2 := (blk_old wc (.cells (pkC i (.slice (some ⟨nb, 0, none⟩) 3 3) pol pn mb) 60) (blk_lt hm)).trans hm
        have hge2 := hk.bel.size
        refine hK.out _ _ hk2.s (fun _ => ?_)
        clear hK K hk hm
        revert hk2 hpk hm2 hge2
        generalize wc.alloc (.cells (pkC i (.slice (some ⟨nb, 0, none⟩) 3 3) pol pn mb) 60) = wd
        generalize wc.heap.size = pbN
        intro hk2 hpk hm2 hge2
        refine wpAnyH_ready (rs := [22]) (by kernel_rfl) (by simp) ?_
        refine AllReadyH.cons rfl (fun K hK => ?_) AllReadyH.nil
        go_simp
        have hk3 := hk2.alloc (.cells #[ptr pbN] 52)
        have hpk3 := (blk_old wd (.cells #[ptr pbN] 52) (blk_lt hpk)).trans hpk
        have hm3 := (blk_old wd (.cells #[ptr pbN] 52) (blk_lt hm2)).trans hm2
        refine hK.out _ _ hk3.s (fun _ => ?_)
        clear hK K
        have row3 := own_of_block e2 (fun k hk' => hk3.bel.block k (e2.lt k hk').2)
        have hzW := Nat.le_trans (unhide HM).ud.size hk3.bel.size
        refine wpAnyH_ready (rs := [23]) (by kernel_rfl) (by simp) ?_
        refine AllReadyH.cons rfl (fun K hK => ?_) AllReadyH.nil
        refine step_append_g rfl _ _ 43 rfl W.heap.size 52 i0 _ 1 8 Yba.underlying43 hi0 hz0 hz1 hz2 rfl (by decide) _ _ _ rfl row3 ⟨wd.heap.size, 0, none⟩ 1 1 [ptr pbN] rfl rfl (cell_one_new _ _ _) (by simp [Value.oneCell']) (by unfold maxLen; omega) (by omega) hzW ?_
        intro v3 w3 hown3 hgrow3 hat3
        obtain ⟨a3, c3, rfl⟩ := own_slice hown3
        obtain ⟨e1, e3, e4⟩ := unhide HE
        obtain ⟨g1, g2, g3, g4⟩ := (unhide HM).push e1 e2 e3 e4 hi6 hk3.bel (by rw [(unhide HPN).2]; exact hm3) hge (by rw [(unhide HPN).1]; exact hpk3) hge2 hown3 hgrow3
        have s1 : w3.cell? ⟨cc, 11, none⟩ = some (.slice a i cpk) := cell_of_blk g1 (i := 11) rfl
        have s1f := frozen_of_blk g1 11
        have s2 := g2.cell hik
        have s3 := g3.cell hik
        simp only [Nat.lt_succ_self, if_true] at s2 s3
        rw [(unhide HPN).1] at s2
        rw [(unhide HPN).2] at s3
        have HG := hide g4
        clear g1 g2 g3 g4 e1 e3 e4 hown3 hgrow3 hat3 row3 hk2 hk3 hpk hpk3 hm2 hm3 hzW
        refine hK.out _ _ ⟨s1, s2, s3⟩ (fun _ => ?_)
        clear hK K
        refine wpAnyH_take (i := 24) (v := ptr cc) rfl (by kernel_rfl) (by kernel_rfl) (by kernel_rfl) (fun c _ w h => hP c _ _ w h) (.inl ⟨rfl, fun _ _ => by go_simp⟩) ⟨s1, s2, s3⟩ ?_
        refine wpAnyH_take (i := 25) (v := .pointer (some ⟨cc, 11, none⟩)) rfl (by kernel_rfl) (by kernel_rfl) (by kernel_rfl) (fun c _ w h => hP c _ _ w h) (.inl ⟨rfl, fun _ _ => by go_simp⟩) ⟨s1, s2, s3⟩ ?_
        refine wpAnyH_done (by kernel_rfl) ?_ _
        refine before_normal ?_
        refine wpOp_step rfl (fun K hK => ?_)
        go_simp
        refine hK _ _ ?_
        clear hK K
        go_wp2
        exact ⟨⟨i + 1, by omega, by go_num, unhide HG⟩, by simp [intOf]; omega⟩
    · have hie : i = k := by omega
      subst hie
      have HN := hide (hN.congr (fp' := fun q => (P q % 4 : Nat)) (fw' := fun q => (Wt q % 5 : Nat)) (fun q hq => by rw [if_pos hq]) (fun q hq => by rw [if_pos hq]))
      clear hN
      go_wp2
      exact unhide HN


end Go.Proofs.Ybulkaibe
