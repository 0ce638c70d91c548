/-
  THE THIRD LOOP: the packages are put.
-/
import Derived.Test.YbulkaibeMod
namespace Go.Proofs.Ybulkaibe
open Go.RowKit Go.WideMaps Go.Maps Kit
open Go.ChangeMaps (setBlock heap_setBlock_other)

/-- The first i packages are put. -/
def L3 (A : Ad) (W : World) (lB rB cB : Nat) (i : Nat) (wx : World) : Prop :=
  ∃ loc room cnt N, N ≤ i ∧ M3 A W lB rB cB loc room cnt N (fun q => if q < i then locI (loc q) else 0) room cnt wx ∧ ∀ q, i ≤ q → loc q = none

theorem L3.skip {A : Ad} {W wx : World} {lB rB cB i N : Nat} {loc : Nat → Option Nat} {room cnt : Nat → Int} (h : M3 A W lB rB cB loc room cnt N (updF (fun q => if q < i then locI (loc q) else 0) i (-1)) room cnt wx) (hN : N ≤ i) (hl : ∀ q, i ≤ q → loc q = none) : L3 A W lB rB cB (i + 1) wx := by
  refine ⟨loc, room, cnt, N, by omega, h.congr (fun q _ => ?_) (fun _ _ => rfl) (fun _ _ => rfl), fun q hq => hl q (by omega)⟩
  by_cases h1 : q = i
  · subst h1; rw [updF_same, if_pos (by omega), hl q (Nat.le_refl _)]; rfl
  · rw [updF_other _ _ h1]
    by_cases h2 : q < i
    · rw [if_pos h2, if_pos (by omega)]
    · rw [if_neg h2, if_neg (by omega)]
theorem L3.put {A : Ad} {W wx : World} {lB rB cB i j N : Nat} {loc : Nat → Option Nat} {room cnt : Nat → Int} (h : M3 A W lB rB cB (updF loc i (some j)) (updF room j (room j - A.wt i)) (updF cnt j (cnt j + 1)) (N + 1) (updF (updF (fun q => if q < i then locI (loc q) else 0) i (-1)) i j) (updF room j (room j - A.wt i)) (updF cnt j (cnt j + 1)) wx) (hN : N ≤ i) (hl : ∀ q, i ≤ q → loc q = none) : L3 A W lB rB cB (i + 1) wx := by
  refine ⟨_, _, _, N + 1, by omega, h.congr (fun q _ => ?_) (fun _ _ => rfl) (fun _ _ => rfl), fun q hq => by rw [updF_other _ _ (by omega)]; exact hl q (by omega)⟩
  by_cases h1 : q = i
  · subst h1; rw [updF_same, if_pos (by omega), updF_same]; rfl
  · rw [updF_other _ _ h1, updF_other _ _ h1, updF_other _ _ h1]
    by_cases h2 : q < i
    · rw [if_pos h2, if_pos (by omega)]
    · rw [if_neg h2, if_neg (by omega)]

set_option maxRecDepth 100000 in
set_option maxHeartbeats 4000000 in
theorem stm16_ok {c0 c2 c7 c8 c9 c12 c50 c51 c52 c53 c54 c55 c56 c57 c58 c59 c60 c61 c62 c63 c64 c65 c66 c67 c68 c69 c70 c71 c72 c73 c74 c75 c76 c77 c78 c79 c80 c81 c82 c83 c84 c85 c86 c87 c88 c89 c90 c91 c92 c93 c94 c95 c96 c97 c98 c99 c100 c101 c102 c103 c104 c105 c106 c107 c108 c109 c110 c111 c112 c113 c114 c115 c116 c117 c118 c119 c120 c121 c122 c123 c124 c125 c126 c127 c128 c129 c130 c131 c132 c133 c134 c135 c136 c137 c138 c139 c140 c141 c142 c143 c144 c145 c146 c147 c148 c149 c150 c151 c152 c153 c154 c155 c156 c157 c158 c159 c160 c161 c162 c163 : Value} {Q : Exit → Act → World → Prop} (hP : ∀ c a a' w, Q (.panic c) a w → Q (.panic c) a' w) (A : Ad) (W : World) (zB nB wB lB rB cB t cw cl : Nat) {Z : Array Value} {P Wt H C : Nat → Nat} {sel : Value} {mn : Bool} (hZ : Zs Z P Wt H C sel mn)
    (hz : W.heap[zB]? = some (.cells Z 26 (0, 0))) (hn : W.heap[nB]? = some (.cells namesC 27 (0, 0))) (hw : Row W wB A.k (fun q => A.wt q)) (h0 : L3 A W lB rB cB 0 W)
    (oz : zB ∉ lB :: rB :: cB :: A.dyn) (on : nB ∉ lB :: rB :: cB :: A.dyn) (ow : wB ∉ lB :: rB :: cB :: A.dyn) (ha : Ap A lB rB cB)
    (hQ : ∀ (u16 : Value) (u17 : Value) (u18 : Value) (u164 : Value) (u165 : Value) (u166 : Value) (u167 : Value) (u168 : Value) (u169 : Value) (u170 : Value) (u171 : Value) (u172 : Value) (u173 : Value) (u174 : Value) (u175 : Value) (u176 : Value) (u177 : Value) (u178 : Value) (u179 : Value) (u180 : Value) (u181 : Value) (u182 : Value) (u183 : Value) (u184 : Value) (u185 : Value) (u186 : Value) (u187 : Value) (u188 : Value) (u189 : Value) (u190 : Value) (u191 : Value) (u192 : Value) (u193 : Value) (u194 : Value) (u195 : Value) (u196 : Value) (u197 : Value) (u198 : Value) (u199 : Value) (u200 : Value) (u201 : Value) (u202 : Value) (u203 : Value) (u204 : Value) (u205 : Value) (u206 : Value) (u207 : Value) (u208 : Value) (u209 : Value) (u210 : Value) (u211 : Value) (u212 : Value) (u213 : Value) (u214 : Value) (wx : World), L3 A W lB rB cB A.k wx → Q .normal ⟨#[c0, (ptr zB), c2, (ptr nB), (.int .i64 (A.k : Nat)), (.int .i64 (t : Nat)), (ptr A.c), c7, c8, c9, (.slice (some ⟨wB, 0, none⟩) A.k cw), (.slice (some ⟨lB, 0, none⟩) A.k cl), c12, (ptr A.pl), (ptr rB), (ptr cB), u16, u17, u18, undef, undef, undef, undef, undef, undef, undef, undef, undef, undef, undef, undef, undef, undef, undef, undef, undef, undef, undef, undef, undef, undef, undef, undef, undef, undef, undef, undef, undef, undef, undef, c50, c51, c52, c53, c54, c55, c56, c57, c58, c59, c60, c61, c62, c63, c64, c65, c66, c67, c68, c69, c70, c71, c72, c73, c74, c75, c76, c77, c78, c79, c80, c81, c82, c83, c84, c85, c86, c87, c88, c89, c90, c91, c92, c93, c94, c95, c96, c97, c98, c99, c100, c101, c102, c103, c104, c105, c106, c107, c108, c109, c110, c111, c112, c113, c114, c115, c116, c117, c118, c119, c120, c121, c122, c123, c124, c125, c126, c127, c128, c129, c130, c131, c132, c133, c134, c135, c136, c137, c138, c139, c140, c141, c142, c143, c144, c145, c146, c147, c148, c149, c150, c151, c152, c153, c154, c155, c156, c157, c158, c159, c160, c161, c162, c163, u164, u165, u166, u167, u168, u169, u170, u171, u172, u173, u174, u175, u176, u177, u178, u179, u180, u181, u182, u183, u184, u185, u186, u187, u188, u189, u190, u191, u192, u193, u194, u195, u196, u197, u198, u199, u200, u201, u202, u203, u204, u205, u206, u207, u208, u209, u210, u211, u212, u213, u214, undef, undef, undef, undef, undef, undef, undef, undef, undef, undef, undef, undef, undef, undef, undef, undef, undef, undef, undef, undef, undef, undef, undef, undef, undef, undef, undef, undef, undef, undef, undef, undef, undef, undef, undef, undef, undef, undef, undef, undef, undef, undef, undef, undef, undef, undef, undef, undef, undef, undef, undef, undef, undef, undef, undef, undef, undef, undef, undef, undef, undef, undef, undef, undef, undef, undef, undef, undef, undef, undef, undef, undef, undef, undef, undef, undef, undef, undef, undef, undef, undef, undef, undef, undef, undef, undef, undef, undef, undef, undef, undef, undef, undef, undef, undef, undef, undef, undef, undef, undef, undef, undef, undef, undef, undef, undef, undef, undef, undef, undef, undef, undef, undef, undef, undef, undef, undef, undef, undef, undef, undef, undef, undef, undef, undef, undef, undef, undef, undef, undef, undef, undef, undef, undef, undef, undef, undef, undef, undef, undef, undef, undef, undef, undef, undef, undef, undef, undef, undef, undef, undef, undef, undef, undef, undef, undef, undef, undef, undef, undef, undef, undef, undef, undef, undef, undef, undef, undef, undef, undef, undef, undef, undef, undef, undef, undef, undef, undef, undef, undef, undef, undef, undef, undef, undef, undef, undef, undef, undef, undef, undef, undef, undef, undef, undef, undef, undef, undef, undef, undef, undef, undef, undef, undef, undef, undef, undef, undef, undef, undef, undef, undef, undef, undef, undef, undef, undef, undef, undef, undef, undef, undef, undef, undef, undef, undef, undef, undef, undef, undef, undef, undef, undef, undef, undef, undef, undef, undef, undef, undef, undef, undef, undef, undef, undef, undef, undef, undef, undef, undef, undef, undef, undef, undef, undef, undef, undef, undef, undef, undef, undef, undef, undef, undef, undef, undef, undef, undef, undef, undef, undef, undef, undef, undef, undef, undef, undef, undef, undef, undef, undef, undef, undef, undef, undef, undef, undef, undef, undef, undef, undef, undef, undef, undef, undef, undef, undef, undef, undef, undef, undef, undef, undef, undef, undef, undef, undef, undef, undef, undef, undef, undef, undef, undef, undef, undef, undef, undef, undef, undef, undef, undef, undef, undef, undef, undef, undef, undef, undef, undef, undef, undef, undef, undef, undef, undef, undef, undef, undef, undef, undef, undef, undef, undef, undef], []⟩ wx) :
    (stm 16).wp Yba.prog Q ⟨#[c0, (ptr zB), c2, (ptr nB), (.int .i64 (A.k : Nat)), (.int .i64 (t : Nat)), (ptr A.c), c7, c8, c9, (.slice (some ⟨wB, 0, none⟩) A.k cw), (.slice (some ⟨lB, 0, none⟩) A.k cl), c12, (ptr A.pl), (ptr rB), (ptr cB), undef, undef, undef, undef, undef, undef, undef, undef, undef, undef, undef, undef, undef, undef, undef, undef, undef, undef, undef, undef, undef, undef, undef, undef, undef, undef, undef, undef, undef, undef, undef, undef, undef, undef, c50, c51, c52, c53, c54, c55, c56, c57, c58, c59, c60, c61, c62, c63, c64, c65, c66, c67, c68, c69, c70, c71, c72, c73, c74, c75, c76, c77, c78, c79, c80, c81, c82, c83, c84, c85, c86, c87, c88, c89, c90, c91, c92, c93, c94, c95, c96, c97, c98, c99, c100, c101, c102, c103, c104, c105, c106, c107, c108, c109, c110, c111, c112, c113, c114, c115, c116, c117, c118, c119, c120, c121, c122, c123, c124, c125, c126, c127, c128, c129, c130, c131, c132, c133, c134, c135, c136, c137, c138, c139, c140, c141, c142, c143, c144, c145, c146, c147, c148, c149, c150, c151, c152, c153, c154, c155, c156, c157, c158, c159, c160, c161, c162, c163, undef, undef, undef, undef, undef, undef, undef, undef, undef, undef, undef, undef, undef, undef, undef, undef, undef, undef, undef, undef, undef, undef, undef, undef, undef, undef, undef, undef, undef, undef, undef, undef, undef, undef, undef, undef, undef, undef, undef, undef, undef, undef, undef, undef, undef, undef, undef, undef, undef, undef, undef, undef, undef, undef, undef, undef, undef, undef, undef, undef, undef, undef, undef, undef, undef, undef, undef, undef, undef, undef, undef, undef, undef, undef, undef, undef, undef, undef, undef, undef, undef, undef, undef, undef, undef, undef, undef, undef, undef, undef, undef, undef, undef, undef, undef, undef, undef, undef, undef, undef, undef, undef, undef, undef, undef, undef, undef, undef, undef, undef, undef, undef, undef, undef, undef, undef, undef, undef, undef, undef, undef, undef, undef, undef, undef, undef, undef, undef, undef, undef, undef, undef, undef, undef, undef, undef, undef, undef, undef, undef, undef, undef, undef, undef, undef, undef, undef, undef, undef, undef, undef, undef, undef, undef, undef, undef, undef, undef, undef, undef, undef, undef, undef, undef, undef, undef, undef, undef, undef, undef, undef, undef, undef, undef, undef, undef, undef, undef, undef, undef, undef, undef, undef, undef, undef, undef, undef, undef, undef, undef, undef, undef, undef, undef, undef, undef, undef, undef, undef, undef, undef, undef, undef, undef, undef, undef, undef, undef, undef, undef, undef, undef, undef, undef, undef, undef, undef, undef, undef, undef, undef, undef, undef, undef, undef, undef, undef, undef, undef, undef, undef, undef, undef, undef, undef, undef, undef, undef, undef, undef, undef, undef, undef, undef, undef, undef, undef, undef, undef, undef, undef, undef, undef, undef, undef, undef, undef, undef, undef, undef, undef, undef, undef, undef, undef, undef, undef, undef, undef, undef, undef, undef, undef, undef, undef, undef, undef, undef, undef, undef, undef, undef, undef, undef, undef, undef, undef, undef, undef, undef, undef, undef, undef, undef, undef, undef, undef, undef, undef, undef, undef, undef, undef, undef, undef, undef, undef, undef, undef, undef, undef, undef, undef, undef, undef, undef, undef, undef, undef, undef, undef, undef, undef, undef, undef, undef, undef, undef, undef, undef, undef, undef, undef, undef, undef, undef, undef, undef, undef, undef, undef, undef, undef, undef, undef, undef, undef, undef, undef, undef, undef, undef, undef, undef, undef, undef, undef, undef, undef, undef, undef, undef, undef, undef, undef, undef, undef, undef, undef, undef, undef, undef, undef, undef, undef, undef, undef, undef, undef, undef, undef, undef, undef, undef, undef, undef, undef, undef, undef, undef, undef, undef, undef, undef, undef, undef], []⟩ W := by
  conv => arg 2; whnf
  have k6 : A.k ≤ 6 := by obtain ⟨loc, room, cnt, N, _, hp, _⟩ := h0; exact hp.p.fix.pk.k6
  have zc : ∀ i, i < 6 → W.cell? ⟨zB, 12 + i, none⟩ = some (.int .u8 (H i : Nat)) := fun i hi => cell_of_blk hz (hZ.wh i hi)
  have nc : ∀ j, j < 3 → W.cell? ⟨nB, j, none⟩ = some (.string (nnm j)) := fun j hj => cell_of_blk hn (namesC_at hj)
  have wc : ∀ i, i < A.k → W.cell? ⟨wB, i, none⟩ = some (.int .i64 (A.wt i : Nat)) := fun i hi => hw.cell hi
  have HF := hide (And.intro zc (And.intro nc (And.intro wc (And.intro oz (And.intro on (And.intro ow ha))))))
  clear hZ hz hn hw oz on ow ha zc nc wc
  have H0 := hide h0
  clear h0
  go_wp2
  go_loopw [16] (fun iv wx => ∃ i : Nat, i ≤ A.k ∧ iv = .int .i64 i ∧ L3 A W lB rB cB i wx) (fun iv _ => A.k - (intOf iv).toNat)
  case atStart => exact ⟨0, Nat.zero_le _, rfl, unhide H0⟩
  case round =>
    obtain ⟨i, hi, rfl, hN⟩ := hrel
    by_cases hik : i < A.k
    · obtain ⟨zc, nc, wc, oz, on, ow, ha⟩ := unhide HF
      obtain ⟨loc, room, cnt, N, hNi, hm, hlo⟩ := hN
      have c0 : wr.cell? ⟨lB, i, none⟩ = some (.int .i64 0) := by have := hm.l.cell hik; simpa using this
      have f0 := hm.l.frozen i
      have m1 := hm.setL ha i (-1)
      have z1 := m1.cell (zc i (by omega)) oz
      have c1 := m1.l.cell hik
      have f1 := m1.l.frozen i
      rw [updF_same] at c1
      obtain ⟨w1, hw1⟩ : ∃ w1, w1 = wr.setCell ⟨lB, i, none⟩ (.int .i64 (-1)) := ⟨_, rfl⟩
      rw [← hw1] at m1 z1 c1 f1
      have HX := hide (And.intro hlo (And.intro hNi m1))
      clear hlo m1 hm zc nc wc oz on ow ha hNi
      go_upto_region 30 with fail
      rw [← hw1]
      clear hw1 c0 f0
      by_cases hit : i = t
      · subst hit
        go_wp2
        obtain ⟨hlo, hNi, m1⟩ := unhide HX
        exact ⟨⟨i + 1, by omega, by go_num, L3.skip m1 hNi hlo⟩, by simp [intOf]; omega⟩
      · have hitI : ((i : Int) == (t : Int)) = false := by simp; omega
        by_cases hs0 : H i % 4 = 0
        · have hs0I : ((H i : Nat) : Int) % 4 = 0 := by omega
          go_wp2
          obtain ⟨hlo, hNi, m1⟩ := unhide HX
          exact ⟨⟨i + 1, by omega, by go_num, L3.skip m1 hNi hlo⟩, by simp [intOf]; omega⟩
        · obtain ⟨j, hj⟩ : ∃ j, H i % 4 = j + 1 := ⟨H i % 4 - 1, by omega⟩
          have hj3 : j < 3 := by omega
          have hjI : ((H i : Nat) : Int) % 4 = (j : Int) + 1 := by omega
          obtain ⟨hlo, hNi, m1⟩ := unhide HX
          obtain ⟨zc, nc, wc, oz, on, ow, ha⟩ := unhide HF
          have m2 := m1.setL ha i (j : Int)
          obtain ⟨w2, hw2⟩ : ∃ w2, w2 = w1.setCell ⟨lB, i, none⟩ (.int .i64 (j : Nat)) := ⟨_, rfl⟩
          rw [← hw2] at m2
          have p0 : w2.drew.cell? ⟨A.c, 11, none⟩ = some (.slice (some ⟨A.pr, 0, none⟩) A.k A.cpk) := m2.p.fix.cpk
          have p1 : w2.drew.cell? ⟨A.pr, i, none⟩ = some (ptr (A.pb i)) := m2.p.fix.row i hik
          have p2 : w2.drew.cell? ⟨nB, j, none⟩ = some (.string (nnm j)) := m2.cell (nc j hj3) on
          have hput : Calls Yba.prog 6 #[ptr A.pl, ptr (A.pb i), .string (nnm j)] w2.drew fun e w' => e = .returned (.tuple #[]) ∧ w'.cell? ⟨A.c, 11, none⟩ = some (.slice (some ⟨A.pr, 0, none⟩) A.k A.cpk) ∧ w'.cell? ⟨A.pr, i, none⟩ = some (ptr (A.pb i)) ∧ w'.cell? ⟨nB, j, none⟩ = some (.string (nnm j)) ∧
              Hid (M3 A W lB rB cB (updF loc i (some j)) (updF room j (room j - A.wt i)) (updF cnt j (cnt j + 1)) (N + 1) (updF (updF (fun q => if q < i then locI (loc q) else 0) i (-1)) i j) room cnt w') :=
            (put_any w2.drew m2.drew.p (by omega) i j hik hj3).mono (fun e w' ⟨g1, g2, g3⟩ => by
              have m3 := m2.drew.upd g2 g3
              exact ⟨g1, m3.p.fix.cpk, m3.p.fix.row i hik, m3.cell (nc j hj3) on, m3⟩)
          have hrm := m2.p.rm j hj3
          have hjA : (0 : Int) ≤ (j : Int) := by omega
          have hjB : (j : Int) < 3 := by omega
          have hct := m2.p.ct j hj3
          have hw4 := m2.p.fix.pk.w4 i
          have HY := hide (And.intro hlo hNi)
          have hN6 : N ≤ 6 := by omega
          clear m1 m2 hlo hNi zc nc wc oz on ow ha HX
          go_upto_region 35 with fail
          rw [← hw2]
          clear hw2 z1 c1 f1
          go_region_held3 (fun W => W.cell? ⟨A.c, 11, none⟩ = some (.slice (some ⟨A.pr, 0, none⟩) A.k A.cpk) ∧ W.cell? ⟨A.pr, i, none⟩ = some (ptr (A.pb i)) ∧ W.cell? ⟨nB, j, none⟩ = some (.string (nnm j))) (with_reducible first | exact ⟨by assumption, by assumption, by assumption⟩) (first | (go_at_call 6; refine hput.mono ?_; rintro e w3 ⟨rfl, q0, q1, q2, H3⟩))
          go_upto_region 36 with fail
          clear hput p0 p1 p2 q0 q1 q2
          obtain ⟨zc, nc, wc, oz, on, ow, ha⟩ := unhide HF
          have m3 := unhide H3
          have k1 : w3.drew.cell? ⟨rB, j, none⟩ = some (.int .i64 (room j)) := m3.r.cell hj3
          have k2 : w3.drew.cell? ⟨wB, i, none⟩ = some (.int .i64 (A.wt i : Nat)) := m3.cell (wc i hik) ow
          have f3 : w3.drew.frozen? ⟨rB, j, none⟩ = false := m3.r.frozen j
          have m4 := (m3.setR ha j (room j - A.wt i)).drew
          have hwr : IntKind.i64.wrap (room j - (A.wt i : Nat)) = room j - (A.wt i : Nat) := wrap_mid (by omega) (by omega)
          have k3 := m4.c.cell hj3
          have f4 := m4.c.frozen j
          have m5 := ((m3.setR ha j (room j - A.wt i)).setC ha j (cnt j + 1)).drew
          have HZ := hide m5
          clear m3 m4 m5 zc nc wc oz on ow ha
          refine wp_region_pop (fun W => W.cell? ⟨rB, j, none⟩ = some (.int .i64 (room j)) ∧ W.cell? ⟨wB, i, none⟩ = some (.int .i64 (A.wt i : Nat))) (by kernel_rfl) rfl (by kernel_rfl) ?_
          refine wpAnyH_take (i := 0) (v := (.int .i64 (j : Nat))) rfl (by kernel_rfl) (by kernel_rfl) (by kernel_rfl) (fun c _ w h => hP c _ _ w h) (.inl ⟨rfl, fun _ _ => by go_simp⟩) ⟨k1, k2⟩ ?_
          refine wpAnyH_take (i := 1) (v := (.pointer (some ⟨rB, j, none⟩))) rfl (by kernel_rfl) (by kernel_rfl) (by kernel_rfl) (fun c _ w h => hP c _ _ w h) (.inl ⟨rfl, fun _ _ => by go_simp⟩) ⟨k1, k2⟩ ?_
          refine wpAnyH_take (i := 2) (v := (.int .i64 (room j))) rfl (by kernel_rfl) (by kernel_rfl) (by kernel_rfl) (fun c _ w h => hP c _ _ w h) (.inl ⟨rfl, fun _ hS => by obtain ⟨s1, s2⟩ := hS; go_simp⟩) ⟨k1, k2⟩ ?_
          refine wpAnyH_take (i := 3) (v := (.slice (some ⟨wB, 0, none⟩) A.k cw)) rfl (by kernel_rfl) (by kernel_rfl) (by kernel_rfl) (fun c _ w h => hP c _ _ w h) (.inl ⟨rfl, fun _ _ => by go_simp⟩) ⟨k1, k2⟩ ?_
          refine wpAnyH_take (i := 4) (v := (.int .i64 (i : Nat))) rfl (by kernel_rfl) (by kernel_rfl) (by kernel_rfl) (fun c _ w h => hP c _ _ w h) (.inl ⟨rfl, fun _ _ => by go_simp⟩) ⟨k1, k2⟩ ?_
          refine wpAnyH_take (i := 5) (v := (.pointer (some ⟨wB, i, none⟩))) rfl (by kernel_rfl) (by kernel_rfl) (by kernel_rfl) (fun c _ w h => hP c _ _ w h) (.inl ⟨rfl, fun _ _ => by go_simp⟩) ⟨k1, k2⟩ ?_
          refine wpAnyH_take (i := 6) (v := (.int .i64 (A.wt i : Nat))) rfl (by kernel_rfl) (by kernel_rfl) (by kernel_rfl) (fun c _ w h => hP c _ _ w h) (.inl ⟨rfl, fun _ hS => by obtain ⟨s1, s2⟩ := hS; go_simp⟩) ⟨k1, k2⟩ ?_
          refine wpAnyH_take (i := 7) (v := (.int .i64 (room j - A.wt i))) rfl (by kernel_rfl) (by kernel_rfl) (by kernel_rfl) (fun c _ w h => hP c _ _ w h) (.inl ⟨rfl, fun _ _ => by go_simp⟩) ⟨k1, k2⟩ ?_
          refine wpAnyH_take (i := 8) (v := (.pointer (some ⟨rB, j, none⟩))) rfl (by kernel_rfl) (by kernel_rfl) (by kernel_rfl) (fun c _ w h => hP c _ _ w h) (.inl ⟨rfl, fun _ _ => by go_simp⟩) ⟨k1, k2⟩ ?_
          refine wpAnyH_done (by kernel_rfl) ?_ _
          refine before_then ?_
          refine wpOp_step rfl (fun K hK => ?_)
          go_simp
          refine hK _ _ ?_
          clear hK K
          go_wp2
          exact ⟨⟨i + 1, by omega, by go_num, L3.put (unhide HZ) (unhide HY).2 (unhide HY).1⟩, by simp [intOf]; omega⟩
    · have hie : i = A.k := by omega
      subst hie
      have H3 := hide hN
      clear hN
      go_wp2
      exact unhide H3


end Go.Proofs.Ybulkaibe
