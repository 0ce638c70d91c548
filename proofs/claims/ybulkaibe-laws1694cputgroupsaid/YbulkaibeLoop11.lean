/-
  THE ELEVENTH LOOP: what the law takes off, and where it puts the package.
-/
import Derived.Test.YbulkaibeMod
namespace Go.Proofs.Ybulkaibe
open Go.RowKit Go.WideMaps Go.Maps Kit
open Go.ChangeMaps (setBlock heap_setBlock_other)

theorem roomR_bd {wt : Nat → Nat} {s : List Nat} {j : Nat} {room : Nat → Int} (hw : ∀ i, wt i ≤ 4) : ∀ (a q : Nat), room q ≤ roomR wt s j room a q ∧ roomR wt s j room a q ≤ room q + 4 * (a : Int)
  | 0, q => by show room q ≤ room q ∧ room q ≤ room q + 4 * ((0 : Nat) : Int); omega
  | a + 1, q => by
    have h1 := roomR_bd (s := s) (j := j) (room := room) hw a q
    have h2 := hw (s.getD a 0)
    show room q ≤ updF (roomR wt s j room a) j (roomR wt s j room a j + wt (s.getD a 0)) q ∧ updF (roomR wt s j room a) j (roomR wt s j room a j + wt (s.getD a 0)) q ≤ _
    by_cases hq : q = j
    · subst hq; rw [updF_same]; omega
    · rw [updF_other _ _ hq]; omega
theorem cntR_bd {j : Nat} {cnt : Nat → Int} : ∀ (a q : Nat), cnt q - (a : Int) ≤ cntR j cnt a q ∧ cntR j cnt a q ≤ cnt q
  | 0, q => by show cnt q - ((0 : Nat) : Int) ≤ cnt q ∧ cnt q ≤ cnt q; omega
  | a + 1, q => by
    have h1 := cntR_bd (j := j) (cnt := cnt) a q
    show _ ≤ updF (cntR j cnt a) j (cntR j cnt a j - 1) q ∧ updF (cntR j cnt a) j (cntR j cnt a j - 1) q ≤ cnt q
    by_cases hq : q = j
    · subst hq; rw [updF_same]; omega
    · rw [updF_other _ _ hq]; omega

set_option maxRecDepth 100000 in
set_option maxHeartbeats 4000000 in
theorem stm27_ok {c0 c1 c2 c3 c6 c7 c8 c9 c12 c13 c16 c17 c18 c19 c20 c22 c23 c24 c28 c30 c32 c33 c34 c35 c36 c37 c38 c39 c50 c51 c52 c53 c54 c55 c56 c57 c58 c59 c60 c61 c62 c63 c64 c65 c66 c67 c68 c69 c70 c71 c72 c73 c74 c75 c76 c77 c78 c79 c80 c81 c82 c83 c84 c85 c86 c87 c88 c89 c90 c91 c92 c93 c94 c95 c96 c97 c98 c99 c100 c101 c102 c103 c104 c105 c106 c107 c108 c109 c110 c111 c112 c113 c114 c115 c116 c117 c118 c119 c120 c121 c122 c123 c124 c125 c126 c127 c128 c129 c130 c131 c132 c133 c134 c135 c136 c137 c138 c139 c140 c141 c142 c143 c144 c145 c146 c147 c148 c149 c150 c151 c152 c153 c154 c155 c156 c157 c158 c159 c160 c161 c162 c163 c164 c165 c166 c167 c168 c169 c170 c171 c172 c173 c174 c175 c176 c177 c178 c179 c180 c181 c182 c183 c184 c185 c186 c187 c188 c189 c190 c191 c192 c193 c194 c195 c196 c197 c198 c199 c200 c201 c202 c203 c204 c205 c206 c207 c208 c209 c210 c211 c212 c213 c214 c215 c216 c217 c218 c219 c220 c221 c222 c223 c224 c225 c226 c227 c228 c229 c230 c231 c232 c233 c234 c235 c236 c237 c238 c239 c240 c241 c242 c243 c244 c245 c246 c247 c248 c249 c250 c251 c252 c253 c254 c255 c256 c257 c258 c259 c260 c261 c262 c263 c264 c265 c266 c267 c268 c269 c270 c271 c272 c273 c274 c275 c276 c277 c278 c279 c280 c281 c282 c283 c284 c285 c286 c287 c288 c289 c290 c291 c292 c293 c294 c295 c296 c297 c298 c299 c300 c301 c302 c303 c304 c305 c306 c307 c308 c309 c310 c311 c312 c313 c314 c315 c316 c317 c318 c319 c320 c321 c322 c323 c324 c325 c326 c327 c328 c329 c330 c331 c332 c333 c334 c335 c336 c337 c338 c339 c340 c341 c342 c343 c344 c345 c346 c347 c348 c349 c350 c351 c352 c353 c354 c355 c356 c357 c358 c359 c360 c361 c362 c363 c364 c365 c366 c367 c368 c369 c370 c371 c372 c373 c374 c375 c376 c377 c378 c379 c380 c381 c382 c383 c384 c385 c386 c387 c388 c389 c390 c391 c392 c393 c394 c395 c396 c397 c398 c399 : Value} {Q : Exit → Act → World → Prop} (hP : ∀ c a a' w, Q (.panic c) a w → Q (.panic c) a' w) (A : Ad) (W W1 : World) (wB lB rB cB t cw cl j m cH : Nat) (aH : Option Addr) (s : List Nat) {loc : Nat → Option Nat} {room cnt : Nat → Int} {N : Nat}
    (h0 : M3 A W1 lB rB cB loc room cnt N (fun q => locI (loc q)) room cnt W) (hw : Row W wB A.k (fun q => A.wt q)) (ow : wB ∉ lB :: rB :: cB :: A.dyn) (ha : Ap A lB rB cB)
    (ht : t < A.k) (hj : j < 3) (hm : m ≤ s.length) (hs6 : s.length ≤ 6) (hsd : ∀ a, a < s.length → s.getD a 0 < A.k ∧ loc (s.getD a 0) = some j ∧ ∀ i, i < a → s.getD i 0 ≠ s.getD a 0)
    (hH : 0 < m → ∃ b, aH = some ⟨b, 0, none⟩ ∧ b ∉ lB :: rB :: cB :: A.dyn ∧ ∀ i, i < m → W.cell? ⟨b, i, none⟩ = some (.int .i64 (s.getD i 0 : Nat))) (hN : N ≤ 20)
    (hQ : ∀ (u41 : Value) (u400 : Value) (u401 : Value) (u402 : Value) (u403 : Value) (u404 : Value) (u405 : Value) (u406 : Value) (u407 : Value) (u408 : Value) (u409 : Value) (u410 : Value) (u411 : Value) (u412 : Value) (u413 : Value) (u414 : Value) (u415 : Value) (u416 : Value) (u417 : Value) (u418 : Value) (u419 : Value) (u420 : Value) (u421 : Value) (u422 : Value) (u423 : Value) (u424 : Value) (u425 : Value) (u426 : Value) (u427 : Value) (u428 : Value) (u429 : Value) (u430 : Value) (u431 : Value) (u432 : Value) (u433 : Value) (u434 : Value) (u435 : Value) (u436 : Value) (u437 : Value) (u438 : Value) (u439 : Value) (u440 : Value) (u441 : Value) (u442 : Value) (u443 : Value) (u444 : Value) (u445 : Value) (u446 : Value) (u447 : Value) (u448 : Value) (wx : World), M3 A W lB rB cB loc room cnt N (fun q => locI (updF (locR s loc m) t (some j) q)) (updF (roomR A.wt s j room m) j (roomR A.wt s j room m j - A.wt t)) (updF (cntR j cnt m) j (cntR j cnt m j + 1)) wx → Q .normal ⟨#[c0, c1, c2, c3, (.int .i64 (A.k : Nat)), (.int .i64 (t : Nat)), c6, c7, c8, c9, (.slice (some ⟨wB, 0, none⟩) A.k cw), (.slice (some ⟨lB, 0, none⟩) A.k cl), c12, c13, (ptr rB), (ptr cB), c16, c17, c18, c19, c20, undef, c22, c23, c24, (.bool true), (.int .i64 (j : Nat)), (.slice aH m cH), c28, undef, c30, undef, c32, c33, c34, c35, c36, c37, c38, c39, undef, u41, undef, undef, undef, undef, undef, undef, undef, undef, c50, c51, c52, c53, c54, c55, c56, c57, c58, c59, c60, c61, c62, c63, c64, c65, c66, c67, c68, c69, c70, c71, c72, c73, c74, c75, c76, c77, c78, c79, c80, c81, c82, c83, c84, c85, c86, c87, c88, c89, c90, c91, c92, c93, c94, c95, c96, c97, c98, c99, c100, c101, c102, c103, c104, c105, c106, c107, c108, c109, c110, c111, c112, c113, c114, c115, c116, c117, c118, c119, c120, c121, c122, c123, c124, c125, c126, c127, c128, c129, c130, c131, c132, c133, c134, c135, c136, c137, c138, c139, c140, c141, c142, c143, c144, c145, c146, c147, c148, c149, c150, c151, c152, c153, c154, c155, c156, c157, c158, c159, c160, c161, c162, c163, c164, c165, c166, c167, c168, c169, c170, c171, c172, c173, c174, c175, c176, c177, c178, c179, c180, c181, c182, c183, c184, c185, c186, c187, c188, c189, c190, c191, c192, c193, c194, c195, c196, c197, c198, c199, c200, c201, c202, c203, c204, c205, c206, c207, c208, c209, c210, c211, c212, c213, c214, c215, c216, c217, c218, c219, c220, c221, c222, c223, c224, c225, c226, c227, c228, c229, c230, c231, c232, c233, c234, c235, c236, c237, c238, c239, c240, c241, c242, c243, c244, c245, c246, c247, c248, c249, c250, c251, c252, c253, c254, c255, c256, c257, c258, c259, c260, c261, c262, c263, c264, c265, c266, c267, c268, c269, c270, c271, c272, c273, c274, c275, c276, c277, c278, c279, c280, c281, c282, c283, c284, c285, c286, c287, c288, c289, c290, c291, c292, c293, c294, c295, c296, c297, c298, c299, c300, c301, c302, c303, c304, c305, c306, c307, c308, c309, c310, c311, c312, c313, c314, c315, c316, c317, c318, c319, c320, c321, c322, c323, c324, c325, c326, c327, c328, c329, c330, c331, c332, c333, c334, c335, c336, c337, c338, c339, c340, c341, c342, c343, c344, c345, c346, c347, c348, c349, c350, c351, c352, c353, c354, c355, c356, c357, c358, c359, c360, c361, c362, c363, c364, c365, c366, c367, c368, c369, c370, c371, c372, c373, c374, c375, c376, c377, c378, c379, c380, c381, c382, c383, c384, c385, c386, c387, c388, c389, c390, c391, c392, c393, c394, c395, c396, c397, c398, c399, u400, u401, u402, u403, u404, u405, u406, u407, u408, u409, u410, u411, u412, u413, u414, u415, u416, u417, u418, u419, u420, u421, u422, u423, u424, u425, u426, u427, u428, u429, u430, u431, u432, u433, u434, u435, u436, u437, u438, u439, u440, u441, u442, u443, u444, u445, u446, u447, u448, undef, undef, undef, undef, undef, undef, undef, undef, undef, undef, undef, undef, undef, undef, undef, undef, undef, undef, undef, undef, undef, undef, undef, undef, undef, undef, undef, undef, undef, undef, undef, undef, undef, undef, undef, undef, undef, undef, undef, undef, undef, undef, undef, undef, undef, undef, undef, undef, undef, undef, undef, undef, undef, undef, undef, undef, undef, undef, undef, undef, undef, undef, undef, undef, undef, undef, undef, undef, undef, undef, undef, undef, undef, undef, undef, undef, undef, undef, undef, undef, undef, undef, undef, undef, undef, undef, undef, undef, undef, undef, undef, undef, undef, undef, undef, undef, undef, undef, undef, undef, undef, undef, undef, undef, undef, undef, undef, undef, undef, undef, undef], []⟩ wx) :
    (stm 27).wp Yba.prog Q ⟨#[c0, c1, c2, c3, (.int .i64 (A.k : Nat)), (.int .i64 (t : Nat)), c6, c7, c8, c9, (.slice (some ⟨wB, 0, none⟩) A.k cw), (.slice (some ⟨lB, 0, none⟩) A.k cl), c12, c13, (ptr rB), (ptr cB), c16, c17, c18, c19, c20, undef, c22, c23, c24, (.bool true), (.int .i64 (j : Nat)), (.slice aH m cH), c28, undef, c30, undef, c32, c33, c34, c35, c36, c37, c38, c39, undef, undef, undef, undef, undef, undef, undef, undef, undef, undef, c50, c51, c52, c53, c54, c55, c56, c57, c58, c59, c60, c61, c62, c63, c64, c65, c66, c67, c68, c69, c70, c71, c72, c73, c74, c75, c76, c77, c78, c79, c80, c81, c82, c83, c84, c85, c86, c87, c88, c89, c90, c91, c92, c93, c94, c95, c96, c97, c98, c99, c100, c101, c102, c103, c104, c105, c106, c107, c108, c109, c110, c111, c112, c113, c114, c115, c116, c117, c118, c119, c120, c121, c122, c123, c124, c125, c126, c127, c128, c129, c130, c131, c132, c133, c134, c135, c136, c137, c138, c139, c140, c141, c142, c143, c144, c145, c146, c147, c148, c149, c150, c151, c152, c153, c154, c155, c156, c157, c158, c159, c160, c161, c162, c163, c164, c165, c166, c167, c168, c169, c170, c171, c172, c173, c174, c175, c176, c177, c178, c179, c180, c181, c182, c183, c184, c185, c186, c187, c188, c189, c190, c191, c192, c193, c194, c195, c196, c197, c198, c199, c200, c201, c202, c203, c204, c205, c206, c207, c208, c209, c210, c211, c212, c213, c214, c215, c216, c217, c218, c219, c220, c221, c222, c223, c224, c225, c226, c227, c228, c229, c230, c231, c232, c233, c234, c235, c236, c237, c238, c239, c240, c241, c242, c243, c244, c245, c246, c247, c248, c249, c250, c251, c252, c253, c254, c255, c256, c257, c258, c259, c260, c261, c262, c263, c264, c265, c266, c267, c268, c269, c270, c271, c272, c273, c274, c275, c276, c277, c278, c279, c280, c281, c282, c283, c284, c285, c286, c287, c288, c289, c290, c291, c292, c293, c294, c295, c296, c297, c298, c299, c300, c301, c302, c303, c304, c305, c306, c307, c308, c309, c310, c311, c312, c313, c314, c315, c316, c317, c318, c319, c320, c321, c322, c323, c324, c325, c326, c327, c328, c329, c330, c331, c332, c333, c334, c335, c336, c337, c338, c339, c340, c341, c342, c343, c344, c345, c346, c347, c348, c349, c350, c351, c352, c353, c354, c355, c356, c357, c358, c359, c360, c361, c362, c363, c364, c365, c366, c367, c368, c369, c370, c371, c372, c373, c374, c375, c376, c377, c378, c379, c380, c381, c382, c383, c384, c385, c386, c387, c388, c389, c390, c391, c392, c393, c394, c395, c396, c397, c398, c399, undef, undef, undef, undef, undef, undef, undef, undef, undef, undef, undef, undef, undef, undef, undef, undef, undef, undef, undef, undef, undef, undef, undef, undef, undef, undef, undef, undef, undef, undef, undef, undef, undef, undef, undef, undef, undef, undef, undef, undef, undef, undef, undef, undef, undef, undef, undef, undef, undef, undef, undef, undef, undef, undef, undef, undef, undef, undef, undef, undef, undef, undef, undef, undef, undef, undef, undef, undef, undef, undef, undef, undef, undef, undef, undef, undef, undef, undef, undef, undef, undef, undef, undef, undef, undef, undef, undef, undef, undef, undef, undef, undef, undef, undef, undef, undef, undef, undef, undef, undef, undef, undef, undef, undef, undef, undef, undef, undef, undef, undef, undef, undef, undef, undef, undef, undef, undef, undef, undef, undef, undef, undef, undef, undef, undef, undef, undef, undef, undef, undef, undef, undef, undef, undef, undef, undef, undef, undef, undef, undef, undef, undef, undef, undef, undef, undef, undef, undef, undef, undef, undef, undef, undef, undef, undef, undef, undef, undef, undef, undef], []⟩ W := by
  conv => arg 2; whnf
  obtain ⟨h0', hN'⟩ : M3 A W lB rB cB loc room cnt N (fun q => locI (loc q)) room cnt W ∧ N ≤ 20 := ⟨⟨h0.p, h0.l, h0.r, h0.c, Upd.refl _ _ _⟩, hN⟩
  have k6 := h0.p.fix.pk.k6
  have hrm := h0.p.rm
  have hct := h0.p.ct
  have hw4 := h0.p.fix.pk.w4
  have bd : ∀ a, a ≤ 6 → ∀ q, q < 3 → (-100 ≤ roomR A.wt s j room a q ∧ roomR A.wt s j room a q ≤ 500) ∧ (-100 ≤ cntR j cnt a q ∧ cntR j cnt a q ≤ 100) := fun a ha q hq => by
    have h1 := roomR_bd (wt := A.wt) (s := s) (j := j) (room := room) hw4 a q
    have h2 := cntR_bd (j := j) (cnt := cnt) a q
    have := hrm q hq
    have := hct q hq
    omega
  have wc : ∀ i, i < A.k → W.cell? ⟨wB, i, none⟩ = some (.int .i64 (A.wt i : Nat)) := fun i hi => hw.cell hi
  have HF := hide (And.intro h0' (And.intro wc (And.intro ow (And.intro ha (And.intro bd (And.intro hsd (And.intro hH hw4)))))))
  clear h0 h0' hw wc ow ha bd hsd hH hw4 hrm hct hN hN'
  go_wp2
  go_loopw [403] (fun iv wx => ∃ a : Nat, a ≤ m ∧ iv = .int .i64 a ∧ M3 A W lB rB cB loc room cnt N (fun q => locI (locR s loc a q)) (roomR A.wt s j room a) (cntR j cnt a) wx) (fun iv _ => m - (intOf iv).toNat)
  case atStart => exact ⟨0, Nat.zero_le _, rfl, (unhide HF).1⟩
  case round =>
    obtain ⟨a, ha', rfl, hm3⟩ := hrel
    obtain ⟨_, wc, ow, ha, bd, hsd, hH, hw4⟩ := unhide HF
    by_cases ham : a < m
    · obtain ⟨b, rfl, hbT, hc⟩ := hH (by omega)
      have q0 := hm3.cell (hc a ham) hbT
      obtain ⟨hqk, hql, hqn⟩ := hsd a (by omega)
      obtain ⟨bd1, bd2⟩ := bd a (by omega) j hj
      have ll := hm3.l.cell hqk
      rw [show locI (locR s loc a (s.getD a 0)) = (j : Int) from by rw [locR_other a hqn, hql]; rfl] at ll
      have hwq4 := hw4 (s.getD a 0)
      have wq := hm3.cell (wc _ hqk) ow
      have rj := hm3.r.cell hj
      have rf := hm3.r.frozen j
      have m1 := (hm3.setR ha j (roomR A.wt s j room a j + A.wt (s.getD a 0))).drew
      have l1 := m1.l.cell hqk
      rw [show locI (locR s loc a (s.getD a 0)) = (j : Int) from by rw [locR_other a hqn, hql]; rfl] at l1
      have cj := m1.c.cell hj
      have cf := m1.c.frozen j
      have m2 := ((hm3.setR ha j (roomR A.wt s j room a j + A.wt (s.getD a 0))).setC ha j (cntR j cnt a j - 1)).drew
      have l2 := m2.l.cell hqk
      have l2f := m2.l.frozen (s.getD a 0)
      have m3 := (((hm3.setR ha j (roomR A.wt s j room a j + A.wt (s.getD a 0))).setC ha j (cntR j cnt a j - 1)).setL ha (s.getD a 0) (-1)).drew
      have m4 : M3 A W lB rB cB loc room cnt N (fun q => locI (locR s loc (a + 1) q)) (roomR A.wt s j room (a + 1)) (cntR j cnt (a + 1)) _ := m3.congr (fun q _ => by
        show updF (fun q => locI (locR s loc a q)) (s.getD a 0) (-1) q = locI (updF (locR s loc a) (s.getD a 0) none q)
        by_cases hq : q = s.getD a 0
        · rw [hq, updF_same, updF_same]; rfl
        · rw [updF_other _ _ hq, updF_other _ _ hq]) (fun _ _ => rfl) (fun _ _ => rfl)
      have HM := hide m4
      have hjB : (j : Int) < 3 := by omega
      have hqkI : ((s.getD a 0 : Nat) : Int) < (A.k : Nat) := by omega
      have k1 : wr.drew.cell? ⟨lB, s.getD a 0, none⟩ = some (.int .i64 (j : Nat)) := ll
      have k2 : wr.drew.cell? ⟨rB, j, none⟩ = some (.int .i64 (roomR A.wt s j room a j)) := rj
      have k3 : wr.drew.cell? ⟨wB, s.getD a 0, none⟩ = some (.int .i64 (A.wt (s.getD a 0) : Nat)) := wq
      clear hqn hql m1 m2 m3 m4 hc hH hsd bd wc ow ha hw4 hm3 ll rj wq
      generalize s.getD a 0 = q at *
      generalize A.wt q = wq at *
      generalize roomR A.wt s j room a j = rv at *
      generalize cntR j cnt a j = cv at *
      have hwr : IntKind.i64.wrap (rv + (wq : Nat)) = rv + (wq : Nat) := wrap_mid (by omega) (by omega)
      go_upto_region 96 with fail
      refine wp_region_pop (fun W => W.cell? ⟨lB, q, none⟩ = some (.int .i64 (j : Nat)) ∧ W.cell? ⟨rB, j, none⟩ = some (.int .i64 rv) ∧ W.cell? ⟨wB, q, none⟩ = some (.int .i64 (wq : Nat))) (by kernel_rfl) rfl (by kernel_rfl) ?_
      refine wpAnyH_take (i := 0) (v := (.slice (some ⟨lB, 0, none⟩) A.k cl)) rfl (by kernel_rfl) (by kernel_rfl) (by kernel_rfl) (fun c _ w h => hP c _ _ w h) (.inl ⟨rfl, fun _ _ => by go_simp⟩) ⟨k1, k2, k3⟩ ?_
      refine wpAnyH_take (i := 1) (v := (.int .i64 (q : Nat))) rfl (by kernel_rfl) (by kernel_rfl) (by kernel_rfl) (fun c _ w h => hP c _ _ w h) (.inl ⟨rfl, fun _ _ => by go_simp⟩) ⟨k1, k2, k3⟩ ?_
      refine wpAnyH_take (i := 2) (v := (.pointer (some ⟨lB, q, none⟩))) rfl (by kernel_rfl) (by kernel_rfl) (by kernel_rfl) (fun c _ w h => hP c _ _ w h) (.inl ⟨rfl, fun _ _ => by go_simp⟩) ⟨k1, k2, k3⟩ ?_
      refine wpAnyH_take (i := 3) (v := (.int .i64 (j : Nat))) rfl (by kernel_rfl) (by kernel_rfl) (by kernel_rfl) (fun c _ w h => hP c _ _ w h) (.inl ⟨rfl, fun _ hS => by obtain ⟨s1, s2, s3⟩ := hS; go_simp⟩) ⟨k1, k2, k3⟩ ?_
      refine wpAnyH_take (i := 4) (v := (.pointer (some ⟨rB, j, none⟩))) rfl (by kernel_rfl) (by kernel_rfl) (by kernel_rfl) (fun c _ w h => hP c _ _ w h) (.inl ⟨rfl, fun _ _ => by go_simp⟩) ⟨k1, k2, k3⟩ ?_
      refine wpAnyH_take (i := 5) (v := (.int .i64 rv)) rfl (by kernel_rfl) (by kernel_rfl) (by kernel_rfl) (fun c _ w h => hP c _ _ w h) (.inl ⟨rfl, fun _ hS => by obtain ⟨s1, s2, s3⟩ := hS; go_simp⟩) ⟨k1, k2, k3⟩ ?_
      refine wpAnyH_take (i := 6) (v := (.slice (some ⟨wB, 0, none⟩) A.k cw)) rfl (by kernel_rfl) (by kernel_rfl) (by kernel_rfl) (fun c _ w h => hP c _ _ w h) (.inl ⟨rfl, fun _ _ => by go_simp⟩) ⟨k1, k2, k3⟩ ?_
      refine wpAnyH_take (i := 7) (v := (.int .i64 (q : Nat))) rfl (by kernel_rfl) (by kernel_rfl) (by kernel_rfl) (fun c _ w h => hP c _ _ w h) (.inl ⟨rfl, fun _ _ => by go_simp⟩) ⟨k1, k2, k3⟩ ?_
      refine wpAnyH_take (i := 8) (v := (.pointer (some ⟨wB, q, none⟩))) rfl (by kernel_rfl) (by kernel_rfl) (by kernel_rfl) (fun c _ w h => hP c _ _ w h) (.inl ⟨rfl, fun _ _ => by go_simp⟩) ⟨k1, k2, k3⟩ ?_
      refine wpAnyH_take (i := 9) (v := (.int .i64 (wq : Nat))) rfl (by kernel_rfl) (by kernel_rfl) (by kernel_rfl) (fun c _ w h => hP c _ _ w h) (.inl ⟨rfl, fun _ hS => by obtain ⟨s1, s2, s3⟩ := hS; go_simp⟩) ⟨k1, k2, k3⟩ ?_
      refine wpAnyH_take (i := 10) (v := (.int .i64 (rv + (wq : Nat)))) rfl (by kernel_rfl) (by kernel_rfl) (by kernel_rfl) (fun c _ w h => hP c _ _ w h) (.inl ⟨rfl, fun _ _ => by go_simp⟩) ⟨k1, k2, k3⟩ ?_
      refine wpAnyH_take (i := 11) (v := (.pointer (some ⟨rB, j, none⟩))) rfl (by kernel_rfl) (by kernel_rfl) (by kernel_rfl) (fun c _ w h => hP c _ _ w h) (.inl ⟨rfl, fun _ _ => by go_simp⟩) ⟨k1, k2, k3⟩ ?_
      refine wpAnyH_done (by kernel_rfl) ?_ _
      refine before_then ?_
      refine wpOp_step rfl (fun K hK => ?_)
      go_simp
      refine hK _ _ ?_
      clear hK K
      go_wp2
      exact ⟨⟨a + 1, by omega, by go_num, unhide HM⟩, by simp [intOf]; omega⟩
    · have hae : a = m := by omega
      subst hae
      obtain ⟨bd1, bd2⟩ := bd a (by omega) j hj
      have hwt4 := hw4 t
      have l0 := hm3.l.cell ht
      have l0f := hm3.l.frozen t
      have m1 := hm3.setL ha t (j : Int)
      have m2 := (m1.setR ha j (roomR A.wt s j room a j - A.wt t)).drew
      have cj := m2.c.cell hj
      have cf := m2.c.frozen j
      have m3 := ((m1.setR ha j (roomR A.wt s j room a j - A.wt t)).setC ha j (cntR j cnt a j + 1)).drew
      have m4 : M3 A W lB rB cB loc room cnt N (fun q => locI (updF (locR s loc a) t (some j) q)) (updF (roomR A.wt s j room a) j (roomR A.wt s j room a j - A.wt t)) (updF (cntR j cnt a) j (cntR j cnt a j + 1)) _ := m3.congr (fun q _ => by
        by_cases hq : q = t
        · rw [hq, updF_same, updF_same]; rfl
        · rw [updF_other _ _ hq, updF_other _ _ hq]) (fun _ _ => rfl) (fun _ _ => rfl)
      have k1 : (wr.setCell ⟨lB, t, none⟩ (.int .i64 (j : Nat))).drew.cell? ⟨rB, j, none⟩ = some (.int .i64 (roomR A.wt s j room a j)) := m1.r.cell hj
      have k1f : (wr.setCell ⟨lB, t, none⟩ (.int .i64 (j : Nat))).drew.frozen? ⟨rB, j, none⟩ = false := m1.r.frozen j
      have k2 : (wr.setCell ⟨lB, t, none⟩ (.int .i64 (j : Nat))).drew.cell? ⟨wB, t, none⟩ = some (.int .i64 (A.wt t : Nat)) := m1.cell (wc t ht) ow
      obtain ⟨w1, hw1⟩ : ∃ w1, w1 = wr.setCell ⟨lB, t, none⟩ (.int .i64 (j : Nat)) := ⟨_, rfl⟩
      have HM := hide m4
      have hjB : (j : Int) < 3 := by omega
      have htI : (t : Int) < (A.k : Nat) := by omega
      clear m1 m2 m3 m4 hH hsd bd wc ow ha hw4 hm3 HF
      rw [← hw1] at k1 k1f k2 cj cf HM
      generalize hwv : A.wt t = wv at *
      generalize hrv : roomR A.wt s j room a j = rv at *
      generalize hcv : cntR j cnt a j = cv at *
      clear hwv hrv hcv
      have hwr : IntKind.i64.wrap (rv - (wv : Nat)) = rv - (wv : Nat) := wrap_mid (by omega) (by omega)
      go_upto_region 101 with fail
      rw [← hw1]
      clear hw1 l0 l0f
      refine wp_region_pop (fun W => W.cell? ⟨rB, j, none⟩ = some (.int .i64 rv) ∧ W.cell? ⟨wB, t, none⟩ = some (.int .i64 (wv : Nat))) (by kernel_rfl) rfl (by kernel_rfl) ?_
      refine wpAnyH_take (i := 0) (v := (.int .i64 (j : Nat))) rfl (by kernel_rfl) (by kernel_rfl) (by kernel_rfl) (fun c _ w h => hP c _ _ w h) (.inl ⟨rfl, fun _ _ => by go_simp⟩) ⟨k1, k2⟩ ?_
      refine wpAnyH_take (i := 1) (v := (.pointer (some ⟨rB, j, none⟩))) rfl (by kernel_rfl) (by kernel_rfl) (by kernel_rfl) (fun c _ w h => hP c _ _ w h) (.inl ⟨rfl, fun _ _ => by go_simp⟩) ⟨k1, k2⟩ ?_
      refine wpAnyH_take (i := 2) (v := (.int .i64 rv)) rfl (by kernel_rfl) (by kernel_rfl) (by kernel_rfl) (fun c _ w h => hP c _ _ w h) (.inl ⟨rfl, fun _ hS => by obtain ⟨s1, s2⟩ := hS; go_simp⟩) ⟨k1, k2⟩ ?_
      refine wpAnyH_take (i := 3) (v := (.slice (some ⟨wB, 0, none⟩) A.k cw)) rfl (by kernel_rfl) (by kernel_rfl) (by kernel_rfl) (fun c _ w h => hP c _ _ w h) (.inl ⟨rfl, fun _ _ => by go_simp⟩) ⟨k1, k2⟩ ?_
      refine wpAnyH_take (i := 4) (v := (.int .i64 (t : Nat))) rfl (by kernel_rfl) (by kernel_rfl) (by kernel_rfl) (fun c _ w h => hP c _ _ w h) (.inl ⟨rfl, fun _ _ => by go_simp⟩) ⟨k1, k2⟩ ?_
      refine wpAnyH_take (i := 5) (v := (.pointer (some ⟨wB, t, none⟩))) rfl (by kernel_rfl) (by kernel_rfl) (by kernel_rfl) (fun c _ w h => hP c _ _ w h) (.inl ⟨rfl, fun _ _ => by go_simp⟩) ⟨k1, k2⟩ ?_
      refine wpAnyH_take (i := 6) (v := (.int .i64 (wv : Nat))) rfl (by kernel_rfl) (by kernel_rfl) (by kernel_rfl) (fun c _ w h => hP c _ _ w h) (.inl ⟨rfl, fun _ hS => by obtain ⟨s1, s2⟩ := hS; go_simp⟩) ⟨k1, k2⟩ ?_
      refine wpAnyH_take (i := 7) (v := (.int .i64 (rv - (wv : Nat)))) rfl (by kernel_rfl) (by kernel_rfl) (by kernel_rfl) (fun c _ w h => hP c _ _ w h) (.inl ⟨rfl, fun _ _ => by go_simp⟩) ⟨k1, k2⟩ ?_
      refine wpAnyH_take (i := 8) (v := (.pointer (some ⟨rB, j, none⟩))) rfl (by kernel_rfl) (by kernel_rfl) (by kernel_rfl) (fun c _ w h => hP c _ _ w h) (.inl ⟨rfl, fun _ _ => by go_simp⟩) ⟨k1, k2⟩ ?_
      refine wpAnyH_done (by kernel_rfl) ?_ _
      refine before_then ?_
      refine wpOp_step rfl (fun K hK => ?_)
      go_simp
      refine hK _ _ ?_
      clear hK K
      go_wp2
      exact unhide HM


end Go.Proofs.Ybulkaibe
