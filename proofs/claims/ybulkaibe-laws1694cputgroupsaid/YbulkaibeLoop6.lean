/-
  THE SIXTH LOOP: where room can be made.
-/
import Derived.Test.YbulkaibeLoop5
import Derived.Test.YbulkaibeLoop7
import Derived.Test.YbulkaibeLoop10
namespace Go.Proofs.Ybulkaibe
open Go.RowKit Go.WideMaps Go.Maps Kit
open Go.ChangeMaps (setBlock heap_setBlock_other)

/-- What the law wants. -/
structure Want (o : Option (Nat × Nat)) (srt : Nat → List Nat) (B : Nat) (u25 u26 u27 : Value) (wx : World) : Prop where
  off : o = none → u25 = .bool false ∧ u27 = .slice none 0 0
  on : ∀ j m, o = some (j, m) → u25 = .bool true ∧ u26 = .int .i64 (j : Nat) ∧ ∃ a c, u27 = .slice a m c ∧ m ≤ (srt j).length ∧ (0 < m → ∃ b, a = some ⟨b, 0, none⟩ ∧ B ≤ b ∧ ∀ i, i < m → wx.cell? ⟨b, i, none⟩ = some (.int .i64 ((srt j).getD i 0 : Nat)))

theorem cap_of {w : World} {B n c n' : Nat} {a : Option Addr} {xs : List Value} (h : w.ownsRow B 3 1 (.slice a n c) n' xs) : (a = none ∧ n = 0 ∧ c = 0) ∨ ∃ b, a = some ⟨b, 0, none⟩ ∧ n ≤ c := by
  rcases h.2 with ⟨e, _⟩ | ⟨g, cap, cur, e, _, _, hc, _⟩
  · cases e; exact .inl ⟨rfl, rfl, rfl⟩
  · cases e; exact .inr ⟨g, rfl, hc⟩

set_option maxRecDepth 100000 in
set_option maxHeartbeats 4000000 in
theorem stm26_none {c0 c1 c2 c3 c6 c7 c8 c12 c13 c15 c16 c17 c18 c19 c22 c23 c24 c30 c50 c51 c52 c53 c54 c55 c56 c57 c58 c59 c60 c61 c62 c63 c64 c65 c66 c67 c68 c69 c70 c71 c72 c73 c74 c75 c76 c77 c78 c79 c80 c81 c82 c83 c84 c85 c86 c87 c88 c89 c90 c91 c92 c93 c94 c95 c96 c97 c98 c99 c100 c101 c102 c103 c104 c105 c106 c107 c108 c109 c110 c111 c112 c113 c114 c115 c116 c117 c118 c119 c120 c121 c122 c123 c124 c125 c126 c127 c128 c129 c130 c131 c132 c133 c134 c135 c136 c137 c138 c139 c140 c141 c142 c143 c144 c145 c146 c147 c148 c149 c150 c151 c152 c153 c154 c155 c156 c157 c158 c159 c160 c161 c162 c163 c164 c165 c166 c167 c168 c169 c170 c171 c172 c173 c174 c175 c176 c177 c178 c179 c180 c181 c182 c183 c184 c185 c186 c187 c188 c189 c190 c191 c192 c193 c194 c195 c196 c197 c198 c199 c200 c201 c202 c203 c204 c205 c206 c207 c208 c209 c210 c211 c212 c213 c214 c215 c216 c217 c218 c219 c220 c221 c222 c223 c224 c225 c226 c227 c228 c229 c230 c231 c232 c233 c234 c235 c236 c237 c238 c239 c240 c241 c242 c243 c244 c245 c246 c247 c248 c249 c250 c251 c252 c253 c254 c255 c256 c257 c258 c259 c260 c261 c262 c263 c264 c265 c266 c267 c268 c269 c270 c271 c272 c273 c274 c275 c276 c277 c278 c279 c280 c281 c282 : Value} {Q : Exit → Act → World → Prop} (A : Ad) (W : World) (pB wB lB rB t cp cw cl l ci : Nat) (ai : Option Addr) (idx : List Nat) {loc : Nat → Option Nat} {room : Nat → Int}
    (hp : Row W pB A.k (fun q => A.pri q)) (hw : Row W wB A.k (fun q => A.wt q)) (hl : Row W lB A.k (fun q => locI (loc q))) (hr : Row W rB 3 room) (hi : Ixs W ai l idx) (k6 : A.k ≤ 6) (hp4 : ∀ i, A.pri i < 4) (hw4 : ∀ i, A.wt i ≤ 4) (ht : t < A.k) (hrm : ∀ j, j < 3 → -1000 ≤ room j ∧ room j ≤ 1000)
    (hQ : ∀ (u25 : Value) (u26 : Value) (u27 : Value) (u32 : Value) (u33 : Value) (u34 : Value) (u35 : Value) (u36 : Value) (u37 : Value) (u38 : Value) (u39 : Value) (u283 : Value) (u284 : Value) (u285 : Value) (u286 : Value) (u287 : Value) (u288 : Value) (u289 : Value) (u290 : Value) (u291 : Value) (u292 : Value) (u293 : Value) (u294 : Value) (u295 : Value) (u296 : Value) (u297 : Value) (u298 : Value) (u299 : Value) (u300 : Value) (u301 : Value) (u302 : Value) (u303 : Value) (u304 : Value) (u305 : Value) (u306 : Value) (u307 : Value) (u308 : Value) (u309 : Value) (u310 : Value) (u311 : Value) (u312 : Value) (u313 : Value) (u314 : Value) (u315 : Value) (u316 : Value) (u317 : Value) (u318 : Value) (u319 : Value) (u320 : Value) (u321 : Value) (u322 : Value) (u323 : Value) (u324 : Value) (u325 : Value) (u326 : Value) (u327 : Value) (u328 : Value) (u329 : Value) (u330 : Value) (u331 : Value) (u332 : Value) (u333 : Value) (u334 : Value) (u335 : Value) (u336 : Value) (u337 : Value) (u338 : Value) (u339 : Value) (u340 : Value) (u341 : Value) (u342 : Value) (u343 : Value) (u344 : Value) (u345 : Value) (u346 : Value) (u347 : Value) (u348 : Value) (u349 : Value) (u350 : Value) (u351 : Value) (u352 : Value) (u353 : Value) (u354 : Value) (u355 : Value) (u356 : Value) (u357 : Value) (u358 : Value) (u359 : Value) (u360 : Value) (u361 : Value) (u362 : Value) (u363 : Value) (u364 : Value) (u365 : Value) (u366 : Value) (u367 : Value) (u368 : Value) (u369 : Value) (u370 : Value) (u371 : Value) (u372 : Value) (u373 : Value) (u374 : Value) (u375 : Value) (u376 : Value) (u377 : Value) (u378 : Value) (u379 : Value) (u380 : Value) (u381 : Value) (u382 : Value) (u383 : Value) (u384 : Value) (u385 : Value) (u386 : Value) (u387 : Value) (u388 : Value) (u389 : Value) (u390 : Value) (u391 : Value) (u392 : Value) (u393 : Value) (u394 : Value) (u395 : Value) (u396 : Value) (u397 : Value) (u398 : Value) (u399 : Value) (wx : World), Want (groupM A.wt t (sorted A.k loc A.pri t) room idx) (sorted A.k loc A.pri t) W.heap.size u25 u26 u27 wx ∧ Below W.heap.size W wx → Q .normal ⟨#[c0, c1, c2, c3, (.int .i64 (A.k : Nat)), (.int .i64 (t : Nat)), c6, c7, c8, (.slice (some ⟨pB, 0, none⟩) A.k cp), (.slice (some ⟨wB, 0, none⟩) A.k cw), (.slice (some ⟨lB, 0, none⟩) A.k cl), c12, c13, (ptr rB), c15, c16, c17, c18, c19, (.slice ai l ci), undef, c22, c23, c24, u25, u26, u27, (.int .i64 (-1)), undef, c30, undef, u32, u33, u34, u35, u36, u37, u38, u39, undef, undef, undef, undef, undef, undef, undef, undef, undef, undef, c50, c51, c52, c53, c54, c55, c56, c57, c58, c59, c60, c61, c62, c63, c64, c65, c66, c67, c68, c69, c70, c71, c72, c73, c74, c75, c76, c77, c78, c79, c80, c81, c82, c83, c84, c85, c86, c87, c88, c89, c90, c91, c92, c93, c94, c95, c96, c97, c98, c99, c100, c101, c102, c103, c104, c105, c106, c107, c108, c109, c110, c111, c112, c113, c114, c115, c116, c117, c118, c119, c120, c121, c122, c123, c124, c125, c126, c127, c128, c129, c130, c131, c132, c133, c134, c135, c136, c137, c138, c139, c140, c141, c142, c143, c144, c145, c146, c147, c148, c149, c150, c151, c152, c153, c154, c155, c156, c157, c158, c159, c160, c161, c162, c163, c164, c165, c166, c167, c168, c169, c170, c171, c172, c173, c174, c175, c176, c177, c178, c179, c180, c181, c182, c183, c184, c185, c186, c187, c188, c189, c190, c191, c192, c193, c194, c195, c196, c197, c198, c199, c200, c201, c202, c203, c204, c205, c206, c207, c208, c209, c210, c211, c212, c213, c214, c215, c216, c217, c218, c219, c220, c221, c222, c223, c224, c225, c226, c227, c228, c229, c230, c231, c232, c233, c234, c235, c236, c237, c238, c239, c240, c241, c242, c243, c244, c245, c246, c247, c248, c249, c250, c251, c252, c253, c254, c255, c256, c257, c258, c259, c260, c261, c262, c263, c264, c265, c266, c267, c268, c269, c270, c271, c272, c273, c274, c275, c276, c277, c278, c279, c280, c281, c282, u283, u284, u285, u286, u287, u288, u289, u290, u291, u292, u293, u294, u295, u296, u297, u298, u299, u300, u301, u302, u303, u304, u305, u306, u307, u308, u309, u310, u311, u312, u313, u314, u315, u316, u317, u318, u319, u320, u321, u322, u323, u324, u325, u326, u327, u328, u329, u330, u331, u332, u333, u334, u335, u336, u337, u338, u339, u340, u341, u342, u343, u344, u345, u346, u347, u348, u349, u350, u351, u352, u353, u354, u355, u356, u357, u358, u359, u360, u361, u362, u363, u364, u365, u366, u367, u368, u369, u370, u371, u372, u373, u374, u375, u376, u377, u378, u379, u380, u381, u382, u383, u384, u385, u386, u387, u388, u389, u390, u391, u392, u393, u394, u395, u396, u397, u398, u399, undef, undef, undef, undef, undef, undef, undef, undef, undef, undef, undef, undef, undef, undef, undef, undef, undef, undef, undef, undef, undef, undef, undef, undef, undef, undef, undef, undef, undef, undef, undef, undef, undef, undef, undef, undef, undef, undef, undef, undef, undef, undef, undef, undef, undef, undef, undef, undef, undef, undef, undef, undef, undef, undef, undef, undef, undef, undef, undef, undef, undef, undef, undef, undef, undef, undef, undef, undef, undef, undef, undef, undef, undef, undef, undef, undef, undef, undef, undef, undef, undef, undef, undef, undef, undef, undef, undef, undef, undef, undef, undef, undef, undef, undef, undef, undef, undef, undef, undef, undef, undef, undef, undef, undef, undef, undef, undef, undef, undef, undef, undef, undef, undef, undef, undef, undef, undef, undef, undef, undef, undef, undef, undef, undef, undef, undef, undef, undef, undef, undef, undef, undef, undef, undef, undef, undef, undef, undef, undef, undef, undef, undef, undef, undef, undef, undef, undef, undef, undef, undef, undef, undef, undef, undef, undef, undef, undef, undef, undef, undef], []⟩ wx) :
    (stm 26).wp Yba.prog Q ⟨#[c0, c1, c2, c3, (.int .i64 (A.k : Nat)), (.int .i64 (t : Nat)), c6, c7, c8, (.slice (some ⟨pB, 0, none⟩) A.k cp), (.slice (some ⟨wB, 0, none⟩) A.k cw), (.slice (some ⟨lB, 0, none⟩) A.k cl), c12, c13, (ptr rB), c15, c16, c17, c18, c19, (.slice ai l ci), undef, c22, c23, c24, (.bool false), (.int .i64 (-1)), (.slice none 0 0), (.int .i64 (-1)), undef, c30, undef, undef, undef, undef, undef, undef, undef, undef, undef, undef, undef, undef, undef, undef, undef, undef, undef, undef, undef, c50, c51, c52, c53, c54, c55, c56, c57, c58, c59, c60, c61, c62, c63, c64, c65, c66, c67, c68, c69, c70, c71, c72, c73, c74, c75, c76, c77, c78, c79, c80, c81, c82, c83, c84, c85, c86, c87, c88, c89, c90, c91, c92, c93, c94, c95, c96, c97, c98, c99, c100, c101, c102, c103, c104, c105, c106, c107, c108, c109, c110, c111, c112, c113, c114, c115, c116, c117, c118, c119, c120, c121, c122, c123, c124, c125, c126, c127, c128, c129, c130, c131, c132, c133, c134, c135, c136, c137, c138, c139, c140, c141, c142, c143, c144, c145, c146, c147, c148, c149, c150, c151, c152, c153, c154, c155, c156, c157, c158, c159, c160, c161, c162, c163, c164, c165, c166, c167, c168, c169, c170, c171, c172, c173, c174, c175, c176, c177, c178, c179, c180, c181, c182, c183, c184, c185, c186, c187, c188, c189, c190, c191, c192, c193, c194, c195, c196, c197, c198, c199, c200, c201, c202, c203, c204, c205, c206, c207, c208, c209, c210, c211, c212, c213, c214, c215, c216, c217, c218, c219, c220, c221, c222, c223, c224, c225, c226, c227, c228, c229, c230, c231, c232, c233, c234, c235, c236, c237, c238, c239, c240, c241, c242, c243, c244, c245, c246, c247, c248, c249, c250, c251, c252, c253, c254, c255, c256, c257, c258, c259, c260, c261, c262, c263, c264, c265, c266, c267, c268, c269, c270, c271, c272, c273, c274, c275, c276, c277, c278, c279, c280, c281, c282, undef, undef, undef, undef, undef, undef, undef, undef, undef, undef, undef, undef, undef, undef, undef, undef, undef, undef, undef, undef, undef, undef, undef, undef, undef, undef, undef, undef, undef, undef, undef, undef, undef, undef, undef, undef, undef, undef, undef, undef, undef, undef, undef, undef, undef, undef, undef, undef, undef, undef, undef, undef, undef, undef, undef, undef, undef, undef, undef, undef, undef, undef, undef, undef, undef, undef, undef, undef, undef, undef, undef, undef, undef, undef, undef, undef, undef, undef, undef, undef, undef, undef, undef, undef, undef, undef, undef, undef, undef, undef, undef, undef, undef, undef, undef, undef, undef, undef, undef, undef, undef, undef, undef, undef, undef, undef, undef, undef, undef, undef, undef, undef, undef, undef, undef, undef, undef, undef, undef, undef, undef, undef, undef, undef, undef, undef, undef, undef, undef, undef, undef, undef, undef, undef, undef, undef, undef, undef, undef, undef, undef, undef, undef, undef, undef, undef, undef, undef, undef, undef, undef, undef, undef, undef, undef, undef, undef, undef, undef, undef, undef, undef, undef, undef, undef, undef, undef, undef, undef, undef, undef, undef, undef, undef, undef, undef, undef, undef, undef, undef, undef, undef, undef, undef, undef, undef, undef, undef, undef, undef, undef, undef, undef, undef, undef, undef, undef, undef, undef, undef, undef, undef, undef, undef, undef, undef, undef, undef, undef, undef, undef, undef, undef, undef, undef, undef, undef, undef, undef, undef, undef, undef, undef, undef, undef, undef, undef, undef, undef, undef, undef, undef, undef, undef, undef, undef, undef, undef, undef, undef, undef, undef, undef, undef, undef, undef, undef, undef, undef, undef, undef, undef, undef, undef, undef, undef, undef, undef, undef, undef, undef, undef, undef, undef, undef, undef, undef, undef, undef, undef, undef, undef, undef, undef, undef, undef, undef], []⟩ W := by
  conv => arg 2; whnf
  have hn1 := hi.n1
  have HF := hide (And.intro hp (And.intro hw (And.intro hl (And.intro hr (And.intro hi (And.intro hp4 (And.intro hw4 hrm)))))))
  clear hp hw hl hr hi hp4 hw4 hrm
  go_wp2
  go_loopw [25, 26, 27, 288] (fun v25 v26 v27 iv wx => ∃ m : Nat, m ≤ l ∧ iv = .int .i64 m ∧ v25 = .bool false ∧ v26 = .int .i64 (-1) ∧ v27 = .slice none 0 0 ∧ groupM A.wt t (sorted A.k loc A.pri t) room (idx.drop m) = groupM A.wt t (sorted A.k loc A.pri t) room idx ∧ Below W.heap.size W wx) (fun _ _ _ iv _ => l - (intOf iv).toNat)
  case atStart => exact ⟨0, Nat.zero_le _, rfl, rfl, rfl, rfl, rfl, Below.refl _ _⟩
  case round =>
    obtain ⟨m, hm, rfl, rfl, rfl, rfl, hgm, hbx⟩ := hrel
    have HB := hide (And.intro hgm hbx)
    clear hgm hbx
    by_cases hml : m < l
    · obtain ⟨hp, hw, hl, hr, hi, hp4, hw4, hrm⟩ := unhide HF
      obtain ⟨hgm, hbx⟩ := unhide HB
      obtain ⟨ib, rfl, hx⟩ := hi.at_ (by omega)
      have q0 := (hbx.cell (p := ⟨ib, m, none⟩) (cell_lt (hx m hml))).trans (hx m hml)
      obtain ⟨hj3, hdr⟩ := hi.get hml
      obtain ⟨j, hj⟩ : ∃ j, j = idx.getD m 0 := ⟨_, rfl⟩
      rw [← hj] at q0 hj3 hdr
      rw [hdr] at hgm
      have hrx := hr.of_block (w' := wr) (hbx.block _ hr.lt)
      have rj := hrx.cell hj3
      have rmj := hrm j hj3
      have HG := hide (And.intro hgm hbx)
      clear hj hdr hx hp hw hl hr hi hp4 hw4 hrm hgm hbx hrx
      go_upto_region 67 with fail
      rename_i K2 hK2
      have HK := hide hK2
      clear hK2
      go_wp2
      refine unhide HK _ _ ?_
      clear HK K2
      refine wp_seq ?_
      obtain ⟨hp, hw, hl, hr, hi, hp4, hw4, hrm⟩ := unhide HF
      obtain ⟨hgm, hbx⟩ := unhide HG
      refine sub2_ok (loc := loc) A wr pB lB t cp cl j (hp.of_block (hbx.block _ hp.lt)) (hl.of_block (hbx.block _ hl.lt)) k6 hp4 ht ?_
      clear hp hw hl hr hi hp4 hw4 hrm hgm hbx rj
      intro u33 u34 u292 u293 u294 u295 u296 u297 u298 u299 u300 u301 u302 u303 u304 u305 u306 u307 u308 u309 u310 u311 u312 u313 u314 u315 u316 u317 u318 u319 w2 hC
      obtain ⟨a33, c33, hv⟩ := own_slice hC.row
      subst hv
      obtain ⟨n, hn⟩ : ∃ n, n = (cands A.k loc A.pri t j).length := ⟨_, rfl⟩
      rw [← hn] at hC ⊢
      have hcap := cap_of hC.row
      obtain ⟨hn', hS0⟩ := hC.sd
      have hn6 : n ≤ 6 := by have := cands_le A.k loc A.pri t j; omega
      have hB0 := cands_bij A.k loc A.pri t j
      rw [← hn] at hB0
      clear hn
      obtain ⟨hp, hw, hl, hr, hi, hp4, hw4, hrm⟩ := unhide HF
      obtain ⟨hgm, hbx⟩ := unhide HG
      have bel2 : Below W.heap.size W w2 := hbx.trans (hC.bel.mono hbx.size)
      show Code.wp Yba.prog _ _ _ _
      refine wp_seq ?_
      refine sub3_ok A wr w2 wr.heap.size pB cp n c33 a33 (cands A.k loc A.pri t j) (hp.of_block (bel2.block _ hp.lt)) (Nat.lt_of_lt_of_le hp.lt hbx.size) k6 hp4 (fun i hi => (mem_cands.1 hi).1) hn6 hB0 hS0 ?_
      clear hp hw hl hr hi hp4 hw4 hrm hgm hbx hB0 hS0 hC bel2 hn'
      intro u35 u36 u37 u320 u321 u322 u323 u324 u325 u326 u327 u328 u329 u330 u331 u332 u333 u334 u335 u336 u337 u338 u339 u340 u341 u342 u343 u344 u345 u346 u347 u348 u349 u350 u351 u352 u353 u354 u355 u356 u357 u358 u359 u360 w3 hex
      obtain ⟨f, hbf, hof, hsf⟩ := hex
      obtain ⟨hp, hw, hl, hr, hi, hp4, hw4, hrm⟩ := unhide HF
      obtain ⟨hgm, hbx⟩ := unhide HG
      have bel3 : Below W.heap.size W w3 := hbx.trans (hsf.bel.mono hbx.size)
      have hr3 := (hr.of_block (w' := w3) (bel3.block _ hr.lt))
      have hw3 := (hw.of_block (w' := w3) (bel3.block _ hw.lt))
      have rj := hr3.cell hj3
      have wt3 := hw3.cell ht
      have hst := sorted_of k6 hbf hof
      have hfk : ∀ q, q < n → f q < A.k := fun q hq => (mem_cands.1 (hbf.mem q hq)).1
      have wt4 := hw4 t
      have HS := hide (And.intro hsf (And.intro bel3 (And.intro hst (And.intro hfk (And.intro hgm (And.intro hw3 hw4))))))
      clear hp hw hl hr hi hp4 hw4 hrm hgm hbx hr3 hw3 hsf bel3 hst hfk hbf hof
      show Code.wp Yba.prog _ _ _ _
      refine wp_seq_k (fun K hK => ?_)
      have HK := hide hK
      clear hK
      go_wp2
      refine unhide HK _ _ ?_
      clear HK K
      refine wp_seq_k (fun K hK => ?_)
      have HK := hide hK
      clear hK
      go_wp2
      refine unhide HK _ _ ?_
      clear HK K
      refine wp_seq ?_
      obtain ⟨hsf, bel3, hst, hfk, hgm, hw3, hw4⟩ := unhide HS
      refine sub6_ok A wr w3 wr.heap.size wB t cw n c33 a33 (room j) hw3 ht hw4 hfk hn6 rmj hsf ?_
      clear hsf bel3 hst hfk hgm hw3 hw4
      intro u38 u39 u364 u365 u366 u367 u368 u369 u370 u371 u372 u373 u374 u375 u376 u377 u378 u379 u380 u381 u382 u383 u384 u385 u386 u387 w4 hex
      obtain ⟨rfl, hH⟩ := hex
      obtain ⟨mm, v, rfl, rfl, hmn, hh, hor, hv1, hv2⟩ := hH.ex
      have HH := hide (And.intro hh hor)
      have hwr : IntKind.i64.wrap (v - (A.wt t : Nat)) = v - (A.wt t : Nat) := wrap_mid (by omega) (by omega)
      clear hh hor hH
      show Code.wp Yba.prog _ _ _ _
      by_cases hge : 0 ≤ v - (A.wt t : Nat)
      · obtain ⟨hsf, bel3, hst, hfk, hgm, hw3, hw4⟩ := unhide HS
        have fin : Want (groupM A.wt t (sorted A.k loc A.pri t) room idx) (sorted A.k loc A.pri t) W.heap.size (.bool true) (.int .i64 (j : Nat)) (.slice a33 mm c33) w4 ∧ Below W.heap.size W w4 := by
          have e1 := (unhide HH).1
          rw [haltM_yes hge, ← hst] at e1
          have e2 : groupM A.wt t (sorted A.k loc A.pri t) room idx = some (j, mm) := by
            rw [← hgm]; simp only [groupM]; rw [← e1]
          refine ⟨⟨fun h => (by rw [e2] at h; cases h), fun j' m' h => ?_⟩, bel3⟩
          rw [e2] at h
          cases h
          refine ⟨rfl, rfl, a33, c33, rfl, by rw [hst]; simp; omega, fun hpos => ?_⟩
          obtain ⟨b, e, hB, hrow⟩ := hsf.at_ (by omega)
          refine ⟨b, e, Nat.le_trans ((unhide HG).2.size) hB, fun i hi => ?_⟩
          have := hrow.cell (q := i) (by omega)
          rw [this, hst]
          simp [List.getD, (show i < n by omega)]
        have HW := hide fin
        clear hsf bel3 hst hfk hgm hw3 hw4 fin
        rcases hcap with ⟨rfl, h1, h2⟩ | ⟨b, rfl, hcp⟩
        · subst h1
          subst h2
          have hm0 : mm = 0 := by omega
          subst hm0
          go_wp2
          exact unhide HW
        · have hmc : mm ≤ c33 := by omega
          go_wp2
          exact unhide HW
      · have HN : Hid (groupM A.wt t (sorted A.k loc A.pri t) room (idx.drop (m + 1)) = groupM A.wt t (sorted A.k loc A.pri t) room idx ∧ Below W.heap.size W w4) := by
          obtain ⟨hsf, bel3, hst, hfk, hgm, hw3, hw4⟩ := unhide HS
          obtain ⟨e1, hor⟩ := unhide HH
          have hmn' : mm = n := by rcases hor with h | h; exact absurd h hge; exact h
          rw [hmn', List.drop_of_length_le (by simp), haltM_no hge, ← hst] at e1
          refine ⟨?_, bel3⟩
          rw [← hgm]; simp only [groupM]; rw [← e1]
        clear HS HH
        go_wp2
        exact ⟨⟨m + 1, by omega, by go_num, rfl, rfl, rfl, (unhide HN).1, (unhide HN).2⟩, by simp [intOf]; omega⟩
    · have hme : m = l := by omega
      have hlen := (unhide HF).2.2.2.2.1.len
      obtain ⟨e, hbx⟩ := unhide HB
      rw [hme, List.drop_of_length_le (by rw [hlen]; exact Nat.le_refl _)] at e
      have HE := hide (And.intro e hbx)
      clear e hlen hbx
      go_wp2
      obtain ⟨e, hbx⟩ := unhide HE
      refine ⟨⟨fun _ => ⟨rfl, rfl⟩, fun j m' ho => ?_⟩, hbx⟩
      rw [← e] at ho; cases ho


set_option maxRecDepth 100000 in
set_option maxHeartbeats 4000000 in
theorem stm26_some {c0 c1 c2 c3 c4 c5 c6 c7 c8 c9 c10 c11 c12 c13 c14 c15 c16 c17 c18 c19 c20 c22 c23 c24 c30 c50 c51 c52 c53 c54 c55 c56 c57 c58 c59 c60 c61 c62 c63 c64 c65 c66 c67 c68 c69 c70 c71 c72 c73 c74 c75 c76 c77 c78 c79 c80 c81 c82 c83 c84 c85 c86 c87 c88 c89 c90 c91 c92 c93 c94 c95 c96 c97 c98 c99 c100 c101 c102 c103 c104 c105 c106 c107 c108 c109 c110 c111 c112 c113 c114 c115 c116 c117 c118 c119 c120 c121 c122 c123 c124 c125 c126 c127 c128 c129 c130 c131 c132 c133 c134 c135 c136 c137 c138 c139 c140 c141 c142 c143 c144 c145 c146 c147 c148 c149 c150 c151 c152 c153 c154 c155 c156 c157 c158 c159 c160 c161 c162 c163 c164 c165 c166 c167 c168 c169 c170 c171 c172 c173 c174 c175 c176 c177 c178 c179 c180 c181 c182 c183 c184 c185 c186 c187 c188 c189 c190 c191 c192 c193 c194 c195 c196 c197 c198 c199 c200 c201 c202 c203 c204 c205 c206 c207 c208 c209 c210 c211 c212 c213 c214 c215 c216 c217 c218 c219 c220 c221 c222 c223 c224 c225 c226 c227 c228 c229 c230 c231 c232 c233 c234 c235 c236 c237 c238 c239 c240 c241 c242 c243 c244 c245 c246 c247 c248 c249 c250 c251 c252 c253 c254 c255 c256 c257 c258 c259 c260 c261 c262 c263 c264 c265 c266 c267 c268 c269 c270 c271 c272 c273 c274 c275 c276 c277 c278 c279 c280 c281 c282 : Value} {Q : Exit → Act → World → Prop} (W : World) (b : Nat) (srt : Nat → List Nat)
    (hQ : ∀ (u25 : Value) (u26 : Value) (u27 : Value) (u32 : Value) (u33 : Value) (u34 : Value) (u35 : Value) (u36 : Value) (u37 : Value) (u38 : Value) (u39 : Value) (u283 : Value) (u284 : Value) (u285 : Value) (u286 : Value) (u287 : Value) (u288 : Value) (u289 : Value) (u290 : Value) (u291 : Value) (u292 : Value) (u293 : Value) (u294 : Value) (u295 : Value) (u296 : Value) (u297 : Value) (u298 : Value) (u299 : Value) (u300 : Value) (u301 : Value) (u302 : Value) (u303 : Value) (u304 : Value) (u305 : Value) (u306 : Value) (u307 : Value) (u308 : Value) (u309 : Value) (u310 : Value) (u311 : Value) (u312 : Value) (u313 : Value) (u314 : Value) (u315 : Value) (u316 : Value) (u317 : Value) (u318 : Value) (u319 : Value) (u320 : Value) (u321 : Value) (u322 : Value) (u323 : Value) (u324 : Value) (u325 : Value) (u326 : Value) (u327 : Value) (u328 : Value) (u329 : Value) (u330 : Value) (u331 : Value) (u332 : Value) (u333 : Value) (u334 : Value) (u335 : Value) (u336 : Value) (u337 : Value) (u338 : Value) (u339 : Value) (u340 : Value) (u341 : Value) (u342 : Value) (u343 : Value) (u344 : Value) (u345 : Value) (u346 : Value) (u347 : Value) (u348 : Value) (u349 : Value) (u350 : Value) (u351 : Value) (u352 : Value) (u353 : Value) (u354 : Value) (u355 : Value) (u356 : Value) (u357 : Value) (u358 : Value) (u359 : Value) (u360 : Value) (u361 : Value) (u362 : Value) (u363 : Value) (u364 : Value) (u365 : Value) (u366 : Value) (u367 : Value) (u368 : Value) (u369 : Value) (u370 : Value) (u371 : Value) (u372 : Value) (u373 : Value) (u374 : Value) (u375 : Value) (u376 : Value) (u377 : Value) (u378 : Value) (u379 : Value) (u380 : Value) (u381 : Value) (u382 : Value) (u383 : Value) (u384 : Value) (u385 : Value) (u386 : Value) (u387 : Value) (u388 : Value) (u389 : Value) (u390 : Value) (u391 : Value) (u392 : Value) (u393 : Value) (u394 : Value) (u395 : Value) (u396 : Value) (u397 : Value) (u398 : Value) (u399 : Value) (wx : World), (wx = W ∧ Want (some (b, 0)) srt W.heap.size u25 u26 u27 wx) → Q .normal ⟨#[c0, c1, c2, c3, c4, c5, c6, c7, c8, c9, c10, c11, c12, c13, c14, c15, c16, c17, c18, c19, c20, undef, c22, c23, c24, u25, u26, u27, (.int .i64 (b : Nat)), undef, c30, undef, u32, u33, u34, u35, u36, u37, u38, u39, undef, undef, undef, undef, undef, undef, undef, undef, undef, undef, c50, c51, c52, c53, c54, c55, c56, c57, c58, c59, c60, c61, c62, c63, c64, c65, c66, c67, c68, c69, c70, c71, c72, c73, c74, c75, c76, c77, c78, c79, c80, c81, c82, c83, c84, c85, c86, c87, c88, c89, c90, c91, c92, c93, c94, c95, c96, c97, c98, c99, c100, c101, c102, c103, c104, c105, c106, c107, c108, c109, c110, c111, c112, c113, c114, c115, c116, c117, c118, c119, c120, c121, c122, c123, c124, c125, c126, c127, c128, c129, c130, c131, c132, c133, c134, c135, c136, c137, c138, c139, c140, c141, c142, c143, c144, c145, c146, c147, c148, c149, c150, c151, c152, c153, c154, c155, c156, c157, c158, c159, c160, c161, c162, c163, c164, c165, c166, c167, c168, c169, c170, c171, c172, c173, c174, c175, c176, c177, c178, c179, c180, c181, c182, c183, c184, c185, c186, c187, c188, c189, c190, c191, c192, c193, c194, c195, c196, c197, c198, c199, c200, c201, c202, c203, c204, c205, c206, c207, c208, c209, c210, c211, c212, c213, c214, c215, c216, c217, c218, c219, c220, c221, c222, c223, c224, c225, c226, c227, c228, c229, c230, c231, c232, c233, c234, c235, c236, c237, c238, c239, c240, c241, c242, c243, c244, c245, c246, c247, c248, c249, c250, c251, c252, c253, c254, c255, c256, c257, c258, c259, c260, c261, c262, c263, c264, c265, c266, c267, c268, c269, c270, c271, c272, c273, c274, c275, c276, c277, c278, c279, c280, c281, c282, u283, u284, u285, u286, u287, u288, u289, u290, u291, u292, u293, u294, u295, u296, u297, u298, u299, u300, u301, u302, u303, u304, u305, u306, u307, u308, u309, u310, u311, u312, u313, u314, u315, u316, u317, u318, u319, u320, u321, u322, u323, u324, u325, u326, u327, u328, u329, u330, u331, u332, u333, u334, u335, u336, u337, u338, u339, u340, u341, u342, u343, u344, u345, u346, u347, u348, u349, u350, u351, u352, u353, u354, u355, u356, u357, u358, u359, u360, u361, u362, u363, u364, u365, u366, u367, u368, u369, u370, u371, u372, u373, u374, u375, u376, u377, u378, u379, u380, u381, u382, u383, u384, u385, u386, u387, u388, u389, u390, u391, u392, u393, u394, u395, u396, u397, u398, u399, undef, undef, undef, undef, undef, undef, undef, undef, undef, undef, undef, undef, undef, undef, undef, undef, undef, undef, undef, undef, undef, undef, undef, undef, undef, undef, undef, undef, undef, undef, undef, undef, undef, undef, undef, undef, undef, undef, undef, undef, undef, undef, undef, undef, undef, undef, undef, undef, undef, undef, undef, undef, undef, undef, undef, undef, undef, undef, undef, undef, undef, undef, undef, undef, undef, undef, undef, undef, undef, undef, undef, undef, undef, undef, undef, undef, undef, undef, undef, undef, undef, undef, undef, undef, undef, undef, undef, undef, undef, undef, undef, undef, undef, undef, undef, undef, undef, undef, undef, undef, undef, undef, undef, undef, undef, undef, undef, undef, undef, undef, undef, undef, undef, undef, undef, undef, undef, undef, undef, undef, undef, undef, undef, undef, undef, undef, undef, undef, undef, undef, undef, undef, undef, undef, undef, undef, undef, undef, undef, undef, undef, undef, undef, undef, undef, undef, undef, undef, undef, undef, undef, undef, undef, undef, undef, undef, undef, undef, undef, undef], []⟩ wx) :
    (stm 26).wp Yba.prog Q ⟨#[c0, c1, c2, c3, c4, c5, c6, c7, c8, c9, c10, c11, c12, c13, c14, c15, c16, c17, c18, c19, c20, undef, c22, c23, c24, (.bool false), (.int .i64 (-1)), (.slice none 0 0), (.int .i64 (b : Nat)), undef, c30, undef, undef, undef, undef, undef, undef, undef, undef, undef, undef, undef, undef, undef, undef, undef, undef, undef, undef, undef, c50, c51, c52, c53, c54, c55, c56, c57, c58, c59, c60, c61, c62, c63, c64, c65, c66, c67, c68, c69, c70, c71, c72, c73, c74, c75, c76, c77, c78, c79, c80, c81, c82, c83, c84, c85, c86, c87, c88, c89, c90, c91, c92, c93, c94, c95, c96, c97, c98, c99, c100, c101, c102, c103, c104, c105, c106, c107, c108, c109, c110, c111, c112, c113, c114, c115, c116, c117, c118, c119, c120, c121, c122, c123, c124, c125, c126, c127, c128, c129, c130, c131, c132, c133, c134, c135, c136, c137, c138, c139, c140, c141, c142, c143, c144, c145, c146, c147, c148, c149, c150, c151, c152, c153, c154, c155, c156, c157, c158, c159, c160, c161, c162, c163, c164, c165, c166, c167, c168, c169, c170, c171, c172, c173, c174, c175, c176, c177, c178, c179, c180, c181, c182, c183, c184, c185, c186, c187, c188, c189, c190, c191, c192, c193, c194, c195, c196, c197, c198, c199, c200, c201, c202, c203, c204, c205, c206, c207, c208, c209, c210, c211, c212, c213, c214, c215, c216, c217, c218, c219, c220, c221, c222, c223, c224, c225, c226, c227, c228, c229, c230, c231, c232, c233, c234, c235, c236, c237, c238, c239, c240, c241, c242, c243, c244, c245, c246, c247, c248, c249, c250, c251, c252, c253, c254, c255, c256, c257, c258, c259, c260, c261, c262, c263, c264, c265, c266, c267, c268, c269, c270, c271, c272, c273, c274, c275, c276, c277, c278, c279, c280, c281, c282, undef, undef, undef, undef, undef, undef, undef, undef, undef, undef, undef, undef, undef, undef, undef, undef, undef, undef, undef, undef, undef, undef, undef, undef, undef, undef, undef, undef, undef, undef, undef, undef, undef, undef, undef, undef, undef, undef, undef, undef, undef, undef, undef, undef, undef, undef, undef, undef, undef, undef, undef, undef, undef, undef, undef, undef, undef, undef, undef, undef, undef, undef, undef, undef, undef, undef, undef, undef, undef, undef, undef, undef, undef, undef, undef, undef, undef, undef, undef, undef, undef, undef, undef, undef, undef, undef, undef, undef, undef, undef, undef, undef, undef, undef, undef, undef, undef, undef, undef, undef, undef, undef, undef, undef, undef, undef, undef, undef, undef, undef, undef, undef, undef, undef, undef, undef, undef, undef, undef, undef, undef, undef, undef, undef, undef, undef, undef, undef, undef, undef, undef, undef, undef, undef, undef, undef, undef, undef, undef, undef, undef, undef, undef, undef, undef, undef, undef, undef, undef, undef, undef, undef, undef, undef, undef, undef, undef, undef, undef, undef, undef, undef, undef, undef, undef, undef, undef, undef, undef, undef, undef, undef, undef, undef, undef, undef, undef, undef, undef, undef, undef, undef, undef, undef, undef, undef, undef, undef, undef, undef, undef, undef, undef, undef, undef, undef, undef, undef, undef, undef, undef, undef, undef, undef, undef, undef, undef, undef, undef, undef, undef, undef, undef, undef, undef, undef, undef, undef, undef, undef, undef, undef, undef, undef, undef, undef, undef, undef, undef, undef, undef, undef, undef, undef, undef, undef, undef, undef, undef, undef, undef, undef, undef, undef, undef, undef, undef, undef, undef, undef, undef, undef, undef, undef, undef, undef, undef, undef, undef, undef, undef, undef, undef, undef, undef, undef, undef, undef, undef, undef, undef, undef, undef, undef, undef, undef, undef], []⟩ W := by
  conv => arg 2; whnf
  go_wp2
  exact ⟨fun h => (by cases h), fun j m h => (by cases h; exact ⟨rfl, rfl, none, 0, rfl, Nat.zero_le _, fun h => absurd h (by omega)⟩)⟩

end Go.Proofs.Ybulkaibe
