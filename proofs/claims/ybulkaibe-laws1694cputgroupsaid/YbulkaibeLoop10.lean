/-
  THE TENTH LOOP: how many are halted.
-/
import Derived.Test.YbulkaibeLoop8
namespace Go.Proofs.Ybulkaibe
open Go.RowKit Go.WideMaps Go.Maps Kit
open Go.ChangeMaps (setBlock heap_setBlock_other)

theorem drop_map {f : Nat → Nat} {n m : Nat} (h : m < n) : ((List.range n).map f).drop m = f m :: ((List.range n).map f).drop (m + 1) := by
  have hl : m < ((List.range n).map f).length := by simpa using h
  rw [List.drop_eq_getElem_cons hl]
  simp

/-- m are halted, v is the room then. -/
structure Hl (A : Ad) (t n : Nat) (f : Nat → Nat) (v0 : Int) (u38 u39 : Value) : Prop where
  ex : ∃ (m : Nat) (v : Int), u38 = .int .i64 v ∧ u39 = .int .i64 m ∧ m ≤ n ∧ haltM A.wt t (((List.range n).map f).drop m) m v = haltM A.wt t ((List.range n).map f) 0 v0 ∧ (0 ≤ v - A.wt t ∨ m = n) ∧ -1000 ≤ v ∧ v ≤ 1100

set_option maxRecDepth 100000 in
set_option maxHeartbeats 4000000 in
theorem sub6_ok {c0 c1 c2 c3 c4 c6 c7 c8 c9 c11 c12 c13 c14 c15 c16 c17 c18 c19 c20 c22 c23 c24 c25 c26 c27 c28 c30 c32 c34 c35 c36 c37 c50 c51 c52 c53 c54 c55 c56 c57 c58 c59 c60 c61 c62 c63 c64 c65 c66 c67 c68 c69 c70 c71 c72 c73 c74 c75 c76 c77 c78 c79 c80 c81 c82 c83 c84 c85 c86 c87 c88 c89 c90 c91 c92 c93 c94 c95 c96 c97 c98 c99 c100 c101 c102 c103 c104 c105 c106 c107 c108 c109 c110 c111 c112 c113 c114 c115 c116 c117 c118 c119 c120 c121 c122 c123 c124 c125 c126 c127 c128 c129 c130 c131 c132 c133 c134 c135 c136 c137 c138 c139 c140 c141 c142 c143 c144 c145 c146 c147 c148 c149 c150 c151 c152 c153 c154 c155 c156 c157 c158 c159 c160 c161 c162 c163 c164 c165 c166 c167 c168 c169 c170 c171 c172 c173 c174 c175 c176 c177 c178 c179 c180 c181 c182 c183 c184 c185 c186 c187 c188 c189 c190 c191 c192 c193 c194 c195 c196 c197 c198 c199 c200 c201 c202 c203 c204 c205 c206 c207 c208 c209 c210 c211 c212 c213 c214 c215 c216 c217 c218 c219 c220 c221 c222 c223 c224 c225 c226 c227 c228 c229 c230 c231 c232 c233 c234 c235 c236 c237 c238 c239 c240 c241 c242 c243 c244 c245 c246 c247 c248 c249 c250 c251 c252 c253 c254 c255 c256 c257 c258 c259 c260 c261 c262 c263 c264 c265 c266 c267 c268 c269 c270 c271 c272 c273 c274 c275 c276 c277 c278 c279 c280 c281 c282 c283 c284 c285 c286 c287 c288 c289 c290 c291 c292 c293 c294 c295 c296 c297 c298 c299 c300 c301 c302 c303 c304 c305 c306 c307 c308 c309 c310 c311 c312 c313 c314 c315 c316 c317 c318 c319 c320 c321 c322 c323 c324 c325 c326 c327 c328 c329 c330 c331 c332 c333 c334 c335 c336 c337 c338 c339 c340 c341 c342 c343 c344 c345 c346 c347 c348 c349 c350 c351 c352 c353 c354 c355 c356 c357 c358 c359 c360 c361 c362 c363 c364 c365 c366 c367 c368 c369 c370 c371 c372 c373 c374 c375 c376 c377 c378 c379 c380 c381 c382 c383 c384 c385 c386 c387 c388 c389 c390 c391 c392 c393 c394 c395 c396 c397 c398 c399 : Value} {Q : Exit → Act → World → Prop} (A : Ad) (W0 W : World) (B wB t cw n c33 : Nat) (a33 : Option Addr) (v0 : Int) {f : Nat → Nat} (hw : Row W wB A.k (fun q => A.wt q)) (ht : t < A.k) (h4 : ∀ i, A.wt i ≤ 4) (hf : ∀ q, q < n → f q < A.k) (hn6 : n ≤ 6) (hv0 : -1000 ≤ v0 ∧ v0 ≤ 1000) (h0 : Sd B W0 a33 n f W)
    (hQ : ∀ (u38 : Value) (u39 : Value) (u364 : Value) (u365 : Value) (u366 : Value) (u367 : Value) (u368 : Value) (u369 : Value) (u370 : Value) (u371 : Value) (u372 : Value) (u373 : Value) (u374 : Value) (u375 : Value) (u376 : Value) (u377 : Value) (u378 : Value) (u379 : Value) (u380 : Value) (u381 : Value) (u382 : Value) (u383 : Value) (u384 : Value) (u385 : Value) (u386 : Value) (u387 : Value) (wx : World), (wx = W ∧ Hl A t n f v0 u38 u39) → Q .normal ⟨#[c0, c1, c2, c3, c4, (.int .i64 (t : Nat)), c6, c7, c8, c9, (.slice (some ⟨wB, 0, none⟩) A.k cw), c11, c12, c13, c14, c15, c16, c17, c18, c19, c20, undef, c22, c23, c24, c25, c26, c27, c28, undef, c30, undef, c32, (.slice a33 n c33), c34, c35, c36, c37, u38, u39, undef, undef, undef, undef, undef, undef, undef, undef, undef, undef, c50, c51, c52, c53, c54, c55, c56, c57, c58, c59, c60, c61, c62, c63, c64, c65, c66, c67, c68, c69, c70, c71, c72, c73, c74, c75, c76, c77, c78, c79, c80, c81, c82, c83, c84, c85, c86, c87, c88, c89, c90, c91, c92, c93, c94, c95, c96, c97, c98, c99, c100, c101, c102, c103, c104, c105, c106, c107, c108, c109, c110, c111, c112, c113, c114, c115, c116, c117, c118, c119, c120, c121, c122, c123, c124, c125, c126, c127, c128, c129, c130, c131, c132, c133, c134, c135, c136, c137, c138, c139, c140, c141, c142, c143, c144, c145, c146, c147, c148, c149, c150, c151, c152, c153, c154, c155, c156, c157, c158, c159, c160, c161, c162, c163, c164, c165, c166, c167, c168, c169, c170, c171, c172, c173, c174, c175, c176, c177, c178, c179, c180, c181, c182, c183, c184, c185, c186, c187, c188, c189, c190, c191, c192, c193, c194, c195, c196, c197, c198, c199, c200, c201, c202, c203, c204, c205, c206, c207, c208, c209, c210, c211, c212, c213, c214, c215, c216, c217, c218, c219, c220, c221, c222, c223, c224, c225, c226, c227, c228, c229, c230, c231, c232, c233, c234, c235, c236, c237, c238, c239, c240, c241, c242, c243, c244, c245, c246, c247, c248, c249, c250, c251, c252, c253, c254, c255, c256, c257, c258, c259, c260, c261, c262, c263, c264, c265, c266, c267, c268, c269, c270, c271, c272, c273, c274, c275, c276, c277, c278, c279, c280, c281, c282, c283, c284, c285, c286, c287, c288, c289, c290, c291, c292, c293, c294, c295, c296, c297, c298, c299, c300, c301, c302, c303, c304, c305, c306, c307, c308, c309, c310, c311, c312, c313, c314, c315, c316, c317, c318, c319, c320, c321, c322, c323, c324, c325, c326, c327, c328, c329, c330, c331, c332, c333, c334, c335, c336, c337, c338, c339, c340, c341, c342, c343, c344, c345, c346, c347, c348, c349, c350, c351, c352, c353, c354, c355, c356, c357, c358, c359, c360, c361, c362, c363, u364, u365, u366, u367, u368, u369, u370, u371, u372, u373, u374, u375, u376, u377, u378, u379, u380, u381, u382, u383, u384, u385, u386, u387, c388, c389, c390, c391, c392, c393, c394, c395, c396, c397, c398, c399, undef, undef, undef, undef, undef, undef, undef, undef, undef, undef, undef, undef, undef, undef, undef, undef, undef, undef, undef, undef, undef, undef, undef, undef, undef, undef, undef, undef, undef, undef, undef, undef, undef, undef, undef, undef, undef, undef, undef, undef, undef, undef, undef, undef, undef, undef, undef, undef, undef, undef, undef, undef, undef, undef, undef, undef, undef, undef, undef, undef, undef, undef, undef, undef, undef, undef, undef, undef, undef, undef, undef, undef, undef, undef, undef, undef, undef, undef, undef, undef, undef, undef, undef, undef, undef, undef, undef, undef, undef, undef, undef, undef, undef, undef, undef, undef, undef, undef, undef, undef, undef, undef, undef, undef, undef, undef, undef, undef, undef, undef, undef, undef, undef, undef, undef, undef, undef, undef, undef, undef, undef, undef, undef, undef, undef, undef, undef, undef, undef, undef, undef, undef, undef, undef, undef, undef, undef, undef, undef, undef, undef, undef, undef, undef, undef, undef, undef, undef, undef, undef, undef, undef, undef, undef, undef, undef, undef, undef, undef, undef], []⟩ wx) :
    (sub 6).wp Yba.prog Q ⟨#[c0, c1, c2, c3, c4, (.int .i64 (t : Nat)), c6, c7, c8, c9, (.slice (some ⟨wB, 0, none⟩) A.k cw), c11, c12, c13, c14, c15, c16, c17, c18, c19, c20, undef, c22, c23, c24, c25, c26, c27, c28, undef, c30, undef, c32, (.slice a33 n c33), c34, c35, c36, c37, (.int .i64 v0), (.int .i64 0), undef, undef, undef, undef, undef, undef, undef, undef, undef, undef, c50, c51, c52, c53, c54, c55, c56, c57, c58, c59, c60, c61, c62, c63, c64, c65, c66, c67, c68, c69, c70, c71, c72, c73, c74, c75, c76, c77, c78, c79, c80, c81, c82, c83, c84, c85, c86, c87, c88, c89, c90, c91, c92, c93, c94, c95, c96, c97, c98, c99, c100, c101, c102, c103, c104, c105, c106, c107, c108, c109, c110, c111, c112, c113, c114, c115, c116, c117, c118, c119, c120, c121, c122, c123, c124, c125, c126, c127, c128, c129, c130, c131, c132, c133, c134, c135, c136, c137, c138, c139, c140, c141, c142, c143, c144, c145, c146, c147, c148, c149, c150, c151, c152, c153, c154, c155, c156, c157, c158, c159, c160, c161, c162, c163, c164, c165, c166, c167, c168, c169, c170, c171, c172, c173, c174, c175, c176, c177, c178, c179, c180, c181, c182, c183, c184, c185, c186, c187, c188, c189, c190, c191, c192, c193, c194, c195, c196, c197, c198, c199, c200, c201, c202, c203, c204, c205, c206, c207, c208, c209, c210, c211, c212, c213, c214, c215, c216, c217, c218, c219, c220, c221, c222, c223, c224, c225, c226, c227, c228, c229, c230, c231, c232, c233, c234, c235, c236, c237, c238, c239, c240, c241, c242, c243, c244, c245, c246, c247, c248, c249, c250, c251, c252, c253, c254, c255, c256, c257, c258, c259, c260, c261, c262, c263, c264, c265, c266, c267, c268, c269, c270, c271, c272, c273, c274, c275, c276, c277, c278, c279, c280, c281, c282, c283, c284, c285, c286, c287, c288, c289, c290, c291, c292, c293, c294, c295, c296, c297, c298, c299, c300, c301, c302, c303, c304, c305, c306, c307, c308, c309, c310, c311, c312, c313, c314, c315, c316, c317, c318, c319, c320, c321, c322, c323, c324, c325, c326, c327, c328, c329, c330, c331, c332, c333, c334, c335, c336, c337, c338, c339, c340, c341, c342, c343, c344, c345, c346, c347, c348, c349, c350, c351, c352, c353, c354, c355, c356, c357, c358, c359, c360, c361, c362, c363, c364, c365, c366, c367, c368, c369, c370, c371, c372, c373, c374, c375, c376, c377, c378, c379, c380, c381, c382, c383, c384, c385, c386, c387, c388, c389, c390, c391, c392, c393, c394, c395, c396, c397, c398, c399, undef, undef, undef, undef, undef, undef, undef, undef, undef, undef, undef, undef, undef, undef, undef, undef, undef, undef, undef, undef, undef, undef, undef, undef, undef, undef, undef, undef, undef, undef, undef, undef, undef, undef, undef, undef, undef, undef, undef, undef, undef, undef, undef, undef, undef, undef, undef, undef, undef, undef, undef, undef, undef, undef, undef, undef, undef, undef, undef, undef, undef, undef, undef, undef, undef, undef, undef, undef, undef, undef, undef, undef, undef, undef, undef, undef, undef, undef, undef, undef, undef, undef, undef, undef, undef, undef, undef, undef, undef, undef, undef, undef, undef, undef, undef, undef, undef, undef, undef, undef, undef, undef, undef, undef, undef, undef, undef, undef, undef, undef, undef, undef, undef, undef, undef, undef, undef, undef, undef, undef, undef, undef, undef, undef, undef, undef, undef, undef, undef, undef, undef, undef, undef, undef, undef, undef, undef, undef, undef, undef, undef, undef, undef, undef, undef, undef, undef, undef, undef, undef, undef, undef, undef, undef, undef, undef, undef, undef, undef, undef], []⟩ W := by
  conv => arg 2; whnf
  have wt : W.cell? ⟨wB, t, none⟩ = some (.int .i64 (A.wt t : Nat)) := hw.cell ht
  have wt4 := h4 t
  have HF := hide (And.intro hw (And.intro h4 (And.intro hf (And.intro h0 hv0))))
  clear hw h4 hf h0
  go_wp2
  go_loopw [38, 39] (fun vv iv wx => ∃ (m : Nat) (v : Int), m ≤ n ∧ iv = .int .i64 m ∧ vv = .int .i64 v ∧ haltM A.wt t (((List.range n).map f).drop m) m v = haltM A.wt t ((List.range n).map f) 0 v0 ∧ v0 ≤ v ∧ v ≤ v0 + 4 * (m : Int) ∧ wx = W) (fun _ iv _ => n - (intOf iv).toNat)
  case atStart => exact ⟨0, v0, Nat.zero_le _, rfl, rfl, rfl, by omega, by omega, rfl⟩
  case round =>
    obtain ⟨m, v, hm, rfl, rfl, hh, hv1, hv2, rfl⟩ := hrel
    obtain ⟨hw, h4, hf, h0, hv0⟩ := unhide HF
    have HH := hide hh
    have hwr : IntKind.i64.wrap (v - (A.wt t : Nat)) = v - (A.wt t : Nat) := wrap_mid (by omega) (by omega)
    clear hh
    by_cases hneg : v - (A.wt t : Nat) < 0
    · have hd : decide (v - (A.wt t : Nat) < 0) = true := decide_eq_true hneg
      by_cases hmn : m < n
      · obtain ⟨b, rfl, _, hr⟩ := h0.at_ (by omega)
        have q0 := hr.cell hmn
        have wq := hw.cell (hf m hmn)
        have wq4 := h4 (f m)
        have fk := hf m hmn
        have fkI : ((f m : Nat) : Int) < (A.k : Nat) := by omega
        have e := unhide HH
        rw [drop_map hmn, haltM_next (by omega)] at e
        have HE := hide e
        have hwr2 : IntKind.i64.wrap (v + (A.wt (f m) : Nat)) = v + (A.wt (f m) : Nat) := wrap_mid (by omega) (by omega)
        clear e hw h4 hf h0 hr HF
        generalize f m = fm at *
        generalize A.wt fm = wm at *
        go_wp2
        exact ⟨⟨m + 1, v + (wm : Nat), by omega, by go_num, rfl, unhide HE, by omega, by omega, trivial⟩, by simp [intOf]; omega⟩
      · clear hw h4 hf h0 HF
        have hd2 : decide ((m : Int) < (n : Nat)) = false := decide_eq_false (by omega)
        go_wp2
        exact ⟨⟨m, v, rfl, rfl, hm, unhide HH, .inr (by omega), by omega, by omega⟩⟩
    · have hd : decide (v - (A.wt t : Nat) < 0) = false := decide_eq_false hneg
      clear hw h4 hf h0 HF
      go_wp2
      exact ⟨⟨m, v, rfl, rfl, hm, unhide HH, .inl (by omega), by omega, by omega⟩⟩


end Go.Proofs.Ybulkaibe
