/-
  THE SEVENTH LOOP: the candidates.
-/
import Derived.Test.YbulkaibeSub
namespace Go.Proofs.Ybulkaibe
open Go.RowKit Go.WideMaps Go.Maps Kit
open Go.ChangeMaps (setBlock heap_setBlock_other)

set_option maxRecDepth 100000 in
set_option maxHeartbeats 4000000 in
theorem sub2_ok {c0 c1 c2 c3 c6 c7 c8 c10 c12 c13 c14 c15 c16 c17 c18 c19 c20 c22 c23 c24 c25 c26 c27 c28 c30 c34 c35 c36 c37 c38 c39 c50 c51 c52 c53 c54 c55 c56 c57 c58 c59 c60 c61 c62 c63 c64 c65 c66 c67 c68 c69 c70 c71 c72 c73 c74 c75 c76 c77 c78 c79 c80 c81 c82 c83 c84 c85 c86 c87 c88 c89 c90 c91 c92 c93 c94 c95 c96 c97 c98 c99 c100 c101 c102 c103 c104 c105 c106 c107 c108 c109 c110 c111 c112 c113 c114 c115 c116 c117 c118 c119 c120 c121 c122 c123 c124 c125 c126 c127 c128 c129 c130 c131 c132 c133 c134 c135 c136 c137 c138 c139 c140 c141 c142 c143 c144 c145 c146 c147 c148 c149 c150 c151 c152 c153 c154 c155 c156 c157 c158 c159 c160 c161 c162 c163 c164 c165 c166 c167 c168 c169 c170 c171 c172 c173 c174 c175 c176 c177 c178 c179 c180 c181 c182 c183 c184 c185 c186 c187 c188 c189 c190 c191 c192 c193 c194 c195 c196 c197 c198 c199 c200 c201 c202 c203 c204 c205 c206 c207 c208 c209 c210 c211 c212 c213 c214 c215 c216 c217 c218 c219 c220 c221 c222 c223 c224 c225 c226 c227 c228 c229 c230 c231 c232 c233 c234 c235 c236 c237 c238 c239 c240 c241 c242 c243 c244 c245 c246 c247 c248 c249 c250 c251 c252 c253 c254 c255 c256 c257 c258 c259 c260 c261 c262 c263 c264 c265 c266 c267 c268 c269 c270 c271 c272 c273 c274 c275 c276 c277 c278 c279 c280 c281 c282 c283 c284 c285 c286 c287 c288 c289 c290 c291 c292 c293 c294 c295 c296 c297 c298 c299 c300 c301 c302 c303 c304 c305 c306 c307 c308 c309 c310 c311 c312 c313 c314 c315 c316 c317 c318 c319 c320 c321 c322 c323 c324 c325 c326 c327 c328 c329 c330 c331 c332 c333 c334 c335 c336 c337 c338 c339 c340 c341 c342 c343 c344 c345 c346 c347 c348 c349 c350 c351 c352 c353 c354 c355 c356 c357 c358 c359 c360 c361 c362 c363 c364 c365 c366 c367 c368 c369 c370 c371 c372 c373 c374 c375 c376 c377 c378 c379 c380 c381 c382 c383 c384 c385 c386 c387 c388 c389 c390 c391 c392 c393 c394 c395 c396 c397 c398 c399 : Value} {Q : Exit → Act → World → Prop} (A : Ad) (W : World) (pB lB t cp cl j : Nat) {loc : Nat → Option Nat} (hp : Row W pB A.k (fun q => A.pri q)) (hl : Row W lB A.k (fun q => locI (loc q))) (k6 : A.k ≤ 6) (h4 : ∀ i, A.pri i < 4) (ht : t < A.k)
    (hQ : ∀ (u33 : Value) (u34 : Value) (u292 : Value) (u293 : Value) (u294 : Value) (u295 : Value) (u296 : Value) (u297 : Value) (u298 : Value) (u299 : Value) (u300 : Value) (u301 : Value) (u302 : Value) (u303 : Value) (u304 : Value) (u305 : Value) (u306 : Value) (u307 : Value) (u308 : Value) (u309 : Value) (u310 : Value) (u311 : Value) (u312 : Value) (u313 : Value) (u314 : Value) (u315 : Value) (u316 : Value) (u317 : Value) (u318 : Value) (u319 : Value) (wx : World), Cn W.heap.size W (cands A.k loc A.pri t j) u33 wx → Q .normal ⟨#[c0, c1, c2, c3, (.int .i64 (A.k : Nat)), (.int .i64 (t : Nat)), c6, c7, c8, (.slice (some ⟨pB, 0, none⟩) A.k cp), c10, (.slice (some ⟨lB, 0, none⟩) A.k cl), c12, c13, c14, c15, c16, c17, c18, c19, c20, undef, c22, c23, c24, c25, c26, c27, c28, undef, c30, undef, (.int .i64 (j : Nat)), u33, u34, c35, c36, c37, c38, c39, undef, undef, undef, undef, undef, undef, undef, undef, undef, undef, c50, c51, c52, c53, c54, c55, c56, c57, c58, c59, c60, c61, c62, c63, c64, c65, c66, c67, c68, c69, c70, c71, c72, c73, c74, c75, c76, c77, c78, c79, c80, c81, c82, c83, c84, c85, c86, c87, c88, c89, c90, c91, c92, c93, c94, c95, c96, c97, c98, c99, c100, c101, c102, c103, c104, c105, c106, c107, c108, c109, c110, c111, c112, c113, c114, c115, c116, c117, c118, c119, c120, c121, c122, c123, c124, c125, c126, c127, c128, c129, c130, c131, c132, c133, c134, c135, c136, c137, c138, c139, c140, c141, c142, c143, c144, c145, c146, c147, c148, c149, c150, c151, c152, c153, c154, c155, c156, c157, c158, c159, c160, c161, c162, c163, c164, c165, c166, c167, c168, c169, c170, c171, c172, c173, c174, c175, c176, c177, c178, c179, c180, c181, c182, c183, c184, c185, c186, c187, c188, c189, c190, c191, c192, c193, c194, c195, c196, c197, c198, c199, c200, c201, c202, c203, c204, c205, c206, c207, c208, c209, c210, c211, c212, c213, c214, c215, c216, c217, c218, c219, c220, c221, c222, c223, c224, c225, c226, c227, c228, c229, c230, c231, c232, c233, c234, c235, c236, c237, c238, c239, c240, c241, c242, c243, c244, c245, c246, c247, c248, c249, c250, c251, c252, c253, c254, c255, c256, c257, c258, c259, c260, c261, c262, c263, c264, c265, c266, c267, c268, c269, c270, c271, c272, c273, c274, c275, c276, c277, c278, c279, c280, c281, c282, c283, c284, c285, c286, c287, c288, c289, c290, c291, u292, u293, u294, u295, u296, u297, u298, u299, u300, u301, u302, u303, u304, u305, u306, u307, u308, u309, u310, u311, u312, u313, u314, u315, u316, u317, u318, u319, c320, c321, c322, c323, c324, c325, c326, c327, c328, c329, c330, c331, c332, c333, c334, c335, c336, c337, c338, c339, c340, c341, c342, c343, c344, c345, c346, c347, c348, c349, c350, c351, c352, c353, c354, c355, c356, c357, c358, c359, c360, c361, c362, c363, c364, c365, c366, c367, c368, c369, c370, c371, c372, c373, c374, c375, c376, c377, c378, c379, c380, c381, c382, c383, c384, c385, c386, c387, c388, c389, c390, c391, c392, c393, c394, c395, c396, c397, c398, c399, undef, undef, undef, undef, undef, undef, undef, undef, undef, undef, undef, undef, undef, undef, undef, undef, undef, undef, undef, undef, undef, undef, undef, undef, undef, undef, undef, undef, undef, undef, undef, undef, undef, undef, undef, undef, undef, undef, undef, undef, undef, undef, undef, undef, undef, undef, undef, undef, undef, undef, undef, undef, undef, undef, undef, undef, undef, undef, undef, undef, undef, undef, undef, undef, undef, undef, undef, undef, undef, undef, undef, undef, undef, undef, undef, undef, undef, undef, undef, undef, undef, undef, undef, undef, undef, undef, undef, undef, undef, undef, undef, undef, undef, undef, undef, undef, undef, undef, undef, undef, undef, undef, undef, undef, undef, undef, undef, undef, undef, undef, undef, undef, undef, undef, undef, undef, undef, undef, undef, undef, undef, undef, undef, undef, undef, undef, undef, undef, undef, undef, undef, undef, undef, undef, undef, undef, undef, undef, undef, undef, undef, undef, undef, undef, undef, undef, undef, undef, undef, undef, undef, undef, undef, undef, undef, undef, undef, undef, undef, undef], []⟩ wx) :
    (sub 2).wp Yba.prog Q ⟨#[c0, c1, c2, c3, (.int .i64 (A.k : Nat)), (.int .i64 (t : Nat)), c6, c7, c8, (.slice (some ⟨pB, 0, none⟩) A.k cp), c10, (.slice (some ⟨lB, 0, none⟩) A.k cl), c12, c13, c14, c15, c16, c17, c18, c19, c20, undef, c22, c23, c24, c25, c26, c27, c28, undef, c30, undef, (.int .i64 (j : Nat)), (.slice none 0 0), c34, c35, c36, c37, c38, c39, undef, undef, undef, undef, undef, undef, undef, undef, undef, undef, c50, c51, c52, c53, c54, c55, c56, c57, c58, c59, c60, c61, c62, c63, c64, c65, c66, c67, c68, c69, c70, c71, c72, c73, c74, c75, c76, c77, c78, c79, c80, c81, c82, c83, c84, c85, c86, c87, c88, c89, c90, c91, c92, c93, c94, c95, c96, c97, c98, c99, c100, c101, c102, c103, c104, c105, c106, c107, c108, c109, c110, c111, c112, c113, c114, c115, c116, c117, c118, c119, c120, c121, c122, c123, c124, c125, c126, c127, c128, c129, c130, c131, c132, c133, c134, c135, c136, c137, c138, c139, c140, c141, c142, c143, c144, c145, c146, c147, c148, c149, c150, c151, c152, c153, c154, c155, c156, c157, c158, c159, c160, c161, c162, c163, c164, c165, c166, c167, c168, c169, c170, c171, c172, c173, c174, c175, c176, c177, c178, c179, c180, c181, c182, c183, c184, c185, c186, c187, c188, c189, c190, c191, c192, c193, c194, c195, c196, c197, c198, c199, c200, c201, c202, c203, c204, c205, c206, c207, c208, c209, c210, c211, c212, c213, c214, c215, c216, c217, c218, c219, c220, c221, c222, c223, c224, c225, c226, c227, c228, c229, c230, c231, c232, c233, c234, c235, c236, c237, c238, c239, c240, c241, c242, c243, c244, c245, c246, c247, c248, c249, c250, c251, c252, c253, c254, c255, c256, c257, c258, c259, c260, c261, c262, c263, c264, c265, c266, c267, c268, c269, c270, c271, c272, c273, c274, c275, c276, c277, c278, c279, c280, c281, c282, c283, c284, c285, c286, c287, c288, c289, c290, c291, c292, c293, c294, c295, c296, c297, c298, c299, c300, c301, c302, c303, c304, c305, c306, c307, c308, c309, c310, c311, c312, c313, c314, c315, c316, c317, c318, c319, c320, c321, c322, c323, c324, c325, c326, c327, c328, c329, c330, c331, c332, c333, c334, c335, c336, c337, c338, c339, c340, c341, c342, c343, c344, c345, c346, c347, c348, c349, c350, c351, c352, c353, c354, c355, c356, c357, c358, c359, c360, c361, c362, c363, c364, c365, c366, c367, c368, c369, c370, c371, c372, c373, c374, c375, c376, c377, c378, c379, c380, c381, c382, c383, c384, c385, c386, c387, c388, c389, c390, c391, c392, c393, c394, c395, c396, c397, c398, c399, undef, undef, undef, undef, undef, undef, undef, undef, undef, undef, undef, undef, undef, undef, undef, undef, undef, undef, undef, undef, undef, undef, undef, undef, undef, undef, undef, undef, undef, undef, undef, undef, undef, undef, undef, undef, undef, undef, undef, undef, undef, undef, undef, undef, undef, undef, undef, undef, undef, undef, undef, undef, undef, undef, undef, undef, undef, undef, undef, undef, undef, undef, undef, undef, undef, undef, undef, undef, undef, undef, undef, undef, undef, undef, undef, undef, undef, undef, undef, undef, undef, undef, undef, undef, undef, undef, undef, undef, undef, undef, undef, undef, undef, undef, undef, undef, undef, undef, undef, undef, undef, undef, undef, undef, undef, undef, undef, undef, undef, undef, undef, undef, undef, undef, undef, undef, undef, undef, undef, undef, undef, undef, undef, undef, undef, undef, undef, undef, undef, undef, undef, undef, undef, undef, undef, undef, undef, undef, undef, undef, undef, undef, undef, undef, undef, undef, undef, undef, undef, undef, undef, undef, undef, undef, undef, undef, undef, undef, undef, undef], []⟩ W := by
  conv => arg 2; whnf
  obtain ⟨i0, hi0, hz0, hz1, hz2⟩ := info_parts Yba.info3
  have HF := hide (And.intro hp (And.intro hl h4))
  have pt : W.cell? ⟨pB, t, none⟩ = some (.int .i64 (A.pri t : Nat)) := hp.cell ht
  have pt4 := h4 t
  have ltp := hp.lt
  have ltl := hl.lt
  clear hp hl h4
  go_wp2
  go_loopw [33, 34] (fun cv iv wx => ∃ i : Nat, i ≤ A.k ∧ iv = .int .i64 i ∧ Cn W.heap.size W (cands i loc A.pri t j) cv wx) (fun _ iv _ => A.k - (intOf iv).toNat)
  case atStart => exact ⟨0, Nat.zero_le _, rfl, World.ownsRow_nil _ _ _ _, Below.refl _ _, Nat.le_refl _⟩
  case round =>
    obtain ⟨i, hi, rfl, hC⟩ := hrel
    by_cases hik : i < A.k
    · obtain ⟨hp, hl, h4⟩ := unhide HF
      have pi4 := h4 i
      have hbx := hC.bel
      have pi := (hbx.cell (p := ⟨pB, i, none⟩) ltp).trans (hp.cell hik)
      have pt' := (hbx.cell (p := ⟨pB, t, none⟩) ltp).trans pt
      have li := (hbx.cell (p := ⟨lB, i, none⟩) ltl).trans (hl.cell hik)
      have zi := fun w => zzpri_any (A.pri i) w pi4
      have zt := fun w => zzpri_any (A.pri t) w pt4
      have hzz := zz_iff pt4 pi4
      have hcs := cands_succ i loc A.pri t j
      have hcl : (cands i loc A.pri t j).length ≤ 6 := by have := cands_le i loc A.pri t j; omega
      clear hp hl h4 hbx
      by_cases hlo : loc i = some j
      · rw [hlo, show locI (some j) = (j : Int) from rfl] at li
        obtain ⟨xi, hxi⟩ : ∃ xi : Int, xi = if A.pri i = 0 then 1000 else (A.pri i : Int) := ⟨_, rfl⟩
        obtain ⟨xt, hxt⟩ : ∃ xt : Int, xt = if A.pri t = 0 then 1000 else (A.pri t : Int) := ⟨_, rfl⟩
        rw [← hxi] at zi hzz
        rw [← hxt] at zt hzz
        by_cases hpr : prM (A.pri t) < prM (A.pri i)
        · rw [if_pos ⟨hlo, hpr⟩] at hcs
          have hd : decide (xt < xi) = true := decide_eq_true (hzz.1 hpr)
          obtain ⟨a33, c33, hv⟩ := own_slice hC.row
          subst hv
          have HC := hide (And.intro hC hcs)
          have hrow := hC.row
          clear hxi hxt hpr hzz hcs hlo hC
          generalize A.pri i = ni at pi zi pi4
          generalize A.pri t = nt at pt' zt pt pt4
          go_wp2
          go_quiet (first | (go_at_call_of 7 (Value.int .i64 (ni : Int)); exact Calls.quiet_of_same (zi _)) | (go_at_call_of 7 (Value.int .i64 (nt : Int)); exact Calls.quiet_of_same (zt _)))
          obtain ⟨wd, hwd⟩ : ∃ wd, wd = wr.drewN nq := ⟨_, rfl⟩
          rw [← hwd]
          have hCd := (unhide HC).1.drew nq
          rw [← hwd] at hCd
          have hrow' := hCd.row
          have hge := hCd.ge
          have HCD := hide (And.intro hCd (unhide HC).2)
          clear hrow hCd hwd HC pi zi zt pt pt' li hd
          go_wp2_with (at_builtin; refine wpList_append_own_at _ rfl _ _ 50 rfl W.heap.size 3 i0 (.int .i64 0) 1 8 Yba.underlying50 hi0 hz0 hz1 hz2 rfl (by decide) _ _ _ rfl (hrow'.alloc _) ⟨wd.heap.size, 0, none⟩ 1 1 [intV i] rfl rfl (cell_one_new _ _ _) (by simp [Value.oneCell']) (by unfold maxLen; omega) (by omega) (by simp; omega) ?_)
          intro v2 w2 hown2 hgrow2 _ hat2
          have HC2 := hide ((unhide HCD).1.push hown2 hgrow2)
          clear hown2 hgrow2 hat2 hrow'
          go_wp2
          refine ⟨⟨i + 1, by omega, by go_num, ?_⟩, by simp [intOf]; omega⟩
          rw [(unhide HCD).2]; exact unhide HC2
        · rw [if_neg (fun h => hpr h.2), List.append_nil] at hcs
          have hd : decide (xt < xi) = false := decide_eq_false (fun h => hpr (hzz.2 h))
          have HC := hide (And.intro hC hcs)
          clear hxi hxt hpr hzz hcs hlo hC
          generalize A.pri i = ni at pi zi pi4
          generalize A.pri t = nt at pt' zt pt pt4
          go_wp2
          go_quiet (first | (go_at_call_of 7 (Value.int .i64 (ni : Int)); exact Calls.quiet_of_same (zi _)) | (go_at_call_of 7 (Value.int .i64 (nt : Int)); exact Calls.quiet_of_same (zt _)))
          go_wp2
          refine ⟨⟨i + 1, by omega, by go_num, ?_⟩, by simp [intOf]; omega⟩
          rw [(unhide HC).2]; exact (unhide HC).1.drew _
      · have hne : (locI (loc i) == (j : Int)) = false := by
          cases h : loc i with
          | none => simp [locI]
          | some q => simp only [locI]; rw [h] at hlo; simp at hlo ⊢; omega
        rw [if_neg (fun h => hlo h.1), List.append_nil] at hcs
        have HC := hide (And.intro hC hcs)
        clear hcs hC zi zt hzz
        generalize locI (loc i) = lv at *
        go_wp2
        go_quiet (fail)
        go_wp2
        refine ⟨⟨i + 1, by omega, by go_num, ?_⟩, by simp [intOf]; omega⟩
        rw [(unhide HC).2]; exact (unhide HC).1.drew _
    · have hie : i = A.k := by omega
      subst hie
      have HC := hide hC
      clear hC
      go_wp2
      exact unhide HC


end Go.Proofs.Ybulkaibe
