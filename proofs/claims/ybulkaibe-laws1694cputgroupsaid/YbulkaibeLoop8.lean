/-
  THE EIGHTH AND THE NINTH LOOP: the candidates are sorted.
-/
import Derived.Test.YbulkaibeSub
namespace Go.Proofs.Ybulkaibe
open Go.RowKit Go.WideMaps Go.Maps Kit
open Go.ChangeMaps (setBlock heap_setBlock_other)

/-- The candidates as they lie. -/
structure Sd (B : Nat) (W : World) (a : Option Addr) (n : Nat) (f : Nat → Nat) (wx : World) : Prop where
  at_ : 0 < n → ∃ b, a = some ⟨b, 0, none⟩ ∧ B ≤ b ∧ Row wx b n (fun q => (f q : Nat))
  bel : Below B W wx

theorem Cn.sd {B : Nat} {W wx : World} {cs : List Nat} {a : Option Addr} {n c : Nat} (h : Cn B W cs (.slice a n c) wx) : n = cs.length ∧ Sd B W a n (fun q => cs.getD q 0) wx := by
  have hr := h.row
  obtain ⟨a', c', hv⟩ := own_slice hr
  cases hv
  refine ⟨rfl, fun hn => ?_, h.bel⟩
  rcases hr.2 with ⟨_, e⟩ | ⟨g, cap, cur, e, hB, hg, _, _, _, ht⟩
  · omega
  · cases e
    refine ⟨g, rfl, hB, cur, 3, hg, fun q hq => ?_⟩
    have e1 : (cur.toList.take (cs.length * 1))[q]? = some (intV (cs.getD q 0)) := by
      rw [ht, List.getElem?_map, List.getElem?_eq_getElem hq]
      simp [List.getD, List.getElem?_eq_getElem hq]
    rw [List.getElem?_take, if_pos (by omega)] at e1
    rw [← Array.getElem?_toList]; exact e1
theorem Sd.drewN {B : Nat} {W wx : World} {a : Option Addr} {n : Nat} {f : Nat → Nat} (h : Sd B W a n f wx) (m : Nat) : Sd B W a n f (wx.drewN m) :=
  ⟨fun hn => by obtain ⟨b, e, hB, hr⟩ := h.at_ hn; exact ⟨b, e, hB, hr.of_block rfl⟩, below_drewN h.bel _⟩
theorem Sd.swap {B : Nat} {W wx : World} {b n i : Nat} {f : Nat → Nat} (h : Sd B W (some ⟨b, 0, none⟩) n f wx) (hn : 0 < n) : Sd B W (some ⟨b, 0, none⟩) n (swp f i) ((wx.setCell ⟨b, i + 1, none⟩ (.int .i64 (f i : Nat))).setCell ⟨b, i, none⟩ (.int .i64 (f (i + 1) : Nat))) := by
  obtain ⟨b', e, hB, hr⟩ := h.at_ hn
  cases e
  have hb2 : Below B W ((wx.setCell ⟨b, i + 1, none⟩ (.int .i64 (f i : Nat))).setCell ⟨b, i, none⟩ (.int .i64 (f (i + 1) : Nat))) := (h.bel.setCell (p := ⟨b, i + 1, none⟩) hB _).setCell (p := ⟨b, i, none⟩) hB _
  refine ⟨fun _ => ⟨b, rfl, hB, ((hr.set (i + 1) (f i : Nat)).set i (f (i + 1) : Nat)).congr (fun q _ => ?_)⟩, hb2⟩
  by_cases h1 : q = i
  · subst h1; rw [updF_same]; simp [swp]
  · rw [updF_other _ _ h1]
    by_cases h2 : q = i + 1
    · subst h2; rw [updF_same]; simp [swp]
    · rw [updF_other _ _ h2]; simp [swp, h1, h2]

set_option maxRecDepth 100000 in
set_option maxHeartbeats 4000000 in
theorem sub3_ok {c0 c1 c2 c3 c4 c5 c6 c7 c8 c10 c11 c12 c13 c14 c15 c16 c17 c18 c19 c20 c22 c23 c24 c25 c26 c27 c28 c30 c32 c34 c35 c36 c37 c38 c39 c50 c51 c52 c53 c54 c55 c56 c57 c58 c59 c60 c61 c62 c63 c64 c65 c66 c67 c68 c69 c70 c71 c72 c73 c74 c75 c76 c77 c78 c79 c80 c81 c82 c83 c84 c85 c86 c87 c88 c89 c90 c91 c92 c93 c94 c95 c96 c97 c98 c99 c100 c101 c102 c103 c104 c105 c106 c107 c108 c109 c110 c111 c112 c113 c114 c115 c116 c117 c118 c119 c120 c121 c122 c123 c124 c125 c126 c127 c128 c129 c130 c131 c132 c133 c134 c135 c136 c137 c138 c139 c140 c141 c142 c143 c144 c145 c146 c147 c148 c149 c150 c151 c152 c153 c154 c155 c156 c157 c158 c159 c160 c161 c162 c163 c164 c165 c166 c167 c168 c169 c170 c171 c172 c173 c174 c175 c176 c177 c178 c179 c180 c181 c182 c183 c184 c185 c186 c187 c188 c189 c190 c191 c192 c193 c194 c195 c196 c197 c198 c199 c200 c201 c202 c203 c204 c205 c206 c207 c208 c209 c210 c211 c212 c213 c214 c215 c216 c217 c218 c219 c220 c221 c222 c223 c224 c225 c226 c227 c228 c229 c230 c231 c232 c233 c234 c235 c236 c237 c238 c239 c240 c241 c242 c243 c244 c245 c246 c247 c248 c249 c250 c251 c252 c253 c254 c255 c256 c257 c258 c259 c260 c261 c262 c263 c264 c265 c266 c267 c268 c269 c270 c271 c272 c273 c274 c275 c276 c277 c278 c279 c280 c281 c282 c283 c284 c285 c286 c287 c288 c289 c290 c291 c292 c293 c294 c295 c296 c297 c298 c299 c300 c301 c302 c303 c304 c305 c306 c307 c308 c309 c310 c311 c312 c313 c314 c315 c316 c317 c318 c319 c320 c321 c322 c323 c324 c325 c326 c327 c328 c329 c330 c331 c332 c333 c334 c335 c336 c337 c338 c339 c340 c341 c342 c343 c344 c345 c346 c347 c348 c349 c350 c351 c352 c353 c354 c355 c356 c357 c358 c359 c360 c361 c362 c363 c364 c365 c366 c367 c368 c369 c370 c371 c372 c373 c374 c375 c376 c377 c378 c379 c380 c381 c382 c383 c384 c385 c386 c387 c388 c389 c390 c391 c392 c393 c394 c395 c396 c397 c398 c399 : Value} {Q : Exit → Act → World → Prop} (A : Ad) (W0 W : World) (B pB cp n c33 : Nat) (a33 : Option Addr) (cs : List Nat) (hp : Row W pB A.k (fun q => A.pri q)) (lp : pB < B) (k6 : A.k ≤ 6) (h4 : ∀ i, A.pri i < 4) (hcs : ∀ i ∈ cs, i < A.k) (hn6 : n ≤ 6) {f0 : Nat → Nat} (hb0 : Bij cs n f0) (h0 : Sd B W0 a33 n f0 W)
    (hQ : ∀ (u35 : Value) (u36 : Value) (u37 : Value) (u320 : Value) (u321 : Value) (u322 : Value) (u323 : Value) (u324 : Value) (u325 : Value) (u326 : Value) (u327 : Value) (u328 : Value) (u329 : Value) (u330 : Value) (u331 : Value) (u332 : Value) (u333 : Value) (u334 : Value) (u335 : Value) (u336 : Value) (u337 : Value) (u338 : Value) (u339 : Value) (u340 : Value) (u341 : Value) (u342 : Value) (u343 : Value) (u344 : Value) (u345 : Value) (u346 : Value) (u347 : Value) (u348 : Value) (u349 : Value) (u350 : Value) (u351 : Value) (u352 : Value) (u353 : Value) (u354 : Value) (u355 : Value) (u356 : Value) (u357 : Value) (u358 : Value) (u359 : Value) (u360 : Value) (wx : World), (∃ f, Bij cs n f ∧ Ord A.pri f n ∧ Sd B W0 a33 n f wx) → Q .normal ⟨#[c0, c1, c2, c3, c4, c5, c6, c7, c8, (.slice (some ⟨pB, 0, none⟩) A.k cp), c10, c11, c12, c13, c14, c15, c16, c17, c18, c19, c20, undef, c22, c23, c24, c25, c26, c27, c28, undef, c30, undef, c32, (.slice a33 n c33), c34, u35, u36, u37, c38, c39, undef, undef, undef, undef, undef, undef, undef, undef, undef, undef, c50, c51, c52, c53, c54, c55, c56, c57, c58, c59, c60, c61, c62, c63, c64, c65, c66, c67, c68, c69, c70, c71, c72, c73, c74, c75, c76, c77, c78, c79, c80, c81, c82, c83, c84, c85, c86, c87, c88, c89, c90, c91, c92, c93, c94, c95, c96, c97, c98, c99, c100, c101, c102, c103, c104, c105, c106, c107, c108, c109, c110, c111, c112, c113, c114, c115, c116, c117, c118, c119, c120, c121, c122, c123, c124, c125, c126, c127, c128, c129, c130, c131, c132, c133, c134, c135, c136, c137, c138, c139, c140, c141, c142, c143, c144, c145, c146, c147, c148, c149, c150, c151, c152, c153, c154, c155, c156, c157, c158, c159, c160, c161, c162, c163, c164, c165, c166, c167, c168, c169, c170, c171, c172, c173, c174, c175, c176, c177, c178, c179, c180, c181, c182, c183, c184, c185, c186, c187, c188, c189, c190, c191, c192, c193, c194, c195, c196, c197, c198, c199, c200, c201, c202, c203, c204, c205, c206, c207, c208, c209, c210, c211, c212, c213, c214, c215, c216, c217, c218, c219, c220, c221, c222, c223, c224, c225, c226, c227, c228, c229, c230, c231, c232, c233, c234, c235, c236, c237, c238, c239, c240, c241, c242, c243, c244, c245, c246, c247, c248, c249, c250, c251, c252, c253, c254, c255, c256, c257, c258, c259, c260, c261, c262, c263, c264, c265, c266, c267, c268, c269, c270, c271, c272, c273, c274, c275, c276, c277, c278, c279, c280, c281, c282, c283, c284, c285, c286, c287, c288, c289, c290, c291, c292, c293, c294, c295, c296, c297, c298, c299, c300, c301, c302, c303, c304, c305, c306, c307, c308, c309, c310, c311, c312, c313, c314, c315, c316, c317, c318, c319, u320, u321, u322, u323, u324, u325, u326, u327, u328, u329, u330, u331, u332, u333, u334, u335, u336, u337, u338, u339, u340, u341, u342, u343, u344, u345, u346, u347, u348, u349, u350, u351, u352, u353, u354, u355, u356, u357, u358, u359, u360, c361, c362, c363, c364, c365, c366, c367, c368, c369, c370, c371, c372, c373, c374, c375, c376, c377, c378, c379, c380, c381, c382, c383, c384, c385, c386, c387, c388, c389, c390, c391, c392, c393, c394, c395, c396, c397, c398, c399, undef, undef, undef, undef, undef, undef, undef, undef, undef, undef, undef, undef, undef, undef, undef, undef, undef, undef, undef, undef, undef, undef, undef, undef, undef, undef, undef, undef, undef, undef, undef, undef, undef, undef, undef, undef, undef, undef, undef, undef, undef, undef, undef, undef, undef, undef, undef, undef, undef, undef, undef, undef, undef, undef, undef, undef, undef, undef, undef, undef, undef, undef, undef, undef, undef, undef, undef, undef, undef, undef, undef, undef, undef, undef, undef, undef, undef, undef, undef, undef, undef, undef, undef, undef, undef, undef, undef, undef, undef, undef, undef, undef, undef, undef, undef, undef, undef, undef, undef, undef, undef, undef, undef, undef, undef, undef, undef, undef, undef, undef, undef, undef, undef, undef, undef, undef, undef, undef, undef, undef, undef, undef, undef, undef, undef, undef, undef, undef, undef, undef, undef, undef, undef, undef, undef, undef, undef, undef, undef, undef, undef, undef, undef, undef, undef, undef, undef, undef, undef, undef, undef, undef, undef, undef, undef, undef, undef, undef, undef, undef], []⟩ wx) :
    (sub 3).wp Yba.prog Q ⟨#[c0, c1, c2, c3, c4, c5, c6, c7, c8, (.slice (some ⟨pB, 0, none⟩) A.k cp), c10, c11, c12, c13, c14, c15, c16, c17, c18, c19, c20, undef, c22, c23, c24, c25, c26, c27, c28, undef, c30, undef, c32, (.slice a33 n c33), c34, c35, c36, c37, c38, c39, undef, undef, undef, undef, undef, undef, undef, undef, undef, undef, c50, c51, c52, c53, c54, c55, c56, c57, c58, c59, c60, c61, c62, c63, c64, c65, c66, c67, c68, c69, c70, c71, c72, c73, c74, c75, c76, c77, c78, c79, c80, c81, c82, c83, c84, c85, c86, c87, c88, c89, c90, c91, c92, c93, c94, c95, c96, c97, c98, c99, c100, c101, c102, c103, c104, c105, c106, c107, c108, c109, c110, c111, c112, c113, c114, c115, c116, c117, c118, c119, c120, c121, c122, c123, c124, c125, c126, c127, c128, c129, c130, c131, c132, c133, c134, c135, c136, c137, c138, c139, c140, c141, c142, c143, c144, c145, c146, c147, c148, c149, c150, c151, c152, c153, c154, c155, c156, c157, c158, c159, c160, c161, c162, c163, c164, c165, c166, c167, c168, c169, c170, c171, c172, c173, c174, c175, c176, c177, c178, c179, c180, c181, c182, c183, c184, c185, c186, c187, c188, c189, c190, c191, c192, c193, c194, c195, c196, c197, c198, c199, c200, c201, c202, c203, c204, c205, c206, c207, c208, c209, c210, c211, c212, c213, c214, c215, c216, c217, c218, c219, c220, c221, c222, c223, c224, c225, c226, c227, c228, c229, c230, c231, c232, c233, c234, c235, c236, c237, c238, c239, c240, c241, c242, c243, c244, c245, c246, c247, c248, c249, c250, c251, c252, c253, c254, c255, c256, c257, c258, c259, c260, c261, c262, c263, c264, c265, c266, c267, c268, c269, c270, c271, c272, c273, c274, c275, c276, c277, c278, c279, c280, c281, c282, c283, c284, c285, c286, c287, c288, c289, c290, c291, c292, c293, c294, c295, c296, c297, c298, c299, c300, c301, c302, c303, c304, c305, c306, c307, c308, c309, c310, c311, c312, c313, c314, c315, c316, c317, c318, c319, c320, c321, c322, c323, c324, c325, c326, c327, c328, c329, c330, c331, c332, c333, c334, c335, c336, c337, c338, c339, c340, c341, c342, c343, c344, c345, c346, c347, c348, c349, c350, c351, c352, c353, c354, c355, c356, c357, c358, c359, c360, c361, c362, c363, c364, c365, c366, c367, c368, c369, c370, c371, c372, c373, c374, c375, c376, c377, c378, c379, c380, c381, c382, c383, c384, c385, c386, c387, c388, c389, c390, c391, c392, c393, c394, c395, c396, c397, c398, c399, undef, undef, undef, undef, undef, undef, undef, undef, undef, undef, undef, undef, undef, undef, undef, undef, undef, undef, undef, undef, undef, undef, undef, undef, undef, undef, undef, undef, undef, undef, undef, undef, undef, undef, undef, undef, undef, undef, undef, undef, undef, undef, undef, undef, undef, undef, undef, undef, undef, undef, undef, undef, undef, undef, undef, undef, undef, undef, undef, undef, undef, undef, undef, undef, undef, undef, undef, undef, undef, undef, undef, undef, undef, undef, undef, undef, undef, undef, undef, undef, undef, undef, undef, undef, undef, undef, undef, undef, undef, undef, undef, undef, undef, undef, undef, undef, undef, undef, undef, undef, undef, undef, undef, undef, undef, undef, undef, undef, undef, undef, undef, undef, undef, undef, undef, undef, undef, undef, undef, undef, undef, undef, undef, undef, undef, undef, undef, undef, undef, undef, undef, undef, undef, undef, undef, undef, undef, undef, undef, undef, undef, undef, undef, undef, undef, undef, undef, undef, undef, undef, undef, undef, undef, undef, undef, undef, undef, undef, undef, undef], []⟩ W := by
  conv => arg 2; whnf
  have pc : ∀ wx, Below B W0 wx → ∀ i, i < A.k → wx.cell? ⟨pB, i, none⟩ = some (.int .i64 (A.pri i : Nat)) := fun wx hb i hi => by
    have e1 := (hb.cell (p := ⟨pB, i, none⟩) lp)
    have e2 := (h0.bel.cell (p := ⟨pB, i, none⟩) lp)
    rw [e1, ← e2]; exact hp.cell hi
  have HF := hide (And.intro pc (And.intro h4 (And.intro hcs (And.intro hb0 h0))))
  clear pc h4 hcs hb0 h0 hp
  go_wp2
  go_loopw [35] (fun iv wx => ∃ (a : Nat) (f : Nat → Nat), 1 ≤ a ∧ (a ≤ n ∨ a = 1) ∧ iv = .int .i64 a ∧ Bij cs n f ∧ Ord A.pri f a ∧ Sd B W0 a33 n f wx) (fun iv _ => n - (intOf iv).toNat)
  case atStart => exact ⟨1, f0, Nat.le_refl _, .inr rfl, rfl, (unhide HF).2.2.2.1, fun p q h1 h2 => absurd h1 (by omega), (unhide HF).2.2.2.2⟩
  case round =>
    obtain ⟨a, f, ha1, han, rfl, hb, ho, hs⟩ := hrel
    have HS := hide (And.intro hb (And.intro ho hs))
    clear hb ho hs
    by_cases hlt : a < n
    · rename World => wz
      obtain ⟨bk, rfl, _⟩ := (unhide HS).2.2.at_ (by omega)
      go_wp2
      go_loopw [36] (fun iv wx => ∃ (b : Nat) (g : Nat → Nat), b ≤ a ∧ iv = .int .i64 b ∧ Bij cs n g ∧ Ins A.pri g a b ∧ Sd B W0 (some ⟨bk, 0, none⟩) n g wx) (fun iv _ => (intOf iv).toNat)
      case atStart => exact ⟨a, f, Nat.le_refl _, rfl, (unhide HS).1, (unhide HS).2.1.ins, (unhide HS).2.2⟩
      case round =>
        obtain ⟨b, g, hba, rfl, hbj, hin, hsd⟩ := hrel
        cases b with
        | zero =>
          have HR := hide (And.intro hbj (And.intro hin.done0 hsd))
          clear hbj hin hsd
          go_wp2
          go_quiet (fail)
          go_wp2
          obtain ⟨r1, r2, r3⟩ := unhide HR
          exact ⟨⟨a + 1, g, by omega, .inl (by omega), by go_num, r1, r2, r3.drewN _⟩, by simp [intOf]; omega⟩
        | succ b =>
          obtain ⟨pc, h4, hcs, _⟩ := unhide HF
          obtain ⟨b', e, hB, hr⟩ := hsd.at_ (by omega)
          cases e
          have g1 := hr.cell (q := b + 1) (by omega)
          have g0 := hr.cell (q := b) (by omega)
          have m1 := hcs _ (hbj.mem (b + 1) (by omega))
          have m0 := hcs _ (hbj.mem b (by omega))
          have haf := fun w hc => zzafter_any (g (b + 1)) (g b) A.k pB cp A.pri h4 k6 m1 m0 w hc
          have hpw := fun m => pc (wr.drewN m) (below_drewN hsd.bel m)
          by_cases hrk : rk A.pri (g b) < rk A.pri (g (b + 1))
          · have haf' : ∀ m, Calls Yba.prog 8 #[.int .i64 (g (b + 1) : Nat), .int .i64 (g b : Nat), .slice (some ⟨pB, 0, none⟩) A.k cp] (wr.drewN m) fun e w' => e = .returned (.bool true) ∧ ∃ n, w' = (wr.drewN m).drewN n := fun m => by
              have := haf (wr.drewN m) (hpw m)
              rw [decide_eq_true hrk] at this; exact this
            have gf := hr.frozen (b + 1)
            have s0 : ∀ m, ((wr.drewN m).setCell ⟨bk, b + 1, none⟩ (.int .i64 (g b : Nat))).cell? ⟨bk, b, none⟩ = some (.int .i64 (g b : Nat)) := fun m => by
              have hrm : Row (wr.drewN m) bk n (fun q => (g q : Nat)) := hr.of_block rfl
              have := (hrm.set (b + 1) (g b : Nat)).cell (q := b) (by omega)
              rw [updF_other _ _ (by omega)] at this; exact this
            have s0f : ∀ m, ((wr.drewN m).setCell ⟨bk, b + 1, none⟩ (.int .i64 (g b : Nat))).frozen? ⟨bk, b, none⟩ = false := fun m => by
              have hrm : Row (wr.drewN m) bk n (fun q => (g q : Nat)) := hr.of_block rfl
              exact (hrm.set (b + 1) (g b : Nat)).frozen b
            have HR := hide (And.intro hbj (And.intro hin (And.intro hsd (And.intro hrk hba))))
            clear hbj hin hsd haf hpw pc h4 hcs hrk hB m1 m0
            go_wp2
            go_quiet (first | (go_at_call 8; exact Calls.quiet_of (haf' _)))
            go_upto_region 79 with fail
            have t0 := s0 nq
            have t1 := s0f nq
            clear s0 s0f hr haf'
            go_wp2
            obtain ⟨r1, r2, r3, r4, r5⟩ := unhide HR
            refine ⟨⟨b, swp g b, by omega, by go_num, r1.swap (by omega), r2.step r5 r4, (r3.drewN nq).swap (by omega)⟩, by simp [intOf]⟩
          · have haf' : ∀ m, Calls Yba.prog 8 #[.int .i64 (g (b + 1) : Nat), .int .i64 (g b : Nat), .slice (some ⟨pB, 0, none⟩) A.k cp] (wr.drewN m) fun e w' => e = .returned (.bool false) ∧ ∃ n, w' = (wr.drewN m).drewN n := fun m => by
              have := haf (wr.drewN m) (hpw m)
              rw [decide_eq_false hrk] at this; exact this
            have HR := hide (And.intro hbj (And.intro (hin.done hbj (fun i hi => by have := hcs i hi; omega) hba hlt hrk) hsd))
            clear hbj hin hsd haf hpw pc h4 hcs hrk hB m1 m0 hr
            go_wp2
            go_quiet (first | (go_at_call 8; exact Calls.quiet_of (haf' _)))
            go_wp2
            obtain ⟨r1, r2, r3⟩ := unhide HR
            exact ⟨⟨a + 1, g, by omega, .inl (by omega), by go_num, r1, r2, r3.drewN _⟩, by simp [intOf]; omega⟩
    · obtain ⟨h1, h2, h3⟩ := unhide HS
      have hO : Ord A.pri f n := fun p q hp hq => h2 p q hp (by omega)
      have HR := hide (And.intro h1 (And.intro hO h3))
      clear h1 h2 h3 hO
      go_wp2
      exact ⟨f, unhide HR⟩


end Go.Proofs.Ybulkaibe
