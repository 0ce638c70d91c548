/-
  THE FIFTH LOOP: the best node.
-/
import Derived.Test.YbulkaibeMod
namespace Go.Proofs.Ybulkaibe
open Go.RowKit Go.WideMaps Go.Maps Kit
open Go.ChangeMaps (setBlock heap_setBlock_other)

/-- The list's numbers, as they lie. -/
structure Ixs (w : World) (a : Option Addr) (n : Nat) (idx : List Nat) : Prop where
  len : idx.length = n
  n1 : n ≤ 1024
  lt : ∀ j ∈ idx, j < 3
  at_ : 0 < n → ∃ b, a = some ⟨b, 0, none⟩ ∧ ∀ i, i < n → w.cell? ⟨b, i, none⟩ = some (.int .i64 (idx.getD i 0 : Nat))
theorem Ixs.get {w : World} {a : Option Addr} {n : Nat} {idx : List Nat} (h : Ixs w a n idx) {i : Nat} (hi : i < n) : idx.getD i 0 < 3 ∧ idx.drop i = idx.getD i 0 :: idx.drop (i + 1) := by
  have hl : i < idx.length := by rw [h.len]; exact hi
  have e : idx.getD i 0 = idx[i] := by rw [List.getD, List.getElem?_eq_getElem hl]; rfl
  rw [e]
  exact ⟨h.lt _ (List.getElem_mem hl), List.drop_eq_getElem_cons hl⟩
theorem Ixs.below {w w' : World} {a : Option Addr} {n : Nat} {idx : List Nat} (h : Ixs w a n idx) (hB : Below w.heap.size w w') : Ixs w' a n idx :=
  ⟨h.len, h.n1, h.lt, fun hn => by obtain ⟨b, e, hc⟩ := h.at_ hn; exact ⟨b, e, fun i hi => (hB.cell (p := ⟨b, i, none⟩) (cell_lt (hc i hi))).trans (hc i hi)⟩⟩

set_option maxRecDepth 100000 in
set_option maxHeartbeats 4000000 in
theorem stm25_ok {c0 c2 c3 c4 c6 c7 c8 c9 c11 c12 c13 c16 c17 c18 c19 c22 c23 c24 c25 c26 c27 c50 c51 c52 c53 c54 c55 c56 c57 c58 c59 c60 c61 c62 c63 c64 c65 c66 c67 c68 c69 c70 c71 c72 c73 c74 c75 c76 c77 c78 c79 c80 c81 c82 c83 c84 c85 c86 c87 c88 c89 c90 c91 c92 c93 c94 c95 c96 c97 c98 c99 c100 c101 c102 c103 c104 c105 c106 c107 c108 c109 c110 c111 c112 c113 c114 c115 c116 c117 c118 c119 c120 c121 c122 c123 c124 c125 c126 c127 c128 c129 c130 c131 c132 c133 c134 c135 c136 c137 c138 c139 c140 c141 c142 c143 c144 c145 c146 c147 c148 c149 c150 c151 c152 c153 c154 c155 c156 c157 c158 c159 c160 c161 c162 c163 c164 c165 c166 c167 c168 c169 c170 c171 c172 c173 c174 c175 c176 c177 c178 c179 c180 c181 c182 c183 c184 c185 c186 c187 c188 c189 c190 c191 c192 c193 c194 c195 c196 c197 c198 c199 c200 c201 c202 c203 c204 c205 c206 c207 c208 c209 c210 c211 c212 c213 c214 c215 c216 c217 c218 c219 c220 c221 c222 c223 c224 c225 c226 c227 c228 c229 c230 c231 c232 c233 c234 c235 c236 c237 c238 c239 c240 c241 c242 c243 c244 c245 c246 c247 c248 c249 c250 : Value} {Q : Exit → Act → World → Prop} (A : Ad) (W : World) (zB wB rB cB t cw l ci : Nat) (ai : Option Addr) (idx : List Nat) (room cnt : Nat → Int) (mn : Bool)
    (hz : W.cell? ⟨zB, 24, none⟩ = some (.bool mn)) (hw : Row W wB A.k (fun q => A.wt q)) (hr : Row W rB 3 room) (hc : Row W cB 3 cnt) (hi : Ixs W ai l idx) (ht : t < A.k) (h4 : A.wt t ≤ 4)
    (hrm : ∀ j, j < 3 → -1000 ≤ room j ∧ room j ≤ 1000) (hct : ∀ j, j < 3 → -1000 ≤ cnt j ∧ cnt j ≤ 1000)
    (hQ : ∀ (u28 : Value) (u30 : Value) (u251 : Value) (u252 : Value) (u253 : Value) (u254 : Value) (u255 : Value) (u256 : Value) (u257 : Value) (u258 : Value) (u259 : Value) (u260 : Value) (u261 : Value) (u262 : Value) (u263 : Value) (u264 : Value) (u265 : Value) (u266 : Value) (u267 : Value) (u268 : Value) (u269 : Value) (u270 : Value) (u271 : Value) (u272 : Value) (u273 : Value) (u274 : Value) (u275 : Value) (u276 : Value) (u277 : Value) (u278 : Value) (u279 : Value) (u280 : Value) (u281 : Value) (u282 : Value) (wx : World), u28 = .int .i64 (locI (pickM mn (fitsB A room t) cnt none idx)) ∧ Below W.heap.size W wx → Q .normal ⟨#[c0, (ptr zB), c2, c3, c4, (.int .i64 (t : Nat)), c6, c7, c8, c9, (.slice (some ⟨wB, 0, none⟩) A.k cw), c11, c12, c13, (ptr rB), (ptr cB), c16, c17, c18, c19, (.slice ai l ci), undef, c22, c23, c24, c25, c26, c27, u28, undef, u30, undef, undef, undef, undef, undef, undef, undef, undef, undef, undef, undef, undef, undef, undef, undef, undef, undef, undef, undef, c50, c51, c52, c53, c54, c55, c56, c57, c58, c59, c60, c61, c62, c63, c64, c65, c66, c67, c68, c69, c70, c71, c72, c73, c74, c75, c76, c77, c78, c79, c80, c81, c82, c83, c84, c85, c86, c87, c88, c89, c90, c91, c92, c93, c94, c95, c96, c97, c98, c99, c100, c101, c102, c103, c104, c105, c106, c107, c108, c109, c110, c111, c112, c113, c114, c115, c116, c117, c118, c119, c120, c121, c122, c123, c124, c125, c126, c127, c128, c129, c130, c131, c132, c133, c134, c135, c136, c137, c138, c139, c140, c141, c142, c143, c144, c145, c146, c147, c148, c149, c150, c151, c152, c153, c154, c155, c156, c157, c158, c159, c160, c161, c162, c163, c164, c165, c166, c167, c168, c169, c170, c171, c172, c173, c174, c175, c176, c177, c178, c179, c180, c181, c182, c183, c184, c185, c186, c187, c188, c189, c190, c191, c192, c193, c194, c195, c196, c197, c198, c199, c200, c201, c202, c203, c204, c205, c206, c207, c208, c209, c210, c211, c212, c213, c214, c215, c216, c217, c218, c219, c220, c221, c222, c223, c224, c225, c226, c227, c228, c229, c230, c231, c232, c233, c234, c235, c236, c237, c238, c239, c240, c241, c242, c243, c244, c245, c246, c247, c248, c249, c250, u251, u252, u253, u254, u255, u256, u257, u258, u259, u260, u261, u262, u263, u264, u265, u266, u267, u268, u269, u270, u271, u272, u273, u274, u275, u276, u277, u278, u279, u280, u281, u282, undef, undef, undef, undef, undef, undef, undef, undef, undef, undef, undef, undef, undef, undef, undef, undef, undef, undef, undef, undef, undef, undef, undef, undef, undef, undef, undef, undef, undef, undef, undef, undef, undef, undef, undef, undef, undef, undef, undef, undef, undef, undef, undef, undef, undef, undef, undef, undef, undef, undef, undef, undef, undef, undef, undef, undef, undef, undef, undef, undef, undef, undef, undef, undef, undef, undef, undef, undef, undef, undef, undef, undef, undef, undef, undef, undef, undef, undef, undef, undef, undef, undef, undef, undef, undef, undef, undef, undef, undef, undef, undef, undef, undef, undef, undef, undef, undef, undef, undef, undef, undef, undef, undef, undef, undef, undef, undef, undef, undef, undef, undef, undef, undef, undef, undef, undef, undef, undef, undef, undef, undef, undef, undef, undef, undef, undef, undef, undef, undef, undef, undef, undef, undef, undef, undef, undef, undef, undef, undef, undef, undef, undef, undef, undef, undef, undef, undef, undef, undef, undef, undef, undef, undef, undef, undef, undef, undef, undef, undef, undef, undef, undef, undef, undef, undef, undef, undef, undef, undef, undef, undef, undef, undef, undef, undef, undef, undef, undef, undef, undef, undef, undef, undef, undef, undef, undef, undef, undef, undef, undef, undef, undef, undef, undef, undef, undef, undef, undef, undef, undef, undef, undef, undef, undef, undef, undef, undef, undef, undef, undef, undef, undef, undef, undef, undef, undef, undef, undef, undef, undef, undef, undef, undef, undef, undef, undef, undef, undef, undef, undef, undef, undef, undef, undef, undef, undef, undef, undef, undef, undef, undef, undef, undef, undef, undef, undef, undef, undef, undef, undef, undef, undef, undef, undef, undef, undef, undef, undef, undef, undef, undef, undef, undef, undef, undef, undef, undef, undef, undef, undef, undef, undef, undef, undef, undef, undef, undef], []⟩ wx) :
    (stm 25).wp Yba.prog Q ⟨#[c0, (ptr zB), c2, c3, c4, (.int .i64 (t : Nat)), c6, c7, c8, c9, (.slice (some ⟨wB, 0, none⟩) A.k cw), c11, c12, c13, (ptr rB), (ptr cB), c16, c17, c18, c19, (.slice ai l ci), undef, c22, c23, c24, c25, c26, c27, (.int .i64 (-1)), undef, undef, undef, undef, undef, undef, undef, undef, undef, undef, undef, undef, undef, undef, undef, undef, undef, undef, undef, undef, undef, c50, c51, c52, c53, c54, c55, c56, c57, c58, c59, c60, c61, c62, c63, c64, c65, c66, c67, c68, c69, c70, c71, c72, c73, c74, c75, c76, c77, c78, c79, c80, c81, c82, c83, c84, c85, c86, c87, c88, c89, c90, c91, c92, c93, c94, c95, c96, c97, c98, c99, c100, c101, c102, c103, c104, c105, c106, c107, c108, c109, c110, c111, c112, c113, c114, c115, c116, c117, c118, c119, c120, c121, c122, c123, c124, c125, c126, c127, c128, c129, c130, c131, c132, c133, c134, c135, c136, c137, c138, c139, c140, c141, c142, c143, c144, c145, c146, c147, c148, c149, c150, c151, c152, c153, c154, c155, c156, c157, c158, c159, c160, c161, c162, c163, c164, c165, c166, c167, c168, c169, c170, c171, c172, c173, c174, c175, c176, c177, c178, c179, c180, c181, c182, c183, c184, c185, c186, c187, c188, c189, c190, c191, c192, c193, c194, c195, c196, c197, c198, c199, c200, c201, c202, c203, c204, c205, c206, c207, c208, c209, c210, c211, c212, c213, c214, c215, c216, c217, c218, c219, c220, c221, c222, c223, c224, c225, c226, c227, c228, c229, c230, c231, c232, c233, c234, c235, c236, c237, c238, c239, c240, c241, c242, c243, c244, c245, c246, c247, c248, c249, c250, undef, undef, undef, undef, undef, undef, undef, undef, undef, undef, undef, undef, undef, undef, undef, undef, undef, undef, undef, undef, undef, undef, undef, undef, undef, undef, undef, undef, undef, undef, undef, undef, undef, undef, undef, undef, undef, undef, undef, undef, undef, undef, undef, undef, undef, undef, undef, undef, undef, undef, undef, undef, undef, undef, undef, undef, undef, undef, undef, undef, undef, undef, undef, undef, undef, undef, undef, undef, undef, undef, undef, undef, undef, undef, undef, undef, undef, undef, undef, undef, undef, undef, undef, undef, undef, undef, undef, undef, undef, undef, undef, undef, undef, undef, undef, undef, undef, undef, undef, undef, undef, undef, undef, undef, undef, undef, undef, undef, undef, undef, undef, undef, undef, undef, undef, undef, undef, undef, undef, undef, undef, undef, undef, undef, undef, undef, undef, undef, undef, undef, undef, undef, undef, undef, undef, undef, undef, undef, undef, undef, undef, undef, undef, undef, undef, undef, undef, undef, undef, undef, undef, undef, undef, undef, undef, undef, undef, undef, undef, undef, undef, undef, undef, undef, undef, undef, undef, undef, undef, undef, undef, undef, undef, undef, undef, undef, undef, undef, undef, undef, undef, undef, undef, undef, undef, undef, undef, undef, undef, undef, undef, undef, undef, undef, undef, undef, undef, undef, undef, undef, undef, undef, undef, undef, undef, undef, undef, undef, undef, undef, undef, undef, undef, undef, undef, undef, undef, undef, undef, undef, undef, undef, undef, undef, undef, undef, undef, undef, undef, undef, undef, undef, undef, undef, undef, undef, undef, undef, undef, undef, undef, undef, undef, undef, undef, undef, undef, undef, undef, undef, undef, undef, undef, undef, undef, undef, undef, undef, undef, undef, undef, undef, undef, undef, undef, undef, undef, undef, undef, undef, undef, undef, undef, undef, undef, undef, undef, undef, undef, undef, undef, undef, undef, undef, undef, undef, undef, undef, undef, undef, undef, undef, undef, undef, undef, undef, undef, undef, undef, undef, undef, undef, undef, undef, undef, undef, undef, undef, undef], []⟩ W := by
  conv => arg 2; whnf
  have hn1 := hi.n1
  have hwt : W.cell? ⟨wB, t, none⟩ = some (.int .i64 (A.wt t : Nat)) := hw.cell ht
  have HF := hide (And.intro hz (And.intro hwt (And.intro hr (And.intro hc (And.intro hi (And.intro hrm hct))))))
  clear hz hw hwt hr hc hi hrm hct
  go_wp2
  go_loopw [28, 253] (fun bv iv wx => ∃ (m : Nat) (b : Option Nat), m ≤ l ∧ iv = .int .i64 m ∧ bv = .int .i64 (locI b) ∧ (∀ q, b = some q → q < 3) ∧ pickM mn (fitsB A room t) cnt b (idx.drop m) = pickM mn (fitsB A room t) cnt none idx ∧ Below W.heap.size W wx) (fun _ iv _ => l - (intOf iv).toNat)
  case atStart => exact ⟨0, none, Nat.zero_le _, rfl, rfl, by simp, rfl, Below.refl _ _⟩
  case round =>
    obtain ⟨m, b, hm, rfl, rfl, hb3, hpk, hbx⟩ := hrel
    have HP := hide hpk
    have HB := hide hbx
    clear hpk hbx
    by_cases hml : m < l
    · obtain ⟨hz, hwt, hr, hc, hi, hrm, hct⟩ := unhide HF
      have hbx := unhide HB
      obtain ⟨ib, rfl, hx⟩ := hi.at_ (by omega)
      have q0 := (hbx.cell (p := ⟨ib, m, none⟩) (cell_lt (hx m hml))).trans (hx m hml)
      obtain ⟨hj3, hdr⟩ := hi.get hml
      obtain ⟨j, hj⟩ : ∃ j, j = idx.getD m 0 := ⟨_, rfl⟩
      rw [← hj] at q0 hj3 hdr
      have e := unhide HP
      rw [hdr] at e
      have HPK := hide e
      have rj := (hbx.cell (p := ⟨rB, j, none⟩) hr.lt).trans (hr.cell hj3)
      have cj := (hbx.cell (p := ⟨cB, j, none⟩) hc.lt).trans (hc.cell hj3)
      have wt := (hbx.cell (p := ⟨wB, t, none⟩) (cell_lt hwt)).trans hwt
      have zm := (hbx.cell (p := ⟨zB, 24, none⟩) (cell_lt hz)).trans hz
      have rmj := hrm j hj3
      have cb : ∀ q, b = some q → wr.cell? ⟨cB, q, none⟩ = some (.int .i64 (cnt q)) := fun q hq => (hbx.cell (p := ⟨cB, q, none⟩) hc.lt).trans (hc.cell (hb3 q hq))
      have hwr : IntKind.i64.wrap (room j - (A.wt t : Nat)) = room j - (A.wt t : Nat) := wrap_mid (by omega) (by omega)
      clear e hdr hj hx hr hc hz hwt hi hrm hct hbx HP
      have fbe : fitsB A room t j = decide (0 ≤ room j - A.wt t) := rfl
      by_cases hneg : room j - (A.wt t : Nat) < 0
      · have HFB := hide (fbe.trans (decide_eq_false (by omega)))
        clear fbe
        go_wp2
        go_quiet (fail)
        go_wp2
        refine ⟨⟨m + 1, b, by omega, by go_num, rfl, hb3, ?_, below_drewN (unhide HB) _⟩, by simp [intOf]; omega⟩
        rw [← unhide HPK, pickM_skip (unhide HFB)]
      · have HFB := hide (fbe.trans (decide_eq_true (by omega)))
        clear fbe
        cases mn with
        | false =>
          go_wp2
          go_quiet (fail)
          go_wp2
          refine ⟨?_, below_drewN (unhide HB) _⟩
          have e := unhide HPK
          rw [pickM_conf (unhide HFB)] at e
          rw [← e]; rfl
        | true =>
          cases b with
          | none =>
            rw [show locI none = -1 from rfl]
            go_wp2
            go_quiet (fail)
            go_wp2
            go_quiet (fail)
            go_wp2
            refine ⟨⟨m + 1, some j, by omega, by go_num, rfl, fun q hq => by cases hq; exact hj3, ?_, below_drewN (unhide HB) _⟩, by simp [intOf]; omega⟩
            rw [← unhide HPK, pickM_first (unhide HFB)]
          | some q =>
            have cq := cb q rfl
            have q3 := hb3 q rfl
            have hq0 : decide ((q : Int) < 0) = false := by simp
            rw [show locI (some q) = (q : Int) from rfl]
            by_cases hlt : cnt j < cnt q
            · have hd : decide (cnt j < cnt q) = true := decide_eq_true hlt
              have HLT := hide hlt
              clear hlt
              go_wp2
              go_quiet (fail)
              go_wp2
              go_quiet (fail)
              go_wp2
              refine ⟨⟨m + 1, some j, by omega, by go_num, rfl, fun q hq => by cases hq; exact hj3, ?_, below_drewN (unhide HB) _⟩, by simp [intOf]; omega⟩
              rw [← unhide HPK, pickM_less (unhide HFB) (unhide HLT)]
            · have hd : decide (cnt j < cnt q) = false := decide_eq_false hlt
              have HLT := hide hlt
              clear hlt
              go_wp2
              go_quiet (fail)
              go_wp2
              go_quiet (fail)
              go_wp2
              refine ⟨⟨m + 1, some q, by omega, by go_num, rfl, fun q' hq => by cases hq; exact q3, ?_, below_drewN (unhide HB) _⟩, by simp [intOf]; omega⟩
              rw [← unhide HPK, pickM_keep (unhide HFB) (Int.not_lt.2 (unhide HLT))]
    · have hme : m = l := by omega
      have hl := (unhide HF).2.2.2.2.1.len
      have e := unhide HP
      rw [hme, List.drop_of_length_le (by rw [hl]; exact Nat.le_refl _)] at e
      have HE := hide e
      clear e hl
      go_wp2
      refine ⟨?_, unhide HB⟩
      rw [← unhide HE]; rfl


end Go.Proofs.Ybulkaibe
