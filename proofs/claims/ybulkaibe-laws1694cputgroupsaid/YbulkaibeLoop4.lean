/-
  THE FOURTH LOOP: the nodes' names, and their numbers.
-/
import Derived.Test.YbulkaibeLoop5
import Derived.Test.YbulkaibeSub
namespace Go.Proofs.Ybulkaibe
open Go.RowKit Go.WideMaps Go.Maps Kit
open Go.ChangeMaps (setBlock heap_setBlock_other)

theorem Yba.info9 : (Yba.prog.info? 9).map (fun i => (i.zero, i.size, i.bytes)) = some (some (.string ByteArray.empty), 1, 16) := by kernel_rfl
abbrev nmV (q : Nat) : Value := .string (nnm q)

/-- The first i of the list's nodes are laid. -/
structure Nx (W : World) (B : Nat) (idx : List Nat) (sv iv : Value) (wx : World) : Prop where
  s : wx.ownsRow B 9 1 sv idx.length (idx.map nmV)
  i : wx.ownsRow B 3 1 iv idx.length (idx.map intV)
  bel : Below B W wx
  ge : B ≤ wx.heap.size

theorem Nx.pushS {W wx w2 : World} {B q : Nat} {idx : List Nat} {sv iv sv2 : Value} {o : Obj} (h : Nx W B idx sv iv wx) (hown : w2.ownsRow B 9 1 sv2 (idx.length + 1) (idx.map nmV ++ [nmV q])) (hg : (wx.alloc o).grownBy w2 sv.ownBlock) :
    w2.ownsRow B 9 1 sv2 (idx.length + 1) (idx.map nmV ++ [nmV q]) ∧ w2.ownsRow B 3 1 iv idx.length (idx.map intV) ∧ Below B W w2 ∧ B ≤ w2.heap.size := by
  have hz := hg.size
  simp only [World.size_alloc] at hz
  have := h.ge
  refine ⟨hown, own_of_block h.i (fun g hg' => ?_), h.bel.trans ⟨hg.os, hg.tape, hg.output, by omega, fun k hk => (hg.block k (by simp; omega) (fun e => by have := (h.s.lt k e.symm).1; omega)).trans (blk_old _ _ (by omega))⟩, by omega⟩
  have hlt := (h.i.lt g hg').2
  rw [hg.block g (by simp; omega) (own_apart h.i h.s (by decide) hg'), blk_old _ _ hlt]
theorem Nx.pushI {W w2 w3 : World} {B q : Nat} {idx : List Nat} {iv sv2 iv2 : Value} {o : Obj} (hs : w2.ownsRow B 9 1 sv2 (idx.length + 1) (idx.map nmV ++ [nmV q])) (hi : w2.ownsRow B 3 1 iv idx.length (idx.map intV)) (hb : Below B W w2) (hge : B ≤ w2.heap.size)
    (hown : w3.ownsRow B 3 1 iv2 (idx.length + 1) (idx.map intV ++ [intV q])) (hg : (w2.alloc o).grownBy w3 iv.ownBlock) : Nx W B (idx ++ [q]) sv2 iv2 w3 := by
  have hz := hg.size
  simp only [World.size_alloc] at hz
  refine ⟨?_, ?_, hb.trans ⟨hg.os, hg.tape, hg.output, by omega, fun k hk => (hg.block k (by simp; omega) (fun e => by have := (hi.lt k e.symm).1; omega)).trans (blk_old _ _ (by omega))⟩, by omega⟩
  · rw [List.length_append, List.map_append]
    refine own_of_block hs (fun g hg' => ?_)
    have hlt := (hs.lt g hg').2
    rw [hg.block g (by simp; omega) (own_apart hs hi (by decide) hg'), blk_old _ _ hlt]
  · rw [List.length_append, List.map_append]; exact hown
theorem Nx.ixs {W wx : World} {B n c c' : Nat} {idx : List Nat} {a a' : Option Addr} {n' : Nat} (h : Nx W B idx (.slice a n c) (.slice a' n' c') wx) (hl : idx.length ≤ 1024) (h3 : ∀ j ∈ idx, j < 3) : n = idx.length ∧ n' = idx.length ∧ Nds wx a n idx ∧ Ixs wx a' n' idx := by
  obtain ⟨_, _, e1⟩ := own_slice h.s
  obtain ⟨_, _, e2⟩ := own_slice h.i
  cases e1
  cases e2
  have gd : ∀ i, i < idx.length → idx[i]? = some (idx.getD i 0) := fun i hi => by rw [List.getD, List.getElem?_eq_getElem hi]; rfl
  refine ⟨rfl, rfl, ⟨rfl, hl, h3, fun hn => ?_⟩, ⟨rfl, hl, h3, fun hn => ?_⟩⟩
  · obtain ⟨b, e, _, _, hc⟩ := own_at0 h.s hn
    exact ⟨b, e, fun i hi => hc i _ (by rw [List.getElem?_map, gd i hi]; rfl)⟩
  · obtain ⟨b, e, _, _, hc⟩ := own_at0 h.i hn
    exact ⟨b, e, fun i hi => hc i _ (by rw [List.getElem?_map, gd i hi]; rfl)⟩

set_option maxRecDepth 100000 in
set_option maxHeartbeats 4000000 in
theorem stm19_ok {c0 c2 c4 c5 c6 c7 c8 c9 c10 c11 c12 c13 c14 c15 c16 c17 c18 c50 c51 c52 c53 c54 c55 c56 c57 c58 c59 c60 c61 c62 c63 c64 c65 c66 c67 c68 c69 c70 c71 c72 c73 c74 c75 c76 c77 c78 c79 c80 c81 c82 c83 c84 c85 c86 c87 c88 c89 c90 c91 c92 c93 c94 c95 c96 c97 c98 c99 c100 c101 c102 c103 c104 c105 c106 c107 c108 c109 c110 c111 c112 c113 c114 c115 c116 c117 c118 c119 c120 c121 c122 c123 c124 c125 c126 c127 c128 c129 c130 c131 c132 c133 c134 c135 c136 c137 c138 c139 c140 c141 c142 c143 c144 c145 c146 c147 c148 c149 c150 c151 c152 c153 c154 c155 c156 c157 c158 c159 c160 c161 c162 c163 c164 c165 c166 c167 c168 c169 c170 c171 c172 c173 c174 c175 c176 c177 c178 c179 c180 c181 c182 c183 c184 c185 c186 c187 c188 c189 c190 c191 c192 c193 c194 c195 c196 c197 c198 c199 c200 c201 c202 c203 c204 c205 c206 c207 c208 c209 c210 c211 c212 c213 c214 c215 c216 c217 c218 c219 c220 c221 c222 : Value} {Q : Exit → Act → World → Prop} (W : World) (zB nB sB iB l cS B : Nat) (aS : Option Addr) (S : Nat → Nat) (hz : W.cell? ⟨zB, 21, none⟩ = some (.slice aS l cS)) (hn : ∀ j, j < 3 → W.cell? ⟨nB, j, none⟩ = some (.string (nnm j))) (hl : l ≤ 1024)
    (hS : ∀ q, q < l → ∃ b o, aS = some ⟨b, o, none⟩ ∧ b < B ∧ W.cell? ⟨b, o + q, none⟩ = some (.int .u8 (S q : Nat))) (ln : nB < B) (h0 : Nx W B [] (.slice (some ⟨sB, 0, none⟩) 0 l) (.slice (some ⟨iB, 0, none⟩) 0 l) W)
    (hQ : ∀ (u19 : Value) (u20 : Value) (u22 : Value) (u23 : Value) (u223 : Value) (u224 : Value) (u225 : Value) (u226 : Value) (u227 : Value) (u228 : Value) (u229 : Value) (u230 : Value) (u231 : Value) (u232 : Value) (u233 : Value) (u234 : Value) (u235 : Value) (u236 : Value) (u237 : Value) (u238 : Value) (u239 : Value) (u240 : Value) (u241 : Value) (u242 : Value) (u243 : Value) (wx : World), Nx W B ((List.range l).map (fun q => S q % 3)) u19 u20 wx → Q .normal ⟨#[c0, (ptr zB), c2, (ptr nB), c4, c5, c6, c7, c8, c9, c10, c11, c12, c13, c14, c15, c16, c17, c18, u19, u20, undef, u22, u23, undef, undef, undef, undef, undef, undef, undef, undef, undef, undef, undef, undef, undef, undef, undef, undef, undef, undef, undef, undef, undef, undef, undef, undef, undef, undef, c50, c51, c52, c53, c54, c55, c56, c57, c58, c59, c60, c61, c62, c63, c64, c65, c66, c67, c68, c69, c70, c71, c72, c73, c74, c75, c76, c77, c78, c79, c80, c81, c82, c83, c84, c85, c86, c87, c88, c89, c90, c91, c92, c93, c94, c95, c96, c97, c98, c99, c100, c101, c102, c103, c104, c105, c106, c107, c108, c109, c110, c111, c112, c113, c114, c115, c116, c117, c118, c119, c120, c121, c122, c123, c124, c125, c126, c127, c128, c129, c130, c131, c132, c133, c134, c135, c136, c137, c138, c139, c140, c141, c142, c143, c144, c145, c146, c147, c148, c149, c150, c151, c152, c153, c154, c155, c156, c157, c158, c159, c160, c161, c162, c163, c164, c165, c166, c167, c168, c169, c170, c171, c172, c173, c174, c175, c176, c177, c178, c179, c180, c181, c182, c183, c184, c185, c186, c187, c188, c189, c190, c191, c192, c193, c194, c195, c196, c197, c198, c199, c200, c201, c202, c203, c204, c205, c206, c207, c208, c209, c210, c211, c212, c213, c214, c215, c216, c217, c218, c219, c220, c221, c222, u223, u224, u225, u226, u227, u228, u229, u230, u231, u232, u233, u234, u235, u236, u237, u238, u239, u240, u241, u242, u243, undef, undef, undef, undef, undef, undef, undef, undef, undef, undef, undef, undef, undef, undef, undef, undef, undef, undef, undef, undef, undef, undef, undef, undef, undef, undef, undef, undef, undef, undef, undef, undef, undef, undef, undef, undef, undef, undef, undef, undef, undef, undef, undef, undef, undef, undef, undef, undef, undef, undef, undef, undef, undef, undef, undef, undef, undef, undef, undef, undef, undef, undef, undef, undef, undef, undef, undef, undef, undef, undef, undef, undef, undef, undef, undef, undef, undef, undef, undef, undef, undef, undef, undef, undef, undef, undef, undef, undef, undef, undef, undef, undef, undef, undef, undef, undef, undef, undef, undef, undef, undef, undef, undef, undef, undef, undef, undef, undef, undef, undef, undef, undef, undef, undef, undef, undef, undef, undef, undef, undef, undef, undef, undef, undef, undef, undef, undef, undef, undef, undef, undef, undef, undef, undef, undef, undef, undef, undef, undef, undef, undef, undef, undef, undef, undef, undef, undef, undef, undef, undef, undef, undef, undef, undef, undef, undef, undef, undef, undef, undef, undef, undef, undef, undef, undef, undef, undef, undef, undef, undef, undef, undef, undef, undef, undef, undef, undef, undef, undef, undef, undef, undef, undef, undef, undef, undef, undef, undef, undef, undef, undef, undef, undef, undef, undef, undef, undef, undef, undef, undef, undef, undef, undef, undef, undef, undef, undef, undef, undef, undef, undef, undef, undef, undef, undef, undef, undef, undef, undef, undef, undef, undef, undef, undef, undef, undef, undef, undef, undef, undef, undef, undef, undef, undef, undef, undef, undef, undef, undef, undef, undef, undef, undef, undef, undef, undef, undef, undef, undef, undef, undef, undef, undef, undef, undef, undef, undef, undef, undef, undef, undef, undef, undef, undef, undef, undef, undef, undef, undef, undef, undef, undef, undef, undef, undef, undef, undef, undef, undef, undef, undef, undef, undef, undef, undef, undef, undef, undef, undef, undef, undef, undef, undef, undef, undef, undef, undef, undef, undef, undef, undef, undef, undef, undef, undef, undef, undef, undef, undef, undef, undef, undef, undef, undef, undef, undef], []⟩ wx) :
    (stm 19).wp Yba.prog Q ⟨#[c0, (ptr zB), c2, (ptr nB), c4, c5, c6, c7, c8, c9, c10, c11, c12, c13, c14, c15, c16, c17, c18, (.slice (some ⟨sB, 0, none⟩) 0 l), (.slice (some ⟨iB, 0, none⟩) 0 l), undef, undef, undef, undef, undef, undef, undef, undef, undef, undef, undef, undef, undef, undef, undef, undef, undef, undef, undef, undef, undef, undef, undef, undef, undef, undef, undef, undef, undef, c50, c51, c52, c53, c54, c55, c56, c57, c58, c59, c60, c61, c62, c63, c64, c65, c66, c67, c68, c69, c70, c71, c72, c73, c74, c75, c76, c77, c78, c79, c80, c81, c82, c83, c84, c85, c86, c87, c88, c89, c90, c91, c92, c93, c94, c95, c96, c97, c98, c99, c100, c101, c102, c103, c104, c105, c106, c107, c108, c109, c110, c111, c112, c113, c114, c115, c116, c117, c118, c119, c120, c121, c122, c123, c124, c125, c126, c127, c128, c129, c130, c131, c132, c133, c134, c135, c136, c137, c138, c139, c140, c141, c142, c143, c144, c145, c146, c147, c148, c149, c150, c151, c152, c153, c154, c155, c156, c157, c158, c159, c160, c161, c162, c163, c164, c165, c166, c167, c168, c169, c170, c171, c172, c173, c174, c175, c176, c177, c178, c179, c180, c181, c182, c183, c184, c185, c186, c187, c188, c189, c190, c191, c192, c193, c194, c195, c196, c197, c198, c199, c200, c201, c202, c203, c204, c205, c206, c207, c208, c209, c210, c211, c212, c213, c214, c215, c216, c217, c218, c219, c220, c221, c222, undef, undef, undef, undef, undef, undef, undef, undef, undef, undef, undef, undef, undef, undef, undef, undef, undef, undef, undef, undef, undef, undef, undef, undef, undef, undef, undef, undef, undef, undef, undef, undef, undef, undef, undef, undef, undef, undef, undef, undef, undef, undef, undef, undef, undef, undef, undef, undef, undef, undef, undef, undef, undef, undef, undef, undef, undef, undef, undef, undef, undef, undef, undef, undef, undef, undef, undef, undef, undef, undef, undef, undef, undef, undef, undef, undef, undef, undef, undef, undef, undef, undef, undef, undef, undef, undef, undef, undef, undef, undef, undef, undef, undef, undef, undef, undef, undef, undef, undef, undef, undef, undef, undef, undef, undef, undef, undef, undef, undef, undef, undef, undef, undef, undef, undef, undef, undef, undef, undef, undef, undef, undef, undef, undef, undef, undef, undef, undef, undef, undef, undef, undef, undef, undef, undef, undef, undef, undef, undef, undef, undef, undef, undef, undef, undef, undef, undef, undef, undef, undef, undef, undef, undef, undef, undef, undef, undef, undef, undef, undef, undef, undef, undef, undef, undef, undef, undef, undef, undef, undef, undef, undef, undef, undef, undef, undef, undef, undef, undef, undef, undef, undef, undef, undef, undef, undef, undef, undef, undef, undef, undef, undef, undef, undef, undef, undef, undef, undef, undef, undef, undef, undef, undef, undef, undef, undef, undef, undef, undef, undef, undef, undef, undef, undef, undef, undef, undef, undef, undef, undef, undef, undef, undef, undef, undef, undef, undef, undef, undef, undef, undef, undef, undef, undef, undef, undef, undef, undef, undef, undef, undef, undef, undef, undef, undef, undef, undef, undef, undef, undef, undef, undef, undef, undef, undef, undef, undef, undef, undef, undef, undef, undef, undef, undef, undef, undef, undef, undef, undef, undef, undef, undef, undef, undef, undef, undef, undef, undef, undef, undef, undef, undef, undef, undef, undef, undef, undef, undef, undef, undef, undef, undef, undef, undef, undef, undef, undef, undef, undef, undef, undef, undef, undef, undef, undef, undef, undef, undef, undef, undef, undef, undef, undef, undef, undef, undef, undef, undef, undef, undef, undef, undef, undef, undef, undef, undef, undef, undef, undef, undef, undef, undef, undef, undef, undef, undef, undef], []⟩ W := by
  conv => arg 2; whnf
  obtain ⟨i0, hi0, hz0, hz1, hz2⟩ := info_parts Yba.info3
  obtain ⟨i9, hi9, hy0, hy1, hy2⟩ := info_parts Yba.info9
  have HF := hide (And.intro hS (And.intro hn h0))
  clear hS hn h0
  go_wp2
  go_loopw [19, 20, 226] (fun sv xv iv wx => ∃ i : Nat, i ≤ l ∧ iv = .int .i64 i ∧ Nx W B ((List.range i).map (fun q => S q % 3)) sv xv wx) (fun _ _ iv _ => l - (intOf iv).toNat)
  case atStart => exact ⟨0, Nat.zero_le _, rfl, (unhide HF).2.2⟩
  case round =>
    obtain ⟨i, hi, rfl, hN⟩ := hrel
    by_cases hil : i < l
    · obtain ⟨hS, hn, _⟩ := unhide HF
      obtain ⟨b, o, rfl, hbB, hq⟩ := hS i hil
      have q0 := (hN.bel.cell (p := ⟨b, o + i, none⟩) hbB).trans hq
      have hj3 : S i % 3 < 3 := Nat.mod_lt _ (by omega)
      have n0 := (hN.bel.cell (p := ⟨nB, S i % 3, none⟩) ln).trans (hn _ hj3)
      obtain ⟨a19, c19, e1⟩ := own_slice hN.s
      subst e1
      obtain ⟨a20, c20, e2⟩ := own_slice hN.i
      subst e2
      have hSi : ((S i : Nat) : Int) % 3 = ((S i % 3 : Nat) : Int) := by omega
      have hlen : ((List.range i).map (fun q => S q % 3)).length = i := by simp
      have hsucc : (List.range (i + 1)).map (fun q => S q % 3) = (List.range i).map (fun q => S q % 3) ++ [S i % 3] := by rw [List.range_succ, List.map_append]; rfl
      have HX := hide hsucc
      clear hsucc hS hn hq
      generalize (List.range i).map (fun q => S q % 3) = L at *
      generalize S i % 3 = j at *
      have hjI : (j : Int) < 3 := by omega
      have hrow := hN.s
      have hge := hN.ge
      have hlen6 : L.length ≤ 1024 := by omega
      clear hlen
      have HN := hide hN
      clear hN
      go_wp2_with (at_builtin; refine wpList_append_own_at _ rfl _ _ 54 rfl B 9 i9 (.string ByteArray.empty) 1 16 Yba.underlying54 hi9 hy0 hy1 hy2 rfl (by decide) _ _ _ rfl (hrow.alloc _) ⟨wr.heap.size, 0, none⟩ 1 1 [nmV j] rfl rfl (cell_one_new _ _ _) (by simp [Value.oneCell']) (by unfold maxLen; omega) (by omega) (by simp; omega) ?_)
      intro v2 w2 hown2 hgrow2 _ hat2
      obtain ⟨g1, g2, g3, g4⟩ := (unhide HN).pushS hown2 hgrow2
      have HG := hide (And.intro g1 g3)
      clear hown2 hgrow2 hat2 hrow g1 g3
      go_wp2_with (at_builtin; refine wpList_append_own_at _ rfl _ _ 50 rfl B 3 i0 (.int .i64 0) 1 8 Yba.underlying50 hi0 hz0 hz1 hz2 rfl (by decide) _ _ _ rfl (g2.alloc _) ⟨w2.heap.size, 0, none⟩ 1 1 [intV j] rfl rfl (cell_one_new _ _ _) (by simp [Value.oneCell']) (by unfold maxLen; omega) (by omega) (by simp; omega) ?_)
      intro v3 w3 hown3 hgrow3 _ hat3
      have HR := hide (Nx.pushI (unhide HG).1 g2 (unhide HG).2 g4 hown3 hgrow3)
      clear hown3 hgrow3 hat3 g2 HG
      go_wp2
      refine ⟨⟨i + 1, by omega, by go_num, ?_⟩, by simp [intOf]; omega⟩
      rw [unhide HX]; exact unhide HR
    · have hie : i = l := by omega
      subst hie
      have HN := hide hN
      clear hN
      go_wp2
      exact unhide HN


end Go.Proofs.Ybulkaibe
