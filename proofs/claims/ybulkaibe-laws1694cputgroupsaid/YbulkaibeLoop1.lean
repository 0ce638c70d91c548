/-
  THE FIRST LOOP: the nodes are laid.
-/
import Derived.Test.YbulkaibeMod
namespace Go.Proofs.Ybulkaibe
open Go.RowKit Go.WideMaps Go.Maps Kit
open Go.ChangeMaps (setBlock heap_setBlock_other)

theorem Yba.info48 : (Yba.prog.info? 48).map (fun i => (i.zero, i.size, i.bytes)) = some (some (.agg #[.string ByteArray.empty, .int .u64 0, .int .u64 0, .pointer none, .map none, .int .i64 0]), 6, 56) := by kernel_rfl
theorem cell_six (w : World) (j m : Nat) (t : TypeId) : ∀ q u, (nodeCells j m)[q]? = some u → (w.alloc (.cells #[.string (nnm j), .int .u64 0, .int .u64 0, .pointer none, .map (some m), .int .i64 0] t)).cell? ((⟨w.heap.size, 0, none⟩ : Addr).add q) = some u := by
  intro q u h
  have e : (⟨w.heap.size, 0, none⟩ : Addr).add q = ⟨w.heap.size, q, none⟩ := by unfold Addr.add; split <;> simp_all
  rw [e]
  refine cell_of_blk (blk_new w _) ?_
  rw [← h]
  match q with
  | 0 => rfl
  | 1 => rfl
  | 2 => rfl
  | 3 => rfl
  | 4 => rfl
  | 5 => rfl
  | n + 6 => rfl

set_option maxRecDepth 100000 in
set_option maxHeartbeats 4000000 in
theorem stm6_ok {c0 c2 c4 c5 c50 c51 c52 c53 c54 c55 c56 c57 c58 c59 c60 c61 c62 c63 c64 c65 c66 : Value} {Q : Exit → Act → World → Prop} (hP : ∀ c a a' w, Q (.panic c) a w → Q (.panic c) a' w) (W : World) (zB nB cc : Nat) {Z : Array Value} {P Wt H C : Nat → Nat} {sel : Value} {mn : Bool} (hZ : Zs Z P Wt H C sel mn) (hz : W.heap[zB]? = some (.cells Z 26 (0, 0))) (hn : W.heap[nB]? = some (.cells namesC 27 (0, 0))) (oz : zB ≠ cc) (on : nB ≠ cc) (hC : ∀ i, C i < 256) (h0 : Nd W cc C 0 W)
    (hQ : ∀ (u7 : Value) (u67 : Value) (u68 : Value) (u69 : Value) (u70 : Value) (u71 : Value) (u72 : Value) (u73 : Value) (u74 : Value) (u75 : Value) (u76 : Value) (u77 : Value) (u78 : Value) (u79 : Value) (u80 : Value) (u81 : Value) (u82 : Value) (u83 : Value) (u84 : Value) (u85 : Value) (u86 : Value) (u87 : Value) (u88 : Value) (u89 : Value) (u90 : Value) (wx : World), Nd W cc C 3 wx → Q .normal ⟨#[c0, (ptr zB), c2, (ptr nB), c4, c5, (ptr cc), u7, undef, undef, undef, undef, undef, undef, undef, undef, undef, undef, undef, undef, undef, undef, undef, undef, undef, undef, undef, undef, undef, undef, undef, undef, undef, undef, undef, undef, undef, undef, undef, undef, undef, undef, undef, undef, undef, undef, undef, undef, undef, undef, c50, c51, c52, c53, c54, c55, c56, c57, c58, c59, c60, c61, c62, c63, c64, c65, c66, u67, u68, u69, u70, u71, u72, u73, u74, u75, u76, u77, u78, u79, u80, u81, u82, u83, u84, u85, u86, u87, u88, u89, u90, undef, undef, undef, undef, undef, undef, undef, undef, undef, undef, undef, undef, undef, undef, undef, undef, undef, undef, undef, undef, undef, undef, undef, undef, undef, undef, undef, undef, undef, undef, undef, undef, undef, undef, undef, undef, undef, undef, undef, undef, undef, undef, undef, undef, undef, undef, undef, undef, undef, undef, undef, undef, undef, undef, undef, undef, undef, undef, undef, undef, undef, undef, undef, undef, undef, undef, undef, undef, undef, undef, undef, undef, undef, undef, undef, undef, undef, undef, undef, undef, undef, undef, undef, undef, undef, undef, undef, undef, undef, undef, undef, undef, undef, undef, undef, undef, undef, undef, undef, undef, undef, undef, undef, undef, undef, undef, undef, undef, undef, undef, undef, undef, undef, undef, undef, undef, undef, undef, undef, undef, undef, undef, undef, undef, undef, undef, undef, undef, undef, undef, undef, undef, undef, undef, undef, undef, undef, undef, undef, undef, undef, undef, undef, undef, undef, undef, undef, undef, undef, undef, undef, undef, undef, undef, undef, undef, undef, undef, undef, undef, undef, undef, undef, undef, undef, undef, undef, undef, undef, undef, undef, undef, undef, undef, undef, undef, undef, undef, undef, undef, undef, undef, undef, undef, undef, undef, undef, undef, undef, undef, undef, undef, undef, undef, undef, undef, undef, undef, undef, undef, undef, undef, undef, undef, undef, undef, undef, undef, undef, undef, undef, undef, undef, undef, undef, undef, undef, undef, undef, undef, undef, undef, undef, undef, undef, undef, undef, undef, undef, undef, undef, undef, undef, undef, undef, undef, undef, undef, undef, undef, undef, undef, undef, undef, undef, undef, undef, undef, undef, undef, undef, undef, undef, undef, undef, undef, undef, undef, undef, undef, undef, undef, undef, undef, undef, undef, undef, undef, undef, undef, undef, undef, undef, undef, undef, undef, undef, undef, undef, undef, undef, undef, undef, undef, undef, undef, undef, undef, undef, undef, undef, undef, undef, undef, undef, undef, undef, undef, undef, undef, undef, undef, undef, undef, undef, undef, undef, undef, undef, undef, undef, undef, undef, undef, undef, undef, undef, undef, undef, undef, undef, undef, undef, undef, undef, undef, undef, undef, undef, undef, undef, undef, undef, undef, undef, undef, undef, undef, undef, undef, undef, undef, undef, undef, undef, undef, undef, undef, undef, undef, undef, undef, undef, undef, undef, undef, undef, undef, undef, undef, undef, undef, undef, undef, undef, undef, undef, undef, undef, undef, undef, undef, undef, undef, undef, undef, undef, undef, undef, undef, undef, undef, undef, undef, undef, undef, undef, undef, undef, undef, undef, undef, undef, undef, undef, undef, undef, undef, undef, undef, undef, undef, undef, undef, undef, undef, undef, undef, undef, undef, undef, undef, undef, undef, undef, undef, undef, undef, undef, undef, undef, undef, undef, undef, undef, undef, undef, undef, undef, undef, undef, undef, undef, undef, undef, undef, undef, undef, undef, undef, undef, undef, undef, undef, undef, undef, undef, undef, undef, undef, undef, undef, undef, undef, undef, undef, undef, undef, undef, undef, undef, undef, undef, undef, undef, undef, undef, undef, undef], []⟩ wx) :
    (stm 6).wp Yba.prog Q ⟨#[c0, (ptr zB), c2, (ptr nB), c4, c5, (ptr cc), undef, undef, undef, undef, undef, undef, undef, undef, undef, undef, undef, undef, undef, undef, undef, undef, undef, undef, undef, undef, undef, undef, undef, undef, undef, undef, undef, undef, undef, undef, undef, undef, undef, undef, undef, undef, undef, undef, undef, undef, undef, undef, undef, c50, c51, c52, c53, c54, c55, c56, c57, c58, c59, c60, c61, c62, c63, c64, c65, c66, undef, undef, undef, undef, undef, undef, undef, undef, undef, undef, undef, undef, undef, undef, undef, undef, undef, undef, undef, undef, undef, undef, undef, undef, undef, undef, undef, undef, undef, undef, undef, undef, undef, undef, undef, undef, undef, undef, undef, undef, undef, undef, undef, undef, undef, undef, undef, undef, undef, undef, undef, undef, undef, undef, undef, undef, undef, undef, undef, undef, undef, undef, undef, undef, undef, undef, undef, undef, undef, undef, undef, undef, undef, undef, undef, undef, undef, undef, undef, undef, undef, undef, undef, undef, undef, undef, undef, undef, undef, undef, undef, undef, undef, undef, undef, undef, undef, undef, undef, undef, undef, undef, undef, undef, undef, undef, undef, undef, undef, undef, undef, undef, undef, undef, undef, undef, undef, undef, undef, undef, undef, undef, undef, undef, undef, undef, undef, undef, undef, undef, undef, undef, undef, undef, undef, undef, undef, undef, undef, undef, undef, undef, undef, undef, undef, undef, undef, undef, undef, undef, undef, undef, undef, undef, undef, undef, undef, undef, undef, undef, undef, undef, undef, undef, undef, undef, undef, undef, undef, undef, undef, undef, undef, undef, undef, undef, undef, undef, undef, undef, undef, undef, undef, undef, undef, undef, undef, undef, undef, undef, undef, undef, undef, undef, undef, undef, undef, undef, undef, undef, undef, undef, undef, undef, undef, undef, undef, undef, undef, undef, undef, undef, undef, undef, undef, undef, undef, undef, undef, undef, undef, undef, undef, undef, undef, undef, undef, undef, undef, undef, undef, undef, undef, undef, undef, undef, undef, undef, undef, undef, undef, undef, undef, undef, undef, undef, undef, undef, undef, undef, undef, undef, undef, undef, undef, undef, undef, undef, undef, undef, undef, undef, undef, undef, undef, undef, undef, undef, undef, undef, undef, undef, undef, undef, undef, undef, undef, undef, undef, undef, undef, undef, undef, undef, undef, undef, undef, undef, undef, undef, undef, undef, undef, undef, undef, undef, undef, undef, undef, undef, undef, undef, undef, undef, undef, undef, undef, undef, undef, undef, undef, undef, undef, undef, undef, undef, undef, undef, undef, undef, undef, undef, undef, undef, undef, undef, undef, undef, undef, undef, undef, undef, undef, undef, undef, undef, undef, undef, undef, undef, undef, undef, undef, undef, undef, undef, undef, undef, undef, undef, undef, undef, undef, undef, undef, undef, undef, undef, undef, undef, undef, undef, undef, undef, undef, undef, undef, undef, undef, undef, undef, undef, undef, undef, undef, undef, undef, undef, undef, undef, undef, undef, undef, undef, undef, undef, undef, undef, undef, undef, undef, undef, undef, undef, undef, undef, undef, undef, undef, undef, undef, undef, undef, undef, undef, undef, undef, undef, undef, undef, undef, undef, undef, undef, undef, undef, undef, undef, undef, undef, undef, undef, undef, undef, undef, undef, undef, undef, undef, undef, undef, undef, undef, undef, undef, undef, undef, undef, undef, undef, undef, undef, undef, undef, undef, undef, undef, undef, undef, undef, undef, undef, undef, undef, undef, undef, undef, undef, undef, undef, undef, undef, undef, undef, undef, undef, undef, undef, undef, undef, undef, undef, undef, undef, undef, undef, undef, undef, undef, undef, undef, undef, undef, undef, undef, undef, undef, undef, undef, undef, undef, undef, undef], []⟩ W := by
  conv => arg 2; whnf
  have hmm := @run_makeMap Yba.prog
  obtain ⟨i8, hi8, hx0, hx1, hx2⟩ := info_parts Yba.info48
  have HF := hide (And.intro hZ (And.intro hz (And.intro hn (And.intro oz (And.intro on h0)))))
  clear hZ hz hn oz on h0
  go_wp2
  go_loopw [7] (fun iv wx => ∃ i : Nat, i ≤ 3 ∧ iv = .int .i64 i ∧ Nd W cc C i wx) (fun iv _ => 3 - (intOf iv).toNat)
  case atStart => exact ⟨0, Nat.zero_le _, rfl, (unhide HF).2.2.2.2.2⟩
  case round =>
    obtain ⟨i, hi, rfl, hN⟩ := hrel
    by_cases hi3 : i < 3
    · obtain ⟨hZ, hz, hn, oz, on, _⟩ := unhide HF
      obtain ⟨an, cn, cb, xs, nc, nrow, nx⟩ := hN.ex
      have hud := hN.ud
      have hzx := hud.size
      have c10 : wr.cell? ⟨cc, 10, none⟩ = some (.slice an i cn) := cell_of_blk nc (i := 10) rfl
      have cz : wr.cell? ⟨zB, 18 + i, none⟩ = some (.int .u8 (C i : Nat)) := (hud.cell (p := ⟨zB, 18 + i, none⟩) (blk_lt hz) (by simpa using oz)).trans (cell_of_blk hz (hZ.cap i hi3))
      have cnm : wr.cell? ⟨nB, i, none⟩ = some (.string (nnm i)) := (hud.cell (p := ⟨nB, i, none⟩) (blk_lt hn) (by simpa using on)).trans (cell_of_blk hn (namesC_at hi3))
      have bm : Below wr.heap.size wr (wr.alloc (.map #[] 0)).drew := ((Below.refl _ _).alloc (Nat.le_refl _) _).drew
      have mnew : (wr.alloc (.map #[] 0)).drew.heap[wr.heap.size]? = some (.map #[] 0) := blk_new _ _
      obtain ⟨W2, hW2⟩ : ∃ W2, W2 = setBlock (wr.alloc (.map #[] 0)).drew wr.heap.size (oneMap (C i)) := ⟨_, rfl⟩
      have hins := insert_new mnew (C i)
      rw [← hW2] at hins
      have W2m : W2.heap[wr.heap.size]? = some (oneMap (C i)) := by rw [hW2]; exact sb_same (blk_lt mnew) _
      have W2b : Below wr.heap.size wr W2 := by
        rw [hW2]
        exact bm.trans ⟨rfl, rfl, rfl, by rw [sb_size]; exact Nat.le_refl _, fun k hk => sb_other _ (by omega)⟩
      have W2s : W2.heap.size = wr.heap.size + 1 := by rw [hW2, sb_size]; show (wr.alloc _).heap.size = _; simp
      have row2 : W2.ownsRow W.heap.size 48 6 (.slice an i cn) i xs := own_of_block nrow (fun k hk => W2b.block k (nrow.lt k hk).2)
      have hCi := hC i
      have hwrC : IntKind.i64.wrap ((C i : Nat) : Int) = ((C i : Nat) : Int) := wrap_mid (by omega) (by omega)
      have k1 : wr.drew.cell? ⟨cc, 10, none⟩ = some (.slice an i cn) := c10
      have k2 : wr.drew.cell? ⟨zB, 18 + i, none⟩ = some (.int .u8 (C i : Nat)) := cz
      have k3 : wr.drew.cell? ⟨nB, i, none⟩ = some (.string (nnm i)) := cnm
      have m1 := cell_alloc_drew (.map #[] 0) c10
      have m2 := cell_alloc_drew (.map #[] 0) cz
      have m3 := cell_alloc_drew (.map #[] 0) cnm
      have n1 := (W2b.cell (p := ⟨cc, 10, none⟩) (cell_lt c10)).trans c10
      have n2 := (W2b.cell (p := ⟨zB, 18 + i, none⟩) (cell_lt cz)).trans cz
      have n3 := (W2b.cell (p := ⟨nB, i, none⟩) (cell_lt cnm)).trans cnm
      have p1 := cell_alloc (.cells #[.string (nnm i), .int .u64 0, .int .u64 0, .pointer none, .map (some wr.heap.size), .int .i64 0] 48) n1
      have p2 := cell_alloc (.cells #[.string (nnm i), .int .u64 0, .int .u64 0, .pointer none, .map (some wr.heap.size), .int .i64 0] 48) n2
      have p3 := cell_alloc (.cells #[.string (nnm i), .int .u64 0, .int .u64 0, .pointer none, .map (some wr.heap.size), .int .i64 0] 48) n3
      have hmk : (Instr.makeMap 41 none).run Yba.prog wr.drew = .ok (.map (some wr.heap.size)) (wr.alloc (.map #[] 0)).drew := hmm 41 wr.drew
      have HN := hide (And.intro hN (And.intro nc (And.intro nrow (And.intro nx (And.intro W2m (And.intro W2b (And.intro hZ (And.intro hz (And.intro hn (And.intro oz on))))))))))
      clear hN nc nrow nx W2m W2b hW2 bm mnew hud hmm hZ hz hn oz on
      go_wp2
      refine wp_region_pop (fun W => W.cell? ⟨cc, 10, none⟩ = some (.slice an i cn) ∧ W.cell? ⟨zB, 18 + i, none⟩ = some (.int .u8 (C i : Nat)) ∧ W.cell? ⟨nB, i, none⟩ = some (.string (nnm i))) (by kernel_rfl) rfl (by kernel_rfl) ?_
      refine wpAnyH_take (i := 0) (v := ptr cc) rfl (by kernel_rfl) (by kernel_rfl) (by kernel_rfl) (fun c _ w h => hP c _ _ w h) (.inl ⟨rfl, fun _ _ => by go_simp⟩) ⟨k1, k2, k3⟩ ?_
      refine wpAnyH_take (i := 1) (v := ptr cc) rfl (by kernel_rfl) (by kernel_rfl) (by kernel_rfl) (fun c _ w h => hP c _ _ w h) (.inl ⟨rfl, fun _ _ => by go_simp⟩) ⟨k1, k2, k3⟩ ?_
      refine wpAnyH_take (i := 2) (v := ptr cc) rfl (by kernel_rfl) (by kernel_rfl) (by kernel_rfl) (fun c _ w h => hP c _ _ w h) (.inl ⟨rfl, fun _ _ => by go_simp⟩) ⟨k1, k2, k3⟩ ?_
      refine wpAnyH_take (i := 3) (v := .pointer (some ⟨cc, 10, none⟩)) rfl (by kernel_rfl) (by kernel_rfl) (by kernel_rfl) (fun c _ w h => hP c _ _ w h) (.inl ⟨rfl, fun _ _ => by go_simp⟩) ⟨k1, k2, k3⟩ ?_
      refine wpAnyH_take (i := 4) (v := .slice an i cn) rfl (by kernel_rfl) (by kernel_rfl) (by kernel_rfl) (fun c _ w h => hP c _ _ w h) (.inl ⟨rfl, fun _ hS => by obtain ⟨s1, s2, s3⟩ := hS; go_simp⟩) ⟨k1, k2, k3⟩ ?_
      refine wpAnyH_take (i := 5) (v := .int .i64 i) rfl (by kernel_rfl) (by kernel_rfl) (by kernel_rfl) (fun c _ w h => hP c _ _ w h) (.inl ⟨rfl, fun _ _ => by go_simp⟩) ⟨k1, k2, k3⟩ ?_
      refine wpAnyH_take (i := 6) (v := .pointer (some ⟨nB, i, none⟩)) rfl (by kernel_rfl) (by kernel_rfl) (by kernel_rfl) (fun c _ w h => hP c _ _ w h) (.inl ⟨rfl, fun _ _ => by go_simp⟩) ⟨k1, k2, k3⟩ ?_
      refine wpAnyH_take (i := 7) (v := .string (nnm i)) rfl (by kernel_rfl) (by kernel_rfl) (by kernel_rfl) (fun c _ w h => hP c _ _ w h) (.inl ⟨rfl, fun _ hS => by obtain ⟨s1, s2, s3⟩ := hS; go_simp⟩) ⟨k1, k2, k3⟩ ?_
      refine wpAnyH_take (i := 9) (v := .int .i64 i) rfl (by kernel_rfl) (by kernel_rfl) (by kernel_rfl) (fun c _ w h => hP c _ _ w h) (.inl ⟨rfl, fun _ _ => by go_simp⟩) ⟨k1, k2, k3⟩ ?_
      refine wpAnyH_take (i := 10) (v := .pointer (some ⟨zB, 18, none⟩)) rfl (by kernel_rfl) (by kernel_rfl) (by kernel_rfl) (fun c _ w h => hP c _ _ w h) (.inl ⟨rfl, fun _ _ => by go_simp⟩) ⟨k1, k2, k3⟩ ?_
      refine wpAnyH_take (i := 11) (v := .pointer (some ⟨zB, 18 + i, none⟩)) rfl (by kernel_rfl) (by kernel_rfl) (by kernel_rfl) (fun c _ w h => hP c _ _ w h) (.inl ⟨rfl, fun _ _ => by go_simp⟩) ⟨k1, k2, k3⟩ ?_
      refine wpAnyH_take (i := 12) (v := .int .u8 (C i : Nat)) rfl (by kernel_rfl) (by kernel_rfl) (by kernel_rfl) (fun c _ w h => hP c _ _ w h) (.inl ⟨rfl, fun _ hS => by obtain ⟨s1, s2, s3⟩ := hS; go_simp⟩) ⟨k1, k2, k3⟩ ?_
      refine wpAnyH_take (i := 13) (v := .int .i64 (C i : Nat)) rfl (by kernel_rfl) (by kernel_rfl) (by kernel_rfl) (fun c _ w h => hP c _ _ w h) (.inl ⟨rfl, fun _ _ => by go_simp⟩) ⟨k1, k2, k3⟩ ?_
      refine wpAnyH_ready (rs := [8]) (by kernel_rfl) (by simp) ?_
      refine AllReadyH.cons rfl (fun K hK => ?_) AllReadyH.nil
      go_simp
      refine hK.out _ _ ⟨m1, m2, m3⟩ (fun _ => ?_)
      clear hK K
      refine wpAnyH_ready (rs := [14]) (by kernel_rfl) (by simp) ?_
      refine AllReadyH.cons rfl (fun K hK => ?_) AllReadyH.nil
      go_simp
      refine hK.out _ _ ⟨n1, n2, n3⟩ (fun _ => ?_)
      clear hK K
      refine wpAnyH_take (i := 15) (v := .map (some wr.heap.size)) rfl (by kernel_rfl) (by kernel_rfl) (by kernel_rfl) (fun c _ w h => hP c _ _ w h) (.inl ⟨rfl, fun _ _ => by go_simp⟩) ⟨n1, n2, n3⟩ ?_
      refine wpAnyH_take (i := 16) (v := .agg #[.string (nnm i), .int .u64 0, .int .u64 0, .pointer none, .map (some wr.heap.size), .int .i64 0]) rfl (by kernel_rfl) (by kernel_rfl) (by kernel_rfl) (fun c _ w h => hP c _ _ w h) (.inl ⟨rfl, fun _ _ => by go_simp⟩) ⟨n1, n2, n3⟩ ?_
      refine wpAnyH_ready (rs := [17]) (by kernel_rfl) (by simp) ?_
      refine AllReadyH.cons rfl (fun K hK => ?_) AllReadyH.nil
      go_simp
      refine hK.out _ _ ⟨p1, p2, p3⟩ (fun _ => ?_)
      clear hK K
      refine wpAnyH_ready (rs := [18]) (by kernel_rfl) (by simp) ?_
      refine AllReadyH.cons rfl (fun K hK => ?_) AllReadyH.nil
      refine step_append_g rfl _ _ 42 rfl W.heap.size 48 i8 _ 6 56 Yba.underlying42 hi8 hx0 hx1 hx2 rfl (by decide) _ _ _ rfl (row2.alloc _) ⟨wr.heap.size + 1, 0, none⟩ 1 1 (nodeCells i wr.heap.size) rfl rfl (by have := cell_six W2 i wr.heap.size 48; rw [W2s] at this; exact this) (by simp [Value.oneCell']) (by unfold maxLen; omega) (by omega) (by simp; omega) ?_
      intro v3 w3 hown3 hgrow3 hat3
      obtain ⟨a3, c3, rfl⟩ := own_slice hown3
      obtain ⟨hN, nc, nrow, nx, W2m, W2b, hZ, hz, hn, oz, on⟩ := unhide HN
      obtain ⟨g1, g2⟩ := hN.push nc nrow nx W2b W2m (Nat.le_refl _) hown3 hgrow3
      have s1 : w3.cell? ⟨cc, 10, none⟩ = some (.slice an i cn) := cell_of_blk g1 (i := 10) rfl
      have s1f := frozen_of_blk g1 10
      have old : ∀ {b o : Nat} {v : Value}, b < W.heap.size → W2.cell? ⟨b, o, none⟩ = some v → w3.cell? ⟨b, o, none⟩ = some v := fun {b o v} hb hv => by
        rw [World.cell?_of_block (w := W2) ((hgrow3.block b (by have := cell_lt hv; simp; omega) (fun e => by have := (nrow.lt b e.symm).1; omega)).trans (blk_old _ _ (cell_lt hv)))]; exact hv
      have s2 := old (b := zB) (blk_lt hz) n2
      have s3 := old (b := nB) (blk_lt hn) n3
      have HG := hide g2
      clear g2 g1 hN nc nrow nx W2m W2b hown3 hgrow3 hat3 old hZ hz hn oz on
      refine hK.out _ _ ⟨s1, s2, s3⟩ (fun _ => ?_)
      clear hK K
      refine wpAnyH_take (i := 19) (v := ptr cc) rfl (by kernel_rfl) (by kernel_rfl) (by kernel_rfl) (fun c _ w h => hP c _ _ w h) (.inl ⟨rfl, fun _ _ => by go_simp⟩) ⟨s1, s2, s3⟩ ?_
      refine wpAnyH_take (i := 20) (v := .pointer (some ⟨cc, 10, none⟩)) rfl (by kernel_rfl) (by kernel_rfl) (by kernel_rfl) (fun c _ w h => hP c _ _ w h) (.inl ⟨rfl, fun _ _ => by go_simp⟩) ⟨s1, s2, s3⟩ ?_
      refine wpAnyH_done (by kernel_rfl) ?_ _
      refine before_normal ?_
      refine wpOp_step rfl (fun K hK => ?_)
      go_simp
      refine hK _ _ ?_
      clear hK K
      go_wp2
      refine ⟨⟨i + 1, by omega, by go_num, unhide HG⟩, by simp [intOf]; omega⟩
    · have hie : i = 3 := by omega
      subst hie
      have H3 := hide hN
      clear hN
      go_wp2
      exact unhide H3


end Go.Proofs.Ybulkaibe
