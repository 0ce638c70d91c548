/-
  WHAT LawS1680CWaits BUILDS, in plain terms, and what it finds at its end.
-/
import Derived.Test.YbulkahtqFmtSt
namespace Go.Proofs.YbulkahtqFmt
open Go.RowKit Go.WideMaps Go.Maps Kit

/-- The waits as they came in. -/
structure Ins (B : Nat) (w : World) (a : Option Addr) (l : Nat) (P : Nat → Nat) (aT : Nat → Option Addr) (nT cT : Nat → Nat) (tv : Nat → Nat → Nat) : Prop where
  at_ : 0 < l → ∃ b off, a = some ⟨b, off, none⟩ ∧ b < B ∧ ∀ i, i < l → w.cell? ⟨b, off + i * 2, none⟩ = some (.int .u8 (P i : Nat)) ∧ w.cell? ⟨b, off + i * 2 + 1, none⟩ = some (.slice (aT i) (nT i) (cT i)) ∧
    (0 < nT i → ∃ b1 off1, aT i = some ⟨b1, off1, none⟩ ∧ b1 < B ∧ ∀ j, j < nT i → w.cell? ⟨b1, off1 + j, none⟩ = some (.int .u8 (tv i j : Nat)))
  p : ∀ i, P i < 256
  t : ∀ i j, tv i j < 256

/-- The i-th process's name, its targets. -/
def pnOf (P : Nat → Nat) (i : Nat) : ByteArray := nmB (P i % 4)
def tnOf (P nT : Nat → Nat) (tv : Nat → Nat → Nat) (i : Nat) : List ByteArray := dd (pnOf P i) (fun j => nmB (tv i j % 4)) (nT i)

/-- What stands when the first k waits are built. -/
structure Bld (w : World) (P nT : Nat → Nat) (tv : Nat → Nat → Nat) (k : Nat) (v8 v11 v12 : Value) (W : World) : Prop where
  ex : ∃ xs8 la se G, St (w.heap.size + 2) w.heap.size (w.heap.size + 1) 61 62 W k k k v8 v11 v12 xs8 (EK (pnOf P) (tnOf P nT tv) k) (PK (pnOf P) k) la se G ∧
    (∀ j, j < 4 → G (la j) (LK (pnOf P) (tnOf P nT tv) k (nmB j))) ∧ (∀ j, j < 4 → (se j = true ↔ ∃ i, i < k ∧ P i % 4 = j)) ∧
    (∀ i, i < k → ∃ v, G v (tnOf P nT tv i) ∧ xs8[i * 7]? = some (.string (pnOf P i)) ∧ xs8[i * 7 + 1]? = some v ∧ xs8[i * 7 + 2]? = some (.slice none 0 0) ∧ xs8[i * 7 + 3]? = some (.bool true) ∧
      xs8[i * 7 + 4]? = some (.int .i64 ((tnOf P nT tv i).length : Nat)) ∧ xs8[i * 7 + 5]? = some (.string ByteArray.empty) ∧ xs8[i * 7 + 6]? = some (.int .i64 0))
  bel : Below w.heap.size w W

theorem bld_start (w : World) (P nT : Nat → Nat) (tv : Nat → Nat → Nat) : Bld w P nT tv 0 (.slice none 0 0) (.slice none 0 0) (.slice none 0 0) ((w.alloc (.cells #[.slice none 0 0, .slice none 0 0, .slice none 0 0, .slice none 0 0] 61)).alloc (.cells #[.bool false, .bool false, .bool false, .bool false] 62)) := by
  refine ⟨⟨[], fun _ => .slice none 0 0, fun _ => false, fun v xs => v = .slice none 0 0 ∧ xs = [], ⟨World.ownsRow_nil _ _ _ _, World.ownsRow_nil _ _ _ _, World.ownsRow_nil _ _ _ _, ?_, ?_, ?_, by omega, by omega, by omega, by simp⟩, fun j _ => ⟨rfl, rfl⟩, fun j _ => ⟨fun h => (nomatch h), fun ⟨i, hi, _⟩ => absurd hi (by omega)⟩, fun i hi => absurd hi (by omega)⟩, ((Below.refl _ _).alloc (Nat.le_refl _) _).alloc (by simp) _⟩
  · rw [blk_old _ _ (by simp)]; exact blk_new _ _
  · have := blk_new (w.alloc (.cells #[.slice none 0 0, .slice none 0 0, .slice none 0 0, .slice none 0 0] 61)) (.cells #[.bool false, .bool false, .bool false, .bool false] 62)
    simp only [World.size_alloc] at this
    exact this
  · rintro v xs ⟨rfl, rfl⟩
    exact ⟨World.ownsRow_nil _ _ _ _, fun b hb => (nomatch hb)⟩

theorem Bld.vals {w : World} {P nT : Nat → Nat} {tv : Nat → Nat → Nat} {k : Nat} {v8 v11 v12 : Value} {W : World} (h : Bld w P nT tv k v8 v11 v12 W) : ∃ a8 c8 a11 c11 a12 c12, v8 = .slice a8 k c8 ∧ v11 = .slice a11 k c11 ∧ v12 = .slice a12 k c12 := by
  obtain ⟨xs8, la, se, G, hS, _⟩ := h.ex
  obtain ⟨a8, c8, e8⟩ := own_slice hS.own8
  obtain ⟨a11, c11, e11⟩ := own_slice hS.own11
  obtain ⟨a12, c12, e12⟩ := own_slice hS.own12
  exact ⟨a8, c8, a11, c11, a12, c12, e8, e11, e12⟩

theorem LK_none {pn : Nat → ByteArray} {tn : Nat → List ByteArray} {y : ByteArray} : ∀ k, (∀ i, i < k → pn i ≠ y) → LK pn tn k y = []
  | 0, _ => rfl
  | k + 1, h => by
    show updL (LK pn tn k) (pn k) (tn k) y = []
    unfold updL
    rw [if_neg (fun e => h k (by omega) e.symm)]
    exact LK_none k (fun i hi => h i (by omega))

theorem LK_len {pn : Nat → ByteArray} {tn : Nat → List ByteArray} {y : ByteArray} {M : Nat} : ∀ k, (∀ i, i < k → (tn i).length ≤ M) → (LK pn tn k y).length ≤ M
  | 0, _ => Nat.zero_le _
  | k + 1, h => by
    show (updL (LK pn tn k) (pn k) (tn k) y).length ≤ M
    unfold updL
    split
    · exact h k (by omega)
    · exact LK_len k (fun i hi => h i (by omega))

theorem Ybaf.info67 : (Ybaf.prog.info? 67).map (fun i => (i.zero, i.size, i.bytes)) = some (some (.agg #[.string ByteArray.empty, .slice none 0 0, .slice none 0 0, .bool false, .int .i64 0, .string ByteArray.empty, .int .i64 0]), 7, 104) := by kernel_rfl

/-- The cells of one wait. -/
abbrev seven (x : ByteArray) (v : Value) (n : Nat) : List Value := [.string x, v, .slice none 0 0, .bool true, .int .i64 n, .string ByteArray.empty, .int .i64 0]
theorem cell_seven (w : World) (x : ByteArray) (v : Value) (n : Nat) (t : TypeId) : ∀ j u, (seven x v n)[j]? = some u → (w.alloc (.cells #[.string x, v, .slice none 0 0, .bool true, .int .i64 n, .string ByteArray.empty, .int .i64 0] t)).cell? ((⟨w.heap.size, 0, none⟩ : Addr).add j) = some u := by
  intro j u h
  have e : (⟨w.heap.size, 0, none⟩ : Addr).add j = ⟨w.heap.size, j, none⟩ := by unfold Addr.add; split <;> simp_all
  rw [e]
  refine cell_of_blk (blk_new w _) ?_
  rw [← h]
  match j with
  | 0 => rfl
  | 1 => rfl
  | 2 => rfl
  | 3 => rfl
  | 4 => rfl
  | 5 => rfl
  | 6 => rfl
  | n + 7 => rfl

theorem bld_step {w W W' : World} {P nT : Nat → Nat} {tv : Nat → Nat → Nat} {k pj : Nat} {v8 v11 v12 v8' v11' v12' vt : Value} {xs8 : List Value} {la : Nat → Value} {se : Nat → Bool} {G : Value → List ByteArray → Prop} {p : ByteArray} {xs : List ByteArray} {ek : Bool}
    (hpj : pj = P k % 4) (hp : p = nmB pj) (hxs : tnOf P nT tv k = xs) (hek : ek = decide (0 < (LK (pnOf P) (tnOf P nT tv) k p).length))
    (hS0 : St (w.heap.size + 2) w.heap.size (w.heap.size + 1) 61 62 W k k k v8 v11 v12 xs8 (EK (pnOf P) (tnOf P nT tv) k) (PK (pnOf P) k) la se G)
    (hla : ∀ j, j < 4 → G (la j) (LK (pnOf P) (tnOf P nT tv) k (nmB j))) (hse : ∀ j, j < 4 → (se j = true ↔ ∃ i, i < k ∧ P i % 4 = j))
    (h7 : ∀ i, i < k → ∃ v, G v (tnOf P nT tv i) ∧ xs8[i * 7]? = some (.string (pnOf P i)) ∧ xs8[i * 7 + 1]? = some v ∧ xs8[i * 7 + 2]? = some (.slice none 0 0) ∧ xs8[i * 7 + 3]? = some (.bool true) ∧
      xs8[i * 7 + 4]? = some (.int .i64 ((tnOf P nT tv i).length : Nat)) ∧ xs8[i * 7 + 5]? = some (.string ByteArray.empty) ∧ xs8[i * 7 + 6]? = some (.int .i64 0))
    (hS : St (w.heap.size + 2) w.heap.size (w.heap.size + 1) 61 62 W' (k + 1) (k + 1) (k + 1) v8' v11' v12' (xs8 ++ seven p vt xs.length) (EK (pnOf P) (tnOf P nT tv) k ++ [ek]) (PK (pnOf P) k ++ [p]) (updF la pj vt) (updF se pj true) (fun u ys => (u = vt ∧ ys = xs) ∨ G u ys))
    (hb : Below w.heap.size w W') : Bld w P nT tv (k + 1) v8' v11' v12' W' := by
  have hpn : pnOf P k = p := by rw [hp, hpj]; rfl
  have hpj4 : pj < 4 := by omega
  have hlen : xs8.length = k * 7 := hS0.own8.1
  have hup : ∀ y, LK (pnOf P) (tnOf P nT tv) (k + 1) y = if y = p then xs else LK (pnOf P) (tnOf P nT tv) k y := fun y => by
    show updL (LK (pnOf P) (tnOf P nT tv) k) (pnOf P k) (tnOf P nT tv k) y = _
    rw [hpn, hxs]; rfl
  refine ⟨⟨_, _, _, _, by rw [EK_succ, PK_succ, hpn, ← hek]; exact hS, fun j hj => ?_, fun j hj => ?_, fun i hi => ?_⟩, hb⟩
  · rw [hup]
    by_cases hjp : j = pj
    · rw [hjp, updF_same, if_pos hp.symm]; exact .inl ⟨rfl, rfl⟩
    · rw [updF_other _ _ hjp, if_neg (fun e => hjp (nmB_inj hj hpj4 (e.trans hp)))]
      exact .inr (hla j hj)
  · by_cases hjp : j = pj
    · rw [hjp, updF_same]
      exact ⟨fun _ => ⟨k, by omega, hpj.symm⟩, fun _ => rfl⟩
    · rw [updF_other _ _ hjp, hse j hj]
      constructor
      · rintro ⟨i, hi, e⟩; exact ⟨i, by omega, e⟩
      · rintro ⟨i, hi, e⟩
        refine ⟨i, ?_, e⟩
        have : i ≠ k := fun e' => hjp (by rw [hpj, ← e', e])
        omega
  · by_cases hik : i = k
    · subst hik
      have cc : ∀ j, j < 7 → (xs8 ++ seven p vt xs.length)[i * 7 + j]? = (seven p vt xs.length)[j]? := fun j hj => by
        rw [List.getElem?_append_right (by omega)]
        congr 1
        omega
      refine ⟨vt, .inl ⟨rfl, hxs⟩, ?_, cc 1 (by omega), cc 2 (by omega), cc 3 (by omega), ?_, cc 5 (by omega), cc 6 (by omega)⟩
      · rw [hpn]; exact cc 0 (by omega)
      · rw [hxs]; exact cc 4 (by omega)
    · have hlt : i < k := by omega
      obtain ⟨v, g, e0, e1, e2, e3, e4, e5, e6⟩ := h7 i hlt
      have cc : ∀ j, j < 7 → (xs8 ++ seven p vt xs.length)[i * 7 + j]? = xs8[i * 7 + j]? := fun j hj => List.getElem?_append_left (by omega)
      exact ⟨v, .inr g, (cc 0 (by omega)).trans e0, (cc 1 (by omega)).trans e1, (cc 2 (by omega)).trans e2, (cc 3 (by omega)).trans e3, (cc 4 (by omega)).trans e4, (cc 5 (by omega)).trans e5, (cc 6 (by omega)).trans e6⟩

theorem Waits.below {B : Nat} {w w' : World} {a : Option Addr} {l : Nat} {pn : Nat → ByteArray} {tn : Nat → List ByteArray} (h : Waits B w a l pn tn) (hB : Below B w w') : Waits B w' a l pn tn :=
  ⟨fun hl => by
    obtain ⟨b, e, hb, hat⟩ := h.at_ hl
    exact ⟨b, e, hb, fun i hi => (hat i hi).of_blocks hb (fun k hk => hB.block k hk)⟩⟩

theorem own_at0 {w : World} {base e size n c : Nat} {a : Option Addr} {xs : List Value} (h : w.ownsRow base e size (.slice a n c) n xs) (hn : 0 < n) : ∃ b, a = some ⟨b, 0, none⟩ ∧ base ≤ b ∧ b < w.heap.size ∧ ∀ j v, xs[j]? = some v → w.cell? ⟨b, j, none⟩ = some v := by
  rcases h.2 with ⟨_, e⟩ | ⟨gb, cap, cur, e, _⟩
  · omega
  · simp only [Value.slice.injEq] at e
    obtain ⟨rfl, _, rfl⟩ := e
    have hl := h.lt gb rfl
    refine ⟨gb, rfl, hl.1, hl.2, fun j v hj => ?_⟩
    have hjl := (List.getElem?_eq_some_iff.1 hj).1
    rw [h.1] at hjl
    rw [h.cellAt j hjl, hj]

theorem Bld.waits {w : World} {P nT : Nat → Nat} {tv : Nat → Nat → Nat} {l c8 : Nat} {a8 : Option Addr} {v11 v12 : Value} {W : World} (h : Bld w P nT tv l (.slice a8 l c8) v11 v12 W) (hn : ∀ i, i < l → nT i ≤ 1024) : Waits W.heap.size W a8 l (pnOf P) (tnOf P nT tv) := by
  obtain ⟨xs8, la, se, G, hS, hla, hse, h7⟩ := h.ex
  refine ⟨fun hl => ?_⟩
  obtain ⟨b, rfl, _, hb, hc⟩ := own_at0 hS.own8 hl
  refine ⟨b, rfl, hb, fun i hi => ?_⟩
  obtain ⟨v, hg, e0, e1, e2, e3, e4, e5, e6⟩ := h7 i hi
  have hts := (hS.ts v _ hg).1
  obtain ⟨a1, c1, rfl⟩ := own_slice hts
  refine ⟨⟨a1, (tnOf P nT tv i).length, c1, hc _ _ e0, hc _ _ e1, hc _ _ e2, hc _ _ e3, hc _ _ e4, hc _ _ e5, hc _ _ e6, rfl, fun hpos => ?_⟩, nmB_size _, Nat.le_trans (dd_len _ _ _) (hn i hi), dd_nodup _ _ _, dd_all _ _ (fun y => y.size ≤ maxLen) (fun q => nmB_size _) _⟩
  obtain ⟨b1, rfl, _, hb1, hc1⟩ := own_at0 hts hpos
  refine ⟨b1, 0, rfl, hb1, fun j hj => ?_⟩
  rw [Nat.zero_add]
  exact hc1 j _ (by simp [hj])

/-- A process that is known, its targets as they lie. -/
theorem seen_proc {base : Nat} {w : World} {R : Nat → Role} {g : Nat} {L : ByteArray → List ByteArray} {K : ByteArray → Prop} {N : Nat} (h : GS base w R g L K N) {x : ByteArray} (hK : K x) (hx : x.size ≤ maxLen) :
    ∃ p aT cT, (∀ w1, Below w.heap.size w w1 → Calls Ybaf.prog 15 #[ptr g, .string x] w1 (fun e w' => e = .returned (ptr p) ∧ w' = w1)) ∧ w.cell? ⟨p, 2, none⟩ = some (.slice aT (L x).length cT) ∧
      (0 < (L x).length → ∃ bT, aT = some ⟨bT, 0, none⟩ ∧ ∀ j, j < (L x).length → ∃ t, w.cell? ⟨bT, j, none⟩ = some (ptr t) ∧ w.cell? ⟨t, 0, none⟩ = some (.string ((L x).getD j ByteArray.empty))) := by
  obtain ⟨pm, wm, T, W, E, nm, pf, hL, hI, hT1, hTL, hpf⟩ := h.ex
  cases hv : pf (keyL x) with
  | none => exact absurd hK (hpf x hv).2
  | some v =>
    obtain ⟨p, rfl, hp, hnm⟩ := hL.pf2 x v hv
    obtain ⟨s, tv, wv, noted, hblk, _, hT, _⟩ := (hL.pr p hp).ex
    have hTx : (T p).map nm = L x := by rw [← hnm]; exact hTL p hp
    have hlen : (T p).length = (L x).length := by rw [← hTx, List.length_map]
    have hown := hT.own
    rw [hlen] at hown
    obtain ⟨aT, cT, rfl⟩ := own_slice hown
    refine ⟨p, aT, cT, fun w1 hB => find_is w1 (hL.frame hB.size (fun k hk _ => hB.block k hk) (Nat.le_refl _)) x hx p hv, cell_of_blk hblk (i := 2) rfl, fun hpos => ?_⟩
    obtain ⟨bT, rfl, _, _, hc⟩ := own_at0 hown hpos
    refine ⟨bT, rfl, fun j hj => ?_⟩
    have hj' : j < (T p).length := by omega
    refine ⟨(T p)[j], hc j _ (by simp [hj']), ?_⟩
    have ht : R (T p)[j] = .proc := Classical.byContradiction fun e => by
      have := (hI.b p (T p)[j]).1 (List.getElem_mem _)
      rw [(hL.out _ e).2] at this
      simp at this
    obtain ⟨s', tv', wv', noted', hblk', _⟩ := (hL.pr _ ht).ex
    have e : (L x).getD j ByteArray.empty = nm (T p)[j] := by
      rw [← hTx, List.getD, List.getElem?_map, List.getElem?_eq_getElem hj']; rfl
    rw [e]
    exact cell_of_blk hblk' (i := 0) rfl

/-- What the rules hold, by number. -/
theorem rul_at {base : Nat} {w : World} {R : Nat → Role} {r d l : Nat} {pn : Nat → ByteArray} {tn : Nat → List ByteArray} (h : Rul base w R r d l l (PK pn l) (EK pn tn l)) :
    ∃ a3 c3 a4 c4, w.rowIs r 41 6 (rulesRow d (.slice none 0 0) (.slice a3 l c3) (.slice a4 l c4)) ∧ (0 < l → ∃ b3 b4, a3 = some ⟨b3, 0, none⟩ ∧ a4 = some ⟨b4, 0, none⟩ ∧ ∀ i, i < l →
      (∃ b c, w.cell? ⟨b3, i, none⟩ = some (.slice (some ⟨b, 0, none⟩) 1 c) ∧ w.cell? ⟨b, 0, none⟩ = some (.string (pn i))) ∧ w.cell? ⟨b4, i, none⟩ = some (.bool (decide (0 < (LK pn tn i (pn i)).length)))) := by
  obtain ⟨a3, c3, a4, c4, cs, hrow, hch, hen, hcl, _⟩ := h.ex
  refine ⟨a3, c3, a4, c4, hrow, fun hl => ?_⟩
  obtain ⟨b3, rfl, _, _, hc3⟩ := own_at0 hch hl
  obtain ⟨b4, rfl, _, _, hc4⟩ := own_at0 hen hl
  refine ⟨b3, b4, rfl, rfl, fun i hi => ⟨?_, hc4 i _ (by simp [EK, hi])⟩⟩
  have hcl0 : i < cs.length := by have := hch.1; omega
  obtain ⟨h1, _⟩ := hcl i cs[i] (List.getElem?_eq_getElem hcl0)
  have e : (PK pn l).getD i ByteArray.empty = pn i := by simp [PK, hi]
  rw [e] at h1
  obtain ⟨a, c, ha⟩ := own_slice h1
  have h3 := hc3 i cs[i] (List.getElem?_eq_getElem hcl0)
  rw [ha] at h1 h3
  obtain ⟨b, rfl, _, _, hcb⟩ := own_at0 h1 (by omega)
  exact ⟨b, c, h3, hcb 0 _ rfl⟩

/-- What was built, by number. -/
theorem Bld.at_ {w : World} {P nT : Nat → Nat} {tv : Nat → Nat → Nat} {l c11 c12 : Nat} {a11 a12 : Option Addr} {v8 : Value} {W : World} (h : Bld w P nT tv l v8 (.slice a11 l c11) (.slice a12 l c12) W) :
    (0 < l → ∃ b11 b12, a11 = some ⟨b11, 0, none⟩ ∧ a12 = some ⟨b12, 0, none⟩ ∧ ∀ i, i < l → w.heap.size ≤ b11 ∧ w.heap.size ≤ b12 ∧
      W.cell? ⟨b12, i, none⟩ = some (.string (pnOf P i)) ∧ W.cell? ⟨b11, i, none⟩ = some (.bool (decide (0 < (LK (pnOf P) (tnOf P nT tv) i (pnOf P i)).length)))) ∧
    (∀ q, q < 4 → ∃ t : Bool, W.cell? ⟨w.heap.size + 1, q, none⟩ = some (.bool t) ∧ (t = true → KK (pnOf P) l (nmB q)) ∧ ∃ aL cL, W.cell? ⟨w.heap.size, q, none⟩ = some (.slice aL (LK (pnOf P) (tnOf P nT tv) l (nmB q)).length cL) ∧
      (0 < (LK (pnOf P) (tnOf P nT tv) l (nmB q)).length → ∃ bL, aL = some ⟨bL, 0, none⟩ ∧ w.heap.size ≤ bL ∧ ∀ j, j < (LK (pnOf P) (tnOf P nT tv) l (nmB q)).length → W.cell? ⟨bL, j, none⟩ = some (.string ((LK (pnOf P) (tnOf P nT tv) l (nmB q)).getD j ByteArray.empty)))) := by
  obtain ⟨xs8, la, se, G, hS, hla, hse, h7⟩ := h.ex
  refine ⟨fun hl => ?_, fun q hq => ?_⟩
  · obtain ⟨b11, rfl, hb11, _, hc11⟩ := own_at0 hS.own11 hl
    obtain ⟨b12, rfl, hb12, _, hc12⟩ := own_at0 hS.own12 hl
    exact ⟨b11, b12, rfl, rfl, fun i hi => ⟨by omega, by omega, hc12 i _ (by simp [PK, hi]), hc11 i _ (by simp [EK, hi])⟩⟩
  · have hts := (hS.ts _ _ (hla q hq)).1
    obtain ⟨aL, cL, eL⟩ := own_slice hts
    refine ⟨se q, hS.seenCell hq, fun ht => ?_, aL, cL, by rw [hS.lastCell hq, eL], fun hpos => ?_⟩
    · obtain ⟨i, hi, e⟩ := (hse q hq).1 ht
      exact ⟨i, hi, by unfold pnOf; rw [e]⟩
    · rw [eL] at hts
      obtain ⟨bL, rfl, hbL, _, hcL⟩ := own_at0 hts hpos
      exact ⟨bL, rfl, by omega, fun j hj => hcL j _ (by simp [hj])⟩

end Go.Proofs.YbulkahtqFmt
