/-
  THE RUN of LawS1680CCounts: 'drive' with neither waits nor script.
-/
import Derived.Test.YbulkahtqFmtInit
import Derived.Deep.Onto
namespace Go.Proofs.YbulkahtqFmt
open Go.RowKit Go.WideMaps Go.Maps Kit

/-! ### How often a key stands among the first k -/
def occ (ss : List ByteArray) (k : Nat) (kl : Lit) : Nat := (ss.take k).countP (fun s => kl.sameKey (keyL s))
def occF (ss : List ByteArray) (k : Nat) (kl : Lit) : Option Value := if occ ss k kl = 0 then none else some (.int .i64 (occ ss k kl))
theorem occF_getD (ss : List ByteArray) (k : Nat) (kl : Lit) : (occF ss k kl).getD (.int .i64 0) = .int .i64 (occ ss k kl) := by
  unfold occF; split
  · rename_i h; rw [h]; rfl
  · rfl
theorem occ_le (ss : List ByteArray) (k : Nat) (kl : Lit) : occ ss k kl ≤ k :=
  Nat.le_trans List.countP_le_length (List.length_take_le _ _)
theorem occ_succ (ss : List ByteArray) (k : Nat) (kl : Lit) (hk : k < ss.length) : occ ss (k + 1) kl = occ ss k kl + if kl.sameKey (keyL (ss.getD k ByteArray.empty)) then 1 else 0 := by
  unfold occ
  rw [List.take_succ_eq_append_getElem hk, List.countP_append, List.countP_singleton, List.getD, List.getElem?_eq_getElem hk, Option.getD_some]
theorem occF_step (ss : List ByteArray) (k : Nat) (hk : k < ss.length) (kl : Lit) :
    upd (occF ss k) (keyL (ss.getD k ByteArray.empty)) (some (.int .i64 ((occ ss k (keyL (ss.getD k ByteArray.empty)) : Int) + 1))) kl = occF ss (k + 1) kl := by
  unfold upd
  by_cases h : kl.sameKey (keyL (ss.getD k ByteArray.empty)) = true
  · have e := WideAt.sameKey_eq h
    rw [if_pos h]
    unfold occF
    rw [occ_succ ss k kl hk, if_pos h, if_neg (by omega), ← e]
    simp
  · rw [if_neg h]
    unfold occF
    rw [occ_succ ss k kl hk, if_neg h]
    simp
theorem occF_zero (ss : List ByteArray) (kl : Lit) : (none : Option Value) = occF ss 0 kl := by
  unfold occF occ; simp

/-- The strings as they lie in cells. -/
abbrev strV (ss : List ByteArray) : List Value := ss.map Value.string
theorem strV_snoc (ss : List ByteArray) (k : Nat) (hk : k < ss.length) : strV (ss.take k) ++ [.string (ss.getD k ByteArray.empty)] = strV (ss.take (k + 1)) := by
  unfold strV
  rw [List.take_succ_eq_append_getElem hk, List.map_append, List.getD, List.getElem?_eq_getElem hk, Option.getD_some]
  rfl

/-- A slice of strings that came in: its elements, as the walk reads them. -/
structure Strs (B : Nat) (w : World) (a : Option Addr) (n : Nat) (ss : List ByteArray) : Prop where
  len : ss.length = n
  at_ : 0 < n → ∃ b off, a = some ⟨b, off, none⟩ ∧ b < B ∧ ∀ i, i < n → w.cell? ⟨b, off + i, none⟩ = some (.string (ss.getD i ByteArray.empty))
  sz : ∀ i, (ss.getD i ByteArray.empty).size ≤ maxLen

theorem Strs.below {B : Nat} {w w' : World} {a : Option Addr} {n : Nat} {ss : List ByteArray} (h : Strs B w a n ss) (hb : Below B w w') : Strs B w' a n ss :=
  ⟨h.len, fun hn => by
    obtain ⟨b, off, e, hbB, hc⟩ := h.at_ hn
    exact ⟨b, off, e, hbB, fun i hi => by rw [hb.cell (p := ⟨b, off + i, none⟩) hbB]; exact hc i hi⟩, h.sz⟩

theorem Ybaf.info55 : (Ybaf.prog.info? 55).map (fun i => (i.zero, i.size, i.bytes)) = some (some (.agg #[.string ByteArray.empty, .int .i64 0]), 2, 24) := by kernel_rfl
/-- The counts' cells: of each of the first q kinds its name and how often it was bumped. -/
def cntV (ss : List ByteArray) (n : Nat) (ks : List ByteArray) : List Value := ks.flatMap (fun x => [.string x, .int .i64 (occ ss n (keyL x))])
theorem cntV_snoc (ss : List ByteArray) (n : Nat) (ks : List ByteArray) (q : Nat) (hq : q < ks.length) :
    cntV ss n (ks.take q) ++ [.string (ks.getD q ByteArray.empty), .int .i64 (occ ss n (keyL (ks.getD q ByteArray.empty)))] = cntV ss n (ks.take (q + 1)) := by
  unfold cntV
  rw [List.take_succ_eq_append_getElem hq, List.flatMap_append, List.getD, List.getElem?_eq_getElem hq, Option.getD_some]
  simp
theorem cell_two (w : World) (x y : Value) (t : TypeId) : ∀ j u, [x, y][j]? = some u → (w.alloc (.cells #[x, y] t)).cell? ((⟨w.heap.size, 0, none⟩ : Addr).add j) = some u := by
  intro j u h
  match j, h with
  | 0, h => simp at h; subst h; simp [Addr.add]
  | 1, h => simp at h; subst h; simp [Addr.add]

set_option maxHeartbeats 2000000 in
theorem run_any (B s g kb R : Nat) (a0 a1 : Option Addr) (l0 c0 l1 c1 : Nat) (ss ks : List ByteArray) (seed : Int) (orw : Bool) (w : World) (h0 : l0 ≤ 1024) (h1 : l1 ≤ 1024)
    (S0 : Strs B w a0 l0 ss) (S1 : Strs B w a1 l1 ks) (hB : B ≤ R)
    (hs1 : w.cell? ⟨s, 1, none⟩ = some (.slice none 0 0)) (hs3 : w.cell? ⟨s, 3, none⟩ = some (.int .i64 0)) (hg : w.cell? ⟨g, 0, none⟩ = some (.func (.func 9) #[] #[.pointer (some ⟨R, 0, none⟩)]))
    (hk : w.cell? ⟨kb, 0, none⟩ = some (.slice a1 l1 c1)) (hR : w.cell? ⟨R, 0, none⟩ = some (.pointer none)) (hRf : w.frozen? ⟨R, 0, none⟩ = false) (hsR : s ≠ R) (hkR : kb ≠ R) :
    Calls Ybaf.prog 22 #[.pointer (some ⟨s, 0, none⟩), .bool orw, .slice a0 l0 c0, .int .u64 seed, .nilFunc, .pointer (some ⟨g, 0, none⟩), .pointer (some ⟨kb, 0, none⟩)] w fun e w' => ∃ r aI cI aC cC, e = .returned (.tuple #[.slice aC l1 cC, .nilIface]) ∧ w'.cell? ⟨R, 0, none⟩ = some (.pointer (some ⟨r, 0, none⟩)) ∧ w'.cell? ⟨r, 1, none⟩ = some (.slice aI l0 cI) ∧
      w'.cell? ⟨r, 2, none⟩ = some (.int .i64 0) ∧ w'.cell? ⟨r, 3, none⟩ = some (.slice none 0 0) ∧ w'.cell? ⟨r, 5, none⟩ = some (.int .i64 0) ∧
      w'.ownsRow w.heap.size 9 1 (.slice aI l0 cI) l0 (strV ss) ∧ w'.ownsRow w.heap.size 55 2 (.slice aC l1 cC) l1 (cntV ss l0 ks) ∧ Upd w.heap.size [R] w w' := by
  have hmm := @run_makeMap Ybaf.prog
  have lR := cell_lt hR
  have lkb := cell_lt hk
  go_enter Ybaf.func22, Ybaf.ntmps22
  go_wp2_with fail
  refine (new_is _).mono ?_
  rintro e w1 ⟨rfl, z1, b1, p1, q1, g1⟩
  have Z1 := hide z1
  have HG1 := hide (And.intro p1 (And.intro q1 g1))
  clear z1 p1 q1 g1
  go_wp2_with fail
  refine (net_is _ _).mono ?_
  rintro e w2 ⟨rfl, z2, b2, n2⟩
  have Z2 := hide z2
  clear z2
  have b12 : Below w.heap.size w w2 := b1.trans (b2.mono (by have := unhide Z1; omega))
  have bW : Below w.heap.size w ((w2.alloc (.map #[] 0)).alloc (drvRow s orw w.heap.size w1.heap.size w2.heap.size)) :=
    (b12.alloc b12.size _).alloc (by have := b12.size; simp; omega) _
  have hgW := (bW.cell (p := ⟨g, 0, none⟩) (cell_lt hg)).trans hg
  have hRW := (bW.cell (p := ⟨R, 0, none⟩) lR).trans hR
  have hRfW := (bW.frozen (p := ⟨R, 0, none⟩) lR).trans hRf
  go_wp2_with fail
  refine (rulesOf_is _ _ _ _ hRW hRfW).mono ?_
  rintro e w3 ⟨rfl, z3, c3, r3, u3⟩
  have hS := stands_mk (unhide Z1) b1 (unhide HG1).1 (unhide HG1).2.1 (unhide HG1).2.2 (unhide Z2) b2 n2 lR z3 c3 r3 u3
  have hd3 : w3.cell? ⟨w2.heap.size + 1, 6, none⟩ = some .nilIface ∧ w3.frozen? ⟨w2.heap.size + 1, 6, none⟩ = false := by
    have hd := blk_new (w2.alloc (.map #[] 0)) (drvRow s orw w.heap.size w1.heap.size w2.heap.size)
    simp only [World.size_alloc] at hd u3
    have := (u3.block (w2.heap.size + 1) (by omega) (by have := b12.size; simp; omega)).trans hd
    exact ⟨cell_of_blk this rfl, frozen_of_blk this 6⟩
  obtain ⟨hd3c, hd3f⟩ := hd3
  clear z3 c3 r3 u3 hgW hRW hRfW bW b12 n2 b2 b1 hg hR hRf
  have hs1W := (hS.upd.cell (p := ⟨s, 1, none⟩) (cell_lt hs1) (by simpa using hsR)).trans hs1
  have hs3W := (hS.upd.cell (p := ⟨s, 3, none⟩) (cell_lt hs3) (by simpa using hsR)).trans hs3
  have hkW := (hS.upd.cell (p := ⟨kb, 0, none⟩) (cell_lt hk) (by simpa using hkR)).trans hk
  have HS := hide hS
  clear hS hs1 hs3 hk
  go_wp2
  generalize w3.setCell ⟨w2.heap.size + 1, 6, none⟩ (.iface 34 (.pointer (some ⟨w2.heap.size + 1 + 1, 0, none⟩))) = W at HS hs1W hs3W hkW ⊢
  clear hd3c hd3f Z1 Z2 HG1
  generalize w2.heap.size + 1 + 1 = r at HS ⊢
  generalize w2.heap.size + 1 = d at HS ⊢
  generalize w2.heap.size = m at HS ⊢
  generalize w1.heap.size + 2 = nb at HS ⊢
  refine wp_loop_rounds 1 ?_
  rw [rounds_succ]
  go_wp2
  have hord := (unhide HS).ord
  have hsz := (unhide HS).size
  have HSZ := hide hsz
  obtain ⟨o1, o2, o3, o4, o5, o6⟩ := hord
  have HO1 := hide o1
  clear hsz o1
  go_loopw [73] (fun i wr => ∃ k a c, k ≤ l0 ∧ i = .int .i64 (k : Nat) ∧ wr.rowIs r 41 6 (rulesRow d (.slice a k c) (.slice none 0 0) (.slice none 0 0)) ∧ wr.ownsRow (r + 1) 9 1 (.slice a k c) k (strV (ss.take k)) ∧ mapIs wr Ybaf.prog 9 m k (occF ss k) ∧ Upd (r + 1) [r, m] W wr) (fun i _ => l0 - (intOf i).toNat)
  case atStart => exact ⟨0, none, 0, Nat.zero_le _, rfl, (unhide HS).rules, World.ownsRow_nil _ _ _ _, (unhide HS).sent.congr (occF_zero ss), Upd.refl _ _ _⟩
  case round =>
    obtain ⟨k, a, c, hk, rfl, hrow, hown, hmap, hupd⟩ := hrel
    by_cases hkl : k < l0
    · obtain ⟨b, off, rfl, hbB, hcell⟩ := S0.at_ (by omega)
      have hc : wr.cell? ⟨b, off + k, none⟩ = some (.string (ss.getD k ByteArray.empty)) := by
        rw [hupd.cell (p := ⟨b, off + k, none⟩) (by simp only; omega) (by simp; omega), (unhide HS).upd.cell (p := ⟨b, off + k, none⟩) (by simp only; omega) (by simp; omega)]
        exact hcell k hkl
      have hd6 : wr.cell? ⟨d, 6, none⟩ = some (.iface 34 (.pointer (some ⟨r, 0, none⟩))) := by
        rw [hupd.cell (p := ⟨d, 6, none⟩) (by simp only; omega) (by simp; omega)]
        exact (unhide HS).d6
      obtain ⟨p, hp⟩ : ∃ p, p = ss.getD k ByteArray.empty := ⟨_, rfl⟩
      rw [← hp] at hc
      have HP := hide hp
      clear hp hcell
      have hoc := occ_le ss k (keyL p)
      go_wp2_with (first
        | (refine wpList_invoke _ rfl _ _ _ _ rfl 34 (.pointer (some ⟨r, 0, none⟩)) rfl 101 #[.pointer (some ⟨r, 0, none⟩), .string p] (fun _ => by kernel_rfl) ?_; refine (initiate_any r d m (r + 1) k c a p _ _ _ _ (occ ss k (keyL p)) _ hrow ((hupd.cell (p := ⟨d, 4, none⟩) (by simp only; omega) (by simp; omega)).trans (unhide HS).d4) hown hmap (by omega) (by omega) (by omega) (by omega) (by omega) (by have := unhide HSZ; have := hupd.size; omega) (by rw [unhide HP]; exact S0.sz k) (by omega) (occF_getD ss k (keyL p)) (by omega) (by omega)).mono ?_; rintro e w4 ⟨rfl, a4, c4, hrow4, hown4, hmap4, hupd4⟩; refine ⟨_, rfl, ?_⟩))
      clear hc hd6
      go_wp2
      go_roundw
      case rel => exact ⟨k + 1, a4, c4, by omega, by go_num, hrow4, by rw [← strV_snoc ss k (by rw [S0.len]; exact hkl), ← unhide HP]; exact hown4, hmap4.congr (fun kl => by rw [unhide HP]; exact occF_step ss k (by rw [S0.len]; exact hkl) kl), hupd.trans hupd4⟩
      case measure => simp [intOf]; omega
    · have hke : k = l0 := by omega
      subst hke
      have hkk : wr.cell? ⟨kb, 0, none⟩ = some (.slice a1 l1 c1) := by
        rw [hupd.cell (p := ⟨kb, 0, none⟩) (by simp only; omega) (by simp; omega)]; exact hkW
      have hd3 : wr.cell? ⟨d, 3, none⟩ = some (.pointer (some ⟨nb, 0, none⟩)) := by
        rw [hupd.cell (p := ⟨d, 3, none⟩) (by simp only; omega) (by simp; omega)]; exact (unhide HS).d3
      have hd4 : wr.cell? ⟨d, 4, none⟩ = some (.map (some m)) := by
        rw [hupd.cell (p := ⟨d, 4, none⟩) (by simp only; omega) (by simp; omega)]; exact (unhide HS).d4
      have hnet : wr.cell? ⟨nb, 1, none⟩ = some (.slice none 0 0) := by
        rw [hupd.cell (p := ⟨nb, 1, none⟩) (by simp only; omega) (by simp; omega)]; exact (unhide HS).net
      go_wp2_with (go_at_call 27; refine (next_none _ _ _ hnet).mono ?_; rintro e w' ⟨rfl, rfl⟩)
      refine wp_loop_rounds 1 ?_
      rw [rounds_succ]
      go_wp2
      obtain ⟨i0, hi, hz0, hz1, hz2⟩ := info_parts Ybaf.info55
      have hwsz : r + 1 ≤ w'.heap.size := by have := unhide HSZ; have := hupd.size; omega
      go_loopw [22, 109] (fun v j wx => ∃ q aC cC, q ≤ l1 ∧ j = .int .i64 (q : Nat) ∧ v = .slice aC q cC ∧ wx.ownsRow w'.heap.size 55 2 (.slice aC q cC) q (cntV ss k (ks.take q)) ∧ Below w'.heap.size w' wx) (fun _ j _ => l1 - (intOf j).toNat)
      case atStart => exact ⟨0, none, 0, Nat.zero_le _, rfl, rfl, World.ownsRow_nil _ _ _ _, Below.refl _ _⟩
      case round =>
        obtain ⟨q, aC, cC, hq, rfl, rfl, hownC, hbel⟩ := hrel
        by_cases hql : q < l1
        · obtain ⟨b, off, rfl, hbB, hcell⟩ := S1.at_ (by omega)
          have hc : wr.cell? ⟨b, off + q, none⟩ = some (.string (ks.getD q ByteArray.empty)) := by
            rw [hbel.cell (p := ⟨b, off + q, none⟩) (by simp only; omega), hupd.cell (p := ⟨b, off + q, none⟩) (by simp only; omega) (by simp; omega), (unhide HS).upd.cell (p := ⟨b, off + q, none⟩) (by simp only; omega) (by simp; omega)]
            exact hcell q hql
          have hd4' : wr.cell? ⟨d, 4, none⟩ = some (.map (some m)) := by
            rw [hbel.cell (p := ⟨d, 4, none⟩) (by simp only; omega)]; exact hd4
          have hmap' := hmap.of_block (hbel.block m (by omega))
          obtain ⟨p, hp⟩ : ∃ p, p = ks.getD q ByteArray.empty := ⟨_, rfl⟩
          rw [← hp] at hc
          have hps : p.size ≤ maxLen := by rw [hp]; exact S1.sz q
          have HP := hide hp
          clear hp hcell
          have hoc := occF_getD ss k (keyL p)
          have hcs := hbel.size
          go_wp2_with (first
            | (at_lookup; refine wpList_look_is _ rfl _ _ 71 rfl 9 3 law9 Ybaf.underlying71 (zero3 _) rfl hmap' rfl (key_is hps) ?_)
            | (at_builtin; refine wpList_append_own _ rfl _ _ 46 rfl w'.heap.size 55 i0 _ 2 24 Ybaf.underlying46 hi hz0 hz1 hz2 rfl (by decide) _ _ _ rfl (hownC.alloc _) ⟨wr.heap.size, 0, none⟩ 1 1 [.string p, .int .i64 (occ ss k (keyL p))] rfl rfl (cell_two _ _ _ _) (by simp [Value.oneCell']) (by unfold maxLen; omega) (by omega) (by simp; omega) ?_; intro v' w5 hown5 hgrow5 _))
          have hb5 : Below w'.heap.size w' w5 := (hbel.alloc (by omega) _).grown hgrow5 (by simp; omega) (fun x hx => (hownC.lt x hx).1)
          obtain ⟨a5, c5, rfl⟩ := own_slice hown5
          rw [unhide HP, cntV_snoc ss k ks q (by rw [S1.len]; exact hql)] at hown5
          clear hgrow5 hownC hbel hmap' hoc hc hd4'
          go_wp2
          go_roundw
          case rel => exact ⟨q + 1, a5, c5, by omega, by go_num, rfl, hown5, hb5⟩
          case measure => simp [intOf]; omega
        · have hqe : q = l1 := by omega
          subst hqe
          go_wp2
          go_ret2
          have hr2 := hrow.of_block (hbel.block r (by omega))
          have hS := unhide HS
          have e1 : ss.take k = ss := List.take_of_length_le (by rw [S0.len]; exact Nat.le_refl _)
          have e2 : ks.take q = ks := List.take_of_length_le (by rw [S1.len]; exact Nat.le_refl _)
          rw [e1] at hown
          rw [e2] at hownC
          refine ⟨r, a, c, aC, cC, rfl, ?_, hr2.cell (i := 1) (by omega), hr2.cell (i := 2) (by omega), hr2.cell (i := 3) (by omega), hr2.cell (i := 5) (by omega), ?_, ?_, ?_⟩
          · rw [hbel.cell (p := ⟨R, 0, none⟩) (by simp only; omega), hupd.cell (p := ⟨R, 0, none⟩) (by simp only; omega) (by simp; omega)]; exact hS.rr
          · exact (own_of_block hown (fun x hx => hbel.block x (hown.lt x hx).2)).mono (by omega)
          · exact hownC.mono (by omega)
          · exact (hS.upd.trans (hupd.mono (by omega) (fun x hx hm => by simp at hm; omega))).trans (Upd.of_below (hbel.mono (by omega)))

end Go.Proofs.YbulkahtqFmt
