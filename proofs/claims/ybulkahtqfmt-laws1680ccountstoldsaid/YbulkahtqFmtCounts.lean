/-
  THE WALK of LawS1680CCounts.
-/
import Derived.Test.YbulkahtqFmtRun
import Derived.Deep.QuietTactic
import Derived.BigQuiet
import Derived.WalkSmall
namespace Go.Proofs.YbulkahtqFmt
open Go.RowKit Go.WideMaps Go.Maps Kit

/-- slices.Equal at strings, of two slices that hold the same strings. -/
theorem equal_any (a0 a1 : Option Addr) (n c0 c1 : Nat) (ss : List ByteArray) (w : World) (hn : n ≤ 1024)
    (h0 : 0 < n → ∃ b off, a0 = some ⟨b, off, none⟩ ∧ ∀ i, i < n → w.cell? ⟨b, off + i, none⟩ = some (.string (ss.getD i ByteArray.empty)))
    (h1 : 0 < n → ∃ b off, a1 = some ⟨b, off, none⟩ ∧ ∀ i, i < n → w.cell? ⟨b, off + i, none⟩ = some (.string (ss.getD i ByteArray.empty))) :
    Calls Ybaf.prog 11 #[.slice a0 n c0, .slice a1 n c1] w fun e w' => e = .returned (.bool true) ∧ Below w.heap.size w w' := by
  go_enter Ybaf.func11, Ybaf.ntmps11
  go_wp2
  go_loopw [13] (fun i wx => ∃ k : Nat, k ≤ n ∧ i = .int .i64 k ∧ Below w.heap.size w wx) (fun i _ => n - (intOf i).toNat)
  case atStart => exact ⟨0, Nat.zero_le _, rfl, Below.refl _ _⟩
  case round =>
    obtain ⟨k, hk, rfl, hbel⟩ := hrel
    by_cases hkn : k < n
    · obtain ⟨b, off, rfl, hc⟩ := h0 (by omega)
      obtain ⟨b', off', rfl, hc'⟩ := h1 (by omega)
      have q0 := (hbel.cell (p := ⟨b, off + k, none⟩) (cell_lt (hc k hkn))).trans (hc k hkn)
      have q1 := (hbel.cell (p := ⟨b', off' + k, none⟩) (cell_lt (hc' k hkn))).trans (hc' k hkn)
      clear hc hc' h0 h1
      generalize ss.getD k ByteArray.empty = p at q0 q1
      go_wp2
      go_quiet (fail)
      go_wp2
      go_roundw
      case rel => exact ⟨k + 1, by omega, by go_num, below_drewN hbel _⟩
      case measure => simp [intOf]; omega
    · go_wp2
      go_ret
      exact ⟨rfl, hbel⟩

theorem str_same (s kk : ByteArray) : (s.toList == kk.toList) = (keyL kk).sameKey (keyL s) := by
  rw [ByteArray.toList_eq, ByteArray.toList_eq]
  show _ = (kk.data.toList == s.data.toList)
  rw [Bool.eq_iff_iff, beq_iff_eq, beq_iff_eq]; exact ⟨Eq.symm, Eq.symm⟩
theorem occ_yes {ss : List ByteArray} {p : Nat} {s kk : ByteArray} (h : (s.toList == kk.toList) = true) (ho : occ ss (p + 1) (keyL kk) = occ ss p (keyL kk) + if (keyL kk).sameKey (keyL s) then 1 else 0) : occ ss (p + 1) (keyL kk) = occ ss p (keyL kk) + 1 := by
  rw [str_same] at h; rw [ho, if_pos h]
theorem occ_no {ss : List ByteArray} {p : Nat} {s kk : ByteArray} (h : (s.toList == kk.toList) = false) (ho : occ ss (p + 1) (keyL kk) = occ ss p (keyL kk) + if (keyL kk).sameKey (keyL s) then 1 else 0) : occ ss (p + 1) (keyL kk) = occ ss p (keyL kk) := by
  rw [str_same] at h; rw [ho, if_neg (by rw [h]; decide)]; rfl
theorem int_nat {a : Int} {b : Nat} (h : a = (b : Int)) : Value.int .i64 a = .int .i64 (b : Int) := by rw [h]

/-- The two cells of the q-th count. -/
theorem cntV_at (ss : List ByteArray) (n : Nat) : ∀ (ks : List ByteArray) (q : Nat), q < ks.length →
    (cntV ss n ks)[q * 2]? = some (.string (ks.getD q ByteArray.empty)) ∧ (cntV ss n ks)[q * 2 + 1]? = some (.int .i64 (occ ss n (keyL (ks.getD q ByteArray.empty))))
  | k :: ks, 0, _ => ⟨rfl, rfl⟩
  | k :: ks, q + 1, h => by
    have ih := cntV_at ss n ks q (by simpa using h)
    have e : cntV ss n (k :: ks) = .string k :: .int .i64 (occ ss n (keyL k)) :: cntV ss n ks := rfl
    rw [e, show (q + 1) * 2 = q * 2 + 1 + 1 by omega, show q * 2 + 1 + 1 + 1 = (q * 2 + 1) + 1 + 1 by omega]
    simpa using ih

set_option maxHeartbeats 400000 in
theorem counts_long (a0 a1 : Option Addr) (l0 c0 l1 c1 : Nat) (seed : Int) (orw : Bool) (w : World) (h : 1024 < l0 ∨ 1024 < l1) :
    Calls Ybaf.prog 5 #[.slice a0 l0 c0, .slice a1 l1 c1, .int .u64 seed, .bool orw] w fun e w' => e = .returned (.bool true) ∧ Below w.heap.size w w' := by
  by_cases h0 : 1024 < l0
  · clear h
    go_enter Ybaf.func5, Ybaf.ntmps5
    go_wp2
    go_ret
    exact ⟨rfl, Below.refl _ _⟩
  · have h1 : 1024 < l1 := by omega
    clear h
    go_enter Ybaf.func5, Ybaf.ntmps5
    go_wp2
    go_ret
    exact ⟨rfl, Below.refl _ _⟩

set_option maxHeartbeats 2000000 in
theorem counts_any (a0 a1 : Option Addr) (l0 c0 l1 c1 : Nat) (ss ks : List ByteArray) (seed : Int) (orw : Bool) (w : World) (h0 : l0 ≤ 1024) (h1 : l1 ≤ 1024)
    (S0 : Strs w.heap.size w a0 l0 ss) (S1 : Strs w.heap.size w a1 l1 ks) :
    Calls Ybaf.prog 5 #[.slice a0 l0 c0, .slice a1 l1 c1, .int .u64 seed, .bool orw] w fun e w' => e = .returned (.bool true) ∧ Below w.heap.size w w' := by
  go_enter Ybaf.func5, Ybaf.ntmps5
  go_wp2_with fail
  refine (drive_any _ _ _ _ _ _ _).mono ?_
  rintro e w1 ⟨rfl, rfl⟩
  have bW : Below w.heap.size w ((((w.alloc (.cells #[.pointer none] 34)).alloc (.cells #[.func (.func 9) #[] #[.pointer (some ⟨w.heap.size, 0, none⟩)]] 42)).alloc (.cells #[.slice a1 l1 c1] 33)).alloc (.cells #[.string ⟨#[]⟩, .slice none 0 0, .map none, .int .i64 0, .slice none 0 0] 53)) :=
    ((((Below.refl _ _).alloc (Nat.le_refl _) _).alloc (by simp) _).alloc (by simp; omega) _).alloc (by simp; omega) _
  have T0 := S0.below bW
  have T1 := S1.below bW
  have hRW : ((((w.alloc (.cells #[.pointer none] 34)).alloc (.cells #[.func (.func 9) #[] #[.pointer (some ⟨w.heap.size, 0, none⟩)]] 42)).alloc (.cells #[.slice a1 l1 c1] 33)).alloc (.cells #[.string ⟨#[]⟩, .slice none 0 0, .map none, .int .i64 0, .slice none 0 0] 53)).heap[w.heap.size]? = some (.cells #[.pointer none] 34) := by
    rw [blk_old _ _ (by simp; omega), blk_old _ _ (by simp; omega), blk_old _ _ (by simp)]; exact blk_new _ _
  have hgW : ((((w.alloc (.cells #[.pointer none] 34)).alloc (.cells #[.func (.func 9) #[] #[.pointer (some ⟨w.heap.size, 0, none⟩)]] 42)).alloc (.cells #[.slice a1 l1 c1] 33)).alloc (.cells #[.string ⟨#[]⟩, .slice none 0 0, .map none, .int .i64 0, .slice none 0 0] 53)).heap[w.heap.size + 1]? = some (.cells #[.func (.func 9) #[] #[.pointer (some ⟨w.heap.size, 0, none⟩)]] 42) := by
    rw [blk_old _ _ (by simp), blk_old _ _ (by simp)]
    have := blk_new (w.alloc (.cells #[.pointer none] 34)) (.cells #[.func (.func 9) #[] #[.pointer (some ⟨w.heap.size, 0, none⟩)]] 42)
    simpa only [World.size_alloc] using this
  have hkW : ((((w.alloc (.cells #[.pointer none] 34)).alloc (.cells #[.func (.func 9) #[] #[.pointer (some ⟨w.heap.size, 0, none⟩)]] 42)).alloc (.cells #[.slice a1 l1 c1] 33)).alloc (.cells #[.string ⟨#[]⟩, .slice none 0 0, .map none, .int .i64 0, .slice none 0 0] 53)).heap[w.heap.size + 1 + 1]? = some (.cells #[.slice a1 l1 c1] 33) := by
    rw [blk_old _ _ (by simp)]
    have := blk_new ((w.alloc (.cells #[.pointer none] 34)).alloc (.cells #[.func (.func 9) #[] #[.pointer (some ⟨w.heap.size, 0, none⟩)]] 42)) (.cells #[.slice a1 l1 c1] 33)
    simpa only [World.size_alloc] using this
  have hsW : ((((w.alloc (.cells #[.pointer none] 34)).alloc (.cells #[.func (.func 9) #[] #[.pointer (some ⟨w.heap.size, 0, none⟩)]] 42)).alloc (.cells #[.slice a1 l1 c1] 33)).alloc (.cells #[.string ⟨#[]⟩, .slice none 0 0, .map none, .int .i64 0, .slice none 0 0] 53)).heap[w.heap.size + 1 + 1 + 1]? = some (.cells #[.string ⟨#[]⟩, .slice none 0 0, .map none, .int .i64 0, .slice none 0 0] 53) := by
    have := blk_new (((w.alloc (.cells #[.pointer none] 34)).alloc (.cells #[.func (.func 9) #[] #[.pointer (some ⟨w.heap.size, 0, none⟩)]] 42)).alloc (.cells #[.slice a1 l1 c1] 33)) (.cells #[.string ⟨#[]⟩, .slice none 0 0, .map none, .int .i64 0, .slice none 0 0] 53)
    simpa only [World.size_alloc] using this
  go_wp2_with fail
  refine (run_any w.heap.size (w.heap.size + 1 + 1 + 1) (w.heap.size + 1) (w.heap.size + 1 + 1) w.heap.size a0 a1 l0 c0 l1 c1 ss ks seed orw _ h0 h1 T0 T1 (Nat.le_refl _) (cell_of_blk hsW rfl) (cell_of_blk hsW rfl) (cell_of_blk hgW rfl) (cell_of_blk hkW rfl) (cell_of_blk hRW rfl) (frozen_of_blk hRW 0) (by omega) (by omega)).mono ?_
  rintro e w2 ⟨r, aI, cI, aC, cC, rfl, hrr, hr1, hr2, hr3, hr5, hownI, hownC, hupd⟩
  clear hRW hgW hkW hsW
  have hbel : Below w.heap.size w w2 := bW.trans (hupd.mono (T' := []) (by simp; omega) (fun x hx hm => by simp at hm; omega)).below
  have HU := hide hupd
  clear hupd T0 T1 bW
  have oI := hownI.mono (Nat.zero_le _)
  have oC := hownC.mono (Nat.zero_le _)
  clear hownI hownC HU
  go_wp2
  go_loopw [14] (fun i wx => ∃ q : Nat, q ≤ l1 ∧ i = .int .i64 q ∧ Below w2.heap.size w2 wx) (fun i _ => l1 - (intOf i).toNat)
  case atStart => exact ⟨0, Nat.zero_le _, rfl, Below.refl _ _⟩
  case round =>
    obtain ⟨q, hq, rfl, hbx⟩ := hrel
    by_cases hql : q < l1
    · obtain ⟨b1, off1, rfl, hb1, hc1⟩ := S1.at_ (by omega)
      have hkc := (hbel.cell (p := ⟨b1, off1 + q, none⟩) hb1).trans (hc1 q hql)
      obtain ⟨kk, hkk⟩ : ∃ kk, kk = ks.getD q ByteArray.empty := ⟨_, rfl⟩
      rw [← hkk] at hkc
      have HK := hide hkk
      clear hc1 hkk
      go_wp2
      go_loopw [15, 16] (fun n j wy => ∃ p : Nat, p ≤ l0 ∧ j = .int .i64 p ∧ n = .int .i64 (occ ss p (keyL kk)) ∧ Below w2.heap.size w2 wy) (fun _ j _ => l0 - (intOf j).toNat)
      case atStart => exact ⟨0, Nat.zero_le _, rfl, by simp [occ], hbx⟩
      case round =>
        obtain ⟨p, hp, rfl, rfl, hby⟩ := hrel
        by_cases hpl : p < l0
        · obtain ⟨b0, off0, rfl, hb0, hc0⟩ := S0.at_ (by omega)
          have hz := hbel.size
          have hsc := (hby.cell (p := ⟨b0, off0 + p, none⟩) (by simp only; omega)).trans ((hbel.cell (p := ⟨b0, off0 + p, none⟩) hb0).trans (hc0 p hpl))
          have hkc' := (hby.cell (p := ⟨b1, off1 + q, none⟩) (by simp only; omega)).trans hkc
          have hos := occ_succ ss p (keyL kk) (by rw [S0.len]; exact hpl)
          obtain ⟨s, hs⟩ : ∃ s, s = ss.getD p ByteArray.empty := ⟨_, rfl⟩
          rw [← hs] at hsc hos
          have HO := hide hos
          have hle := occ_le ss p (keyL kk)
          clear hc0 hs hos
          go_wp2
          go_quiet (fail)
          go_wp2
          · go_roundw
            case rel => exact ⟨p + 1, by omega, by go_num, int_nat (by have := occ_yes (by assumption) (unhide HO); omega), below_drewN hby _⟩
            case measure => simp [intOf]; omega
          · go_roundw
            case rel => exact ⟨p + 1, by omega, by go_num, int_nat (by have := occ_no (by assumption) (unhide HO); omega), below_drewN hby _⟩
            case measure => simp [intOf]; omega
        · have hpe : p = l0 := by omega
          subst hpe
          obtain ⟨gC, rfl⟩ : ∃ gC, aC = some ⟨gC, 0, none⟩ := by
            rcases oC.2 with ⟨_, h⟩ | ⟨g, cap, cur, h, _⟩
            · omega
            · simp only [Value.slice.injEq] at h; exact ⟨g, h.1⟩
          have hz := hbel.size
          have hlt := (oC.lt gC rfl).2
          have ha := cntV_at ss p ks q (by rw [S1.len]; exact hql)
          rw [← unhide HK] at ha
          have hC0 := (hby.cell (p := ⟨gC, q * 2, none⟩) hlt).trans ((oC.cellAt (q * 2) (by omega)).trans ha.1)
          have hC1 := (hby.cell (p := ⟨gC, q * 2 + 1, none⟩) hlt).trans ((oC.cellAt (q * 2 + 1) (by omega)).trans ha.2)
          have hkc' := (hby.cell (p := ⟨b1, off1 + q, none⟩) (by simp only; omega)).trans hkc
          clear ha
          go_wp2
          go_quiet (fail)
          go_wp2
          go_roundw
          case rel => exact ⟨q + 1, by omega, by go_num, below_drewN hby _⟩
          case measure => simp [intOf]; omega
    · have hz := hbel.size
      have e9 := (hbx.cell (p := ⟨w.heap.size, 0, none⟩) (cell_lt hrr)).trans hrr
      have e1 := (hbx.cell (p := ⟨r, 1, none⟩) (cell_lt hr1)).trans hr1
      have e2 := (hbx.cell (p := ⟨r, 2, none⟩) (cell_lt hr1)).trans hr2
      have e3 := (hbx.cell (p := ⟨r, 3, none⟩) (cell_lt hr1)).trans hr3
      have e5 := (hbx.cell (p := ⟨r, 5, none⟩) (cell_lt hr1)).trans hr5
      go_wp2_with fail
      refine (equal_any _ _ _ _ _ ss _ h0 ?_ ?_).mono ?_
      · intro hn
        rcases oI.2 with ⟨_, h⟩ | ⟨g, cap, cur, h, _⟩
        · omega
        · simp only [Value.slice.injEq] at h
          obtain ⟨rfl, _, rfl⟩ := h
          refine ⟨g, 0, rfl, fun i hi => ?_⟩
          rw [Nat.zero_add]
          have hs := oI.cellAt i (by omega)
          rw [(hbx.cell (p := ⟨g, i, none⟩) (oI.lt g rfl).2), hs]
          have hi2 : i < ss.length := by rw [S0.len]; exact hi
          simp [strV, hi2]
      · intro hn
        obtain ⟨b0, off0, e, hb0, hc0⟩ := S0.at_ hn
        refine ⟨b0, off0, e, fun i hi => ?_⟩
        rw [hbx.cell (p := ⟨b0, off0 + i, none⟩) (by simp only; omega), hbel.cell (p := ⟨b0, off0 + i, none⟩) hb0]
        exact hc0 i hi
      rintro e w3 ⟨rfl, hb3⟩
      have f9 := (hb3.cell (p := ⟨w.heap.size, 0, none⟩) (cell_lt e9)).trans e9
      have f2 := (hb3.cell (p := ⟨r, 2, none⟩) (cell_lt e2)).trans e2
      have f3 := (hb3.cell (p := ⟨r, 3, none⟩) (cell_lt e2)).trans e3
      have f5 := (hb3.cell (p := ⟨r, 5, none⟩) (cell_lt e2)).trans e5
      go_wp2
      go_ret
      exact ⟨rfl, (hbel.trans (hbx.mono (by omega))).trans (hb3.mono (by have := hbx.size; omega))⟩

end Go.Proofs.YbulkahtqFmt
