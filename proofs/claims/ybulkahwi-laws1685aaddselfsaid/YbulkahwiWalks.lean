/-
  THE WALKS: strings' prefixes; provider.
-/
import Derived.Test.YbulkahwiProg
import Derived.Test.YbulkahwiPlain
import Derived.WalkKit
import Derived.KernelRfl
import Derived.Deep.OwnRows
import Derived.Deep.Onto
import Derived.Deep.QuietTactic
import Derived.BigQuiet
import Derived.WalkSmall
import Derived.WalkSpells
import Derived.Maps.AppendAt
namespace Go.Proofs.Ybulkahwi
open Go.RowKit Go.Deep

theorem hide {p : Prop} (h : p) : Hid p := h
theorem unhide {p : Prop} (h : Hid p) : p := h
theorem ret_bool {a b : Bool} (h : a = b) : Ending.returned (.bool a) = .returned (.bool b) := by rw [h]
theorem ret_str {a b : ByteArray} (h : a = b) : Ending.returned (.string a) = .returned (.string b) := by rw [h]
theorem cell_lt {w : World} {b o : Nat} {v : Value} (h : w.cell? ⟨b, o, none⟩ = some v) : b < w.heap.size := by
  rcases Nat.lt_or_ge b w.heap.size with h' | h'
  · exact h'
  · simp [World.cell?, Array.getElem?_eq_none h'] at h

set_option maxHeartbeats 400000 in
theorem has14 (s p : ByteArray) (w : World) : Calls Yba.prog 14 #[.string s, .string p] w fun e w' => e = .returned (.bool (isPre s p)) ∧ w' = w := by
  by_cases h : p.size ≤ s.size
  · have HC := hide (isPre_cut s p)
    go_enter Yba.func14, Yba.ntmps14
    go_wp2
    go_ret
    exact ⟨ret_bool (unhide HC), rfl⟩
  · have HS := hide (isPre_short h)
    go_enter Yba.func14, Yba.ntmps14
    go_wp2
    go_ret
    exact ⟨ret_bool (unhide HS).symm, rfl⟩

set_option maxHeartbeats 400000 in
theorem has10 (s p : ByteArray) (w : World) : Calls Yba.prog 10 #[.string s, .string p] w fun e w' => e = .returned (.bool (isPre s p)) ∧ w' = w := by
  go_enter Yba.func10, Yba.ntmps10
  go_wp2_with (go_at_call 14; refine (has14 _ _ _).mono ?_; rintro e w' ⟨rfl, rfl⟩)
  go_ret
  exact ⟨rfl, rfl⟩

set_option maxHeartbeats 400000 in
theorem starts11 (s p : ByteArray) (w : World) : Calls Yba.prog 11 #[.string s, .string p] w fun e w' => e = .returned (.bool (isPre s p)) ∧ w' = w := by
  by_cases h : p.size ≤ s.size
  · have HC := hide (isPre_cut s p)
    go_enter Yba.func11, Yba.ntmps11
    go_wp2
    go_ret
    exact ⟨ret_bool (unhide HC), rfl⟩
  · have HS := hide (isPre_short h)
    go_enter Yba.func11, Yba.ntmps11
    go_wp2
    go_ret
    exact ⟨ret_bool (unhide HS).symm, rfl⟩

set_option maxHeartbeats 400000 in
theorem cut_yes (s p : ByteArray) (w : World) (h : isPre s p = true) : Calls Yba.prog 12 #[.string s, .string p] w fun e w' => e = .returned (.tuple #[.string (s.extract p.size s.size), .bool true]) ∧ w' = w := by
  have hs := isPre_size h
  have c15 : Calls Yba.prog 15 #[.string s, .string p] w fun e w' => e = .returned (.tuple #[.string (s.extract p.size s.size), .bool true]) ∧ w' = w := by
    go_enter Yba.func15, Yba.ntmps15
    go_wp2_with (go_at_call 14; refine (has14 _ _ _).mono ?_; rintro e w' ⟨rfl, rfl⟩)
    go_ret2
    exact ⟨rfl, rfl⟩
  have H15 := hide c15
  clear c15
  go_enter Yba.func12, Yba.ntmps12
  go_wp2_with (go_at_call 15; refine (unhide H15).mono ?_; rintro e w' ⟨rfl, rfl⟩)
  go_ret2
  exact ⟨rfl, rfl⟩

set_option maxHeartbeats 400000 in
theorem cut_no (s p : ByteArray) (w : World) (h : isPre s p = false) : Calls Yba.prog 12 #[.string s, .string p] w fun e w' => e = .returned (.tuple #[.string s, .bool false]) ∧ w' = w := by
  have c15 : Calls Yba.prog 15 #[.string s, .string p] w fun e w' => e = .returned (.tuple #[.string s, .bool false]) ∧ w' = w := by
    go_enter Yba.func15, Yba.ntmps15
    go_wp2_with (go_at_call 14; refine (has14 _ _ _).mono ?_; rintro e w' ⟨rfl, rfl⟩)
    go_ret2
    exact ⟨rfl, rfl⟩
  have H15 := hide c15
  clear c15
  go_enter Yba.func12, Yba.ntmps12
  go_wp2_with (go_at_call 15; refine (unhide H15).mono ?_; rintro e w' ⟨rfl, rfl⟩)
  go_ret2
  exact ⟨rfl, rfl⟩

/-- strings.TrimPrefix. -/
def trimS (s p : ByteArray) : ByteArray := if isPre s p then s.extract p.size s.size else s
set_option maxHeartbeats 400000 in
theorem trim13 (s p : ByteArray) (w : World) : Calls Yba.prog 13 #[.string s, .string p] w fun e w' => e = .returned (.string (trimS s p)) ∧ w' = w := by
  have c16 : Calls Yba.prog 16 #[.string s, .string p] w fun e w' => e = .returned (.string (trimS s p)) ∧ w' = w := by
    by_cases h : isPre s p = true
    · have hs := isPre_size h
      have HT : Hid (trimS s p = s.extract p.size s.size) := by unfold trimS; rw [if_pos h]; rfl
      go_enter Yba.func16, Yba.ntmps16
      go_wp2_with (go_at_call 14; refine (has14 _ _ _).mono ?_; rintro e w' ⟨rfl, rfl⟩)
      go_ret
      exact ⟨ret_str (unhide HT).symm, rfl⟩
    · have h' : isPre s p = false := by simpa using h
      have HT : Hid (trimS s p = s) := by unfold trimS; rw [h']; rfl
      go_enter Yba.func16, Yba.ntmps16
      go_wp2_with (go_at_call 14; refine (has14 _ _ _).mono ?_; rintro e w' ⟨rfl, rfl⟩)
      go_ret
      exact ⟨ret_str (unhide HT).symm, rfl⟩
  have H16 := hide c16
  clear c16
  go_enter Yba.func13, Yba.ntmps13
  go_wp2_with (go_at_call 16; refine (unhide H16).mono ?_; rintro e w' ⟨rfl, rfl⟩)
  go_ret
  exact ⟨rfl, rfl⟩

/-! ### A slice of modules of the call's own -/
/-- The cells of the modules: path and version, one behind the other. -/
def modsV (ps vs : List ByteArray) : List Value := (ps.zip vs).flatMap (fun x => [.string x.1, .string x.2])
theorem modsV_at : ∀ (ps vs : List ByteArray) (q : Nat), q < ps.length → q < vs.length →
    (modsV ps vs)[q * 2]? = some (.string (ps.getD q ByteArray.empty)) ∧ (modsV ps vs)[q * 2 + 1]? = some (.string (vs.getD q ByteArray.empty))
  | p :: ps, v :: vs, 0, _, _ => ⟨rfl, rfl⟩
  | p :: ps, v :: vs, q + 1, h, h' => by
    have ih := modsV_at ps vs q (by simpa using h) (by simpa using h')
    have e : modsV (p :: ps) (v :: vs) = .string p :: .string v :: modsV ps vs := rfl
    rw [e, show (q + 1) * 2 = q * 2 + 1 + 1 by omega, show q * 2 + 1 + 1 + 1 = (q * 2 + 1) + 1 + 1 by omega]
    simpa using ih

/-- The slice value '.slice a n c' holds the modules with the paths ps and the versions vs. -/
structure Mods (w : World) (a : Option Addr) (n c : Nat) (ps vs : List ByteArray) : Prop where
  own : w.ownsRow 0 30 2 (.slice a n c) n (modsV ps vs)
  len : ps.length = n
  lev : vs.length = n
  sz : ∀ i, (ps.getD i ByteArray.empty).size ≤ 140737488351232

theorem Mods.at_ {w : World} {a : Option Addr} {n c : Nat} {ps vs : List ByteArray} (h : Mods w a n c ps vs) (hn : 0 < n) : ∃ g, a = some ⟨g, 0, none⟩ ∧ g < w.heap.size ∧
    ∀ i, i < n → w.cell? ⟨g, i * 2, none⟩ = some (.string (ps.getD i ByteArray.empty)) ∧ w.cell? ⟨g, i * 2 + 1, none⟩ = some (.string (vs.getD i ByteArray.empty)) := by
  rcases h.own.2 with ⟨_, h0⟩ | ⟨g, cap, cur, he, _⟩
  · omega
  · simp only [Value.slice.injEq] at he
    obtain ⟨rfl, _, rfl⟩ := he
    refine ⟨g, rfl, (h.own.lt g rfl).2, fun i hi => ?_⟩
    have ha := modsV_at ps vs i (by rw [h.len]; exact hi) (by rw [h.lev]; exact hi)
    exact ⟨(h.own.cellAt (i * 2) (by omega)).trans ha.1, (h.own.cellAt (i * 2 + 1) (by omega)).trans ha.2⟩

theorem Mods.below {w w' : World} {a : Option Addr} {n c : Nat} {ps vs : List ByteArray} (h : Mods w a n c ps vs) (hb : Below w.heap.size w w') : Mods w' a n c ps vs := by
  refine ⟨⟨h.own.1, ?_⟩, h.len, h.lev, h.sz⟩
  rcases h.own.2 with h2 | ⟨g, cap, cur, he, h1, h2, h3⟩
  · exact .inl h2
  · exact .inr ⟨g, cap, cur, he, h1, (hb.block g (h.own.lt g (by rw [he]; rfl)).2).trans h2, h3⟩

set_option maxHeartbeats 2000000 in
theorem provider_any (pre : ByteArray) (a : Option Addr) (n c : Nat) (ps vs : List ByteArray) (w : World) (hn : n ≤ 2048) (M : Mods w a n c ps vs) :
    Calls Yba.prog 9 #[.string pre, .slice a n c] w fun e w' => (∃ i r, e = .returned (.tuple #[.int .i64 i, .string r, .bool (ps.any (prov pre))])) ∧ Below w.heap.size w w' := by
  go_enter Yba.func9, Yba.ntmps9
  go_wp2
  go_loopw [4, 5, 6, 7, 14] (fun v4 v5 v6 v7 j wr => ∃ (k : Nat) (i : Int) (r : ByteArray) (lg : Int), k ≤ n ∧ j = .int .i64 k ∧ v4 = .int .i64 i ∧ v5 = .string r ∧ v6 = .bool ((ps.take k).any (prov pre)) ∧ v7 = .int .i64 lg ∧ 0 ≤ lg ∧ lg ≤ 140737488351232 ∧
    ((ps.take k).any (prov pre) = false → lg = 0) ∧ Below w.heap.size w wr) (fun _ _ _ _ j _ => n - (intOf j).toNat)
  case atStart => exact ⟨0, 0, _, 0, Nat.zero_le _, rfl, rfl, rfl, rfl, rfl, by omega, by omega, fun _ => rfl, Below.refl _ _⟩
  case round =>
    obtain ⟨k, i, r, lg, hk, rfl, rfl, rfl, rfl, rfl, hl0, hl1, hlf, hbel⟩ := hrel
    have HLF := hide hlf
    clear hlf
    by_cases hkn : k < n
    · obtain ⟨g, rfl, hg, hc⟩ := M.at_ (by omega)
      have c0 := (hbel.cell (p := ⟨g, k * 2, none⟩) hg).trans (hc k hkn).1
      have c1 := (hbel.cell (p := ⟨g, k * 2 + 1, none⟩) hg).trans (hc k hkn).2
      have hsz := M.sz k
      have HA := hide (any_succ (prov pre) ps k (by rw [M.len]; exact hkn))
      generalize ps.getD k ByteArray.empty = p at c0 hsz HA
      generalize vs.getD k ByteArray.empty = v at c1
      clear hc
      by_cases hlong : (p.size : Int) ≤ lg
      · go_wp2
        go_roundw
        case rel => exact ⟨k + 1, i, r, lg, by omega, by go_num, rfl, rfl, by rw [unhide HA, long_keep (unhide HLF) hlong], rfl, hl0, hl1, fun h => unhide HLF (by rw [unhide HA, long_keep (unhide HLF) hlong] at h; exact h), hbel.alloc hbel.size _⟩
        case measure => simp [intOf]; omega
      · have hpos : 0 < p.size := by omega
        cases hpre : isPre pre p
        · have HN := hide (or_no (f := (ps.take k).any (prov pre)) (prov_no hpre))
          go_wp2_with (go_at_call 12; refine (cut_no _ _ _ hpre).mono ?_; rintro e w' ⟨rfl, rfl⟩)
          go_roundw
          case rel => exact ⟨k + 1, i, r, lg, by omega, by go_num, rfl, rfl, by rw [unhide HA, unhide HN], rfl, hl0, hl1, fun h => unhide HLF (by rw [unhide HA, unhide HN] at h; exact h), hbel.alloc hbel.size _⟩
          case measure => simp [intOf]; omega
        · have hcut := cut_yes pre p
          have P1 := hide (fun h => prov_yes_same hpre hpos h)
          have P2 := hide (fun t h => prov_yes_slash (t := t) hpre hpos h)
          have P3 := hide (fun c t hc h => prov_no_other (c := c) (t := t) hpre hc h)
          have HC := hide (fun w => hcut w hpre)
          clear hcut hpre
          generalize pre.extract p.size pre.size = R at P1 P2 P3 HC
          cases hRe : R.toList.isEmpty
          · have hR0 : 0 < R.size := pos_of_filled hRe
            by_cases h47 : (R[0].toNat : Int) = 47
            · obtain ⟨t, ht⟩ := rest_cons hR0
              have h48 : R[0] = 47 := UInt8.toNat_inj.1 (by simpa using Int.ofNat_inj.1 h47)
              have HY := hide (or_yes (f := (ps.take k).any (prov pre)) (unhide P2 t (by rw [ht, h48])))
              clear ht h48
              go_wp2_with (first | (go_at_call 12; refine (unhide HC _).mono ?_; rintro e w' ⟨rfl, rfl⟩))
              go_quiet ((go_at_call 13; exact Calls.quiet_of_same (trim13 _ _ _)))
              go_wp2
              go_roundw
              case rel => exact ⟨k + 1, k, trimS R slash, p.size, by omega, by go_num, rfl, rfl, by rw [unhide HA, unhide HY], rfl, by omega, by omega, (fun h => by rw [unhide HA, unhide HY] at h; cases h), below_drewN (hbel.alloc hbel.size _) _⟩
              case measure => simp [intOf]; omega
            · obtain ⟨t, ht⟩ := rest_cons hR0
              have HN := hide (or_no (f := (ps.take k).any (prov pre)) (unhide P3 R[0] t (fun e => h47 (by rw [e]; rfl)) ht))
              clear ht
              go_wp2_with (first | (go_at_call 12; refine (unhide HC _).mono ?_; rintro e w' ⟨rfl, rfl⟩))
              go_roundw
              case rel => exact ⟨k + 1, i, r, lg, by omega, by go_num, rfl, rfl, by rw [unhide HA, unhide HN], rfl, hl0, hl1, fun h => unhide HLF (by rw [unhide HA, unhide HN] at h; exact h), hbel.alloc hbel.size _⟩
              case measure => simp [intOf]; omega
          · have HY := hide (or_yes (f := (ps.take k).any (prov pre)) (unhide P1 (by rw [← ByteArray.toList_eq]; exact hRe)))
            go_wp2_with (first | (go_at_call 12; refine (unhide HC _).mono ?_; rintro e w' ⟨rfl, rfl⟩))
            go_quiet ((go_at_call 13; exact Calls.quiet_of_same (trim13 _ _ _)))
            go_wp2
            go_roundw
            case rel => exact ⟨k + 1, k, trimS R slash, p.size, by omega, by go_num, rfl, rfl, by rw [unhide HA, unhide HY], rfl, by omega, by omega, (fun h => by rw [unhide HA, unhide HY] at h; cases h), below_drewN (hbel.alloc hbel.size _) _⟩
            case measure => simp [intOf]; omega
    · have hke : k = n := by omega
      have e1 : ps.take k = ps := List.take_of_length_le (by rw [M.len]; omega)
      have HE := hide e1
      clear e1
      go_wp2
      rw [unhide HE]
      go_ret3
      exact ⟨⟨_, _, rfl⟩, hbel⟩

end Go.Proofs.Ybulkahwi
