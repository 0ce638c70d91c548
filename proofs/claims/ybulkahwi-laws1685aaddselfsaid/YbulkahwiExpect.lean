/-
  THE WALKS: the law's own model of modulePathsBelow; equality of two slices; the modules as the law makes them.
-/
import Derived.Test.YbulkahwiBelow
import Derived.Lib.SliceRun
namespace Go.Proofs.Ybulkahwi
open Go.RowKit Go.Deep

theorem provW (pre p : ByteArray) : prov pre p = (!p.toList.isEmpty && (p.toList == pre.toList || isPre pre (p ++ slash))) := by
  unfold prov; rw [ByteArray.toList_eq, ByteArray.toList_eq]

set_option maxHeartbeats 2000000 in
theorem expect_any (pre : ByteArray) (a : Option Addr) (n c : Nat) (ps vs : List ByteArray) (w : World) (hn : n ≤ 2048) (hp : pre.size ≤ 4096) (M : Mods w a n c ps vs) :
    Calls Yba.prog 8 #[.string pre, .slice a n c] w fun e w' => ∃ a' c', e = .returned (.slice a' (model pre ps).length c') ∧ Outs w.heap.size w' a' (model pre ps).length c' (model pre ps) ∧ Below w.heap.size w w' := by
  obtain ⟨i0, hi, hz0, hz1, hz2⟩ := info_parts Yba.info9
  go_enter Yba.func8, Yba.ntmps8
  go_wp2
  go_loopw [5, 6] (fun f j wr => ∃ k : Nat, k ≤ n ∧ j = .int .i64 k ∧ f = .bool ((ps.take k).any (prov pre)) ∧ wr = w) (fun _ j _ => n - (intOf j).toNat)
  case atStart => exact ⟨0, Nat.zero_le _, rfl, rfl, rfl⟩
  case round =>
    obtain ⟨k, hk, rfl, rfl, rfl⟩ := hrel
    by_cases hkn : k < n
    · obtain ⟨g, rfl, hg, hc⟩ := M.at_ (by omega)
      have c0 := (hc k hkn).1
      have hsz := M.sz k
      have HA := hide (any_succ (prov pre) ps k (by rw [M.len]; exact hkn))
      generalize ps.getD k ByteArray.empty = p at c0 hsz HA
      rw [provW] at HA
      clear hc
      cases h1 : p.toList.isEmpty <;> cases h2 : (p.toList == pre.toList) <;> cases h3 : isPre pre (p ++ slash)
      all_goals
        rw [h1, h2, h3] at HA
        go_wp2_with (first | (go_at_call 11; refine (starts11 _ _ _).mono ?_; rintro e w' ⟨rfl, rfl⟩))
        go_roundw
        case rel => exact ⟨k + 1, by omega, by go_num, by rw [unhide HA]; simp, by first | rfl | trivial⟩
        case measure => simp [intOf]; omega
    · have e1 : ps.take k = ps := List.take_of_length_le (by rw [M.len]; omega)
      rw [e1]
      clear e1
      cases hf : ps.any (prov pre)
      · go_wp2
        go_loopw [8, 10] (fun v j wx => ∃ k a' c', k ≤ n ∧ j = .int .i64 (k : Nat) ∧ v = .slice a' (outK pre false ps k).length c' ∧ Outs wr.heap.size wx a' (outK pre false ps k).length c' (outK pre false ps k) ∧ Below wr.heap.size wr wx) (fun _ j _ => n - (intOf j).toNat)
        case atStart => exact ⟨0, none, 0, Nat.zero_le _, rfl, by simp [outK], by simpa [outK] using outs_nil _ _, Below.refl _ _⟩
        case round =>
          obtain ⟨k, a', c', hk, rfl, rfl, hO, hbel⟩ := hrel
          have hol := outK_len pre false ps k
          have hsz := hbel.size
          by_cases hkn : k < n
          · obtain ⟨g, rfl, hg, hc⟩ := M.at_ (by omega)
            have c0 := (hbel.cell (p := ⟨g, k * 2, none⟩) hg).trans (hc k hkn).1
            have HY := hide (fun h => outK_yes (pre := pre) (found := false) (ps := ps) (k := k) (by rw [M.len]; exact hkn) h)
            have HN := hide (fun h => outK_no (pre := pre) (found := false) (ps := ps) (k := k) (by rw [M.len]; exact hkn) h)
            generalize ps.getD k ByteArray.empty = p at c0 HY HN
            clear hc
            cases hpre : isPre p (pre ++ slash)
            · have HE := hide (unhide HN hpre)
              clear HY HN
              go_wp2_with (first | (go_at_call 11; refine (starts11 _ _ _).mono ?_; rintro e w' ⟨rfl, rfl⟩))
              go_roundw
              case rel => first | exact ⟨k + 1, a', c', by omega, by go_num, by rw [unhide HE], by rw [unhide HE]; exact hO, hbel⟩ | ((repeat apply Exists.intro); exact ⟨⟨k + 1, a', c', by omega, by go_num, by rw [unhide HE], by rw [unhide HE]; exact hO, hbel⟩, rfl⟩)
              case measure => simp [intOf]; omega
            · have HE := hide (unhide HY hpre)
              clear HY HN
              go_wp2_with (first | (go_at_call 11; refine (starts11 _ _ _).mono ?_; rintro e w' ⟨rfl, rfl⟩) | (at_builtin; refine wpList_append_own _ rfl _ _ 25 rfl _ 9 i0 (.string ByteArray.empty) 1 16 Yba.underlying25 hi hz0 hz1 hz2 rfl (by decide) _ _ _ rfl (hO.own.alloc _) ⟨_, 0, none⟩ 1 1 [.string p] rfl rfl (cell_one_new _ _ _) (by simp [Value.oneCell']) (by unfold maxLen; omega) (by omega) (by simp; omega) ?_; intro v' w5 hown5 hgrow5 _))
              have hb5 := (hbel.alloc hbel.size _).grown hgrow5 (by simp; omega) (fun x hx => (hO.own.lt x hx).1)
              obtain ⟨a5, c5, rfl⟩ := own_slice hown5
              have hO5 := Outs.snoc hown5 rfl
              clear hown5 hgrow5 hO hbel
              go_wp2
              go_roundw
              case rel => first | exact ⟨k + 1, a5, c5, by omega, by go_num, by rw [unhide HE, List.length_append]; rfl, by rw [unhide HE, List.length_append]; exact hO5, hb5⟩ | ((repeat apply Exists.intro); exact ⟨⟨k + 1, a5, c5, by omega, by go_num, by rw [unhide HE, List.length_append]; rfl, by rw [unhide HE, List.length_append]; exact hO5, hb5⟩, rfl⟩)
              case measure => simp [intOf]; omega
          · have hke : k = n := by omega
            have he := outK_end (pre := pre) M.len
            rw [hf, ← hke] at he
            rw [he] at hO
            have HE := hide he
            clear he
            go_wp2
            go_ret
            exact ⟨a', c', ret_slice (by rw [unhide HE]), hO, hbel⟩
      · go_wp2_with (first | (at_builtin; refine wpList_append_own _ rfl _ _ 25 rfl wr.heap.size 9 i0 (.string ByteArray.empty) 1 16 Yba.underlying25 hi hz0 hz1 hz2 rfl (by decide) _ _ _ rfl (World.ownsRow_nil _ _ _ _) ⟨wr.heap.size, 0, none⟩ 1 1 [.string pre] rfl rfl (cell_one_new _ _ _) (by simp [Value.oneCell']) (by unfold maxLen; omega) (by omega) (by simp) ?_; intro v' w5 hown5 hgrow5 _))
        have hb5 : Below wr.heap.size wr w5 := ((Below.refl _ _).alloc (Nat.le_refl _) _).grown hgrow5 (by simp) (fun x hx => by cases hx)
        obtain ⟨a5, c5, rfl⟩ := own_slice hown5
        have hO5 := Outs.snoc (ss := []) hown5 rfl
        clear hown5 hgrow5
        go_wp2
        go_loopw [8, 10] (fun v j wx => ∃ k a' c', k ≤ n ∧ j = .int .i64 (k : Nat) ∧ v = .slice a' (outK pre true ps k).length c' ∧ Outs wr.heap.size wx a' (outK pre true ps k).length c' (outK pre true ps k) ∧ Below wr.heap.size wr wx) (fun _ j _ => n - (intOf j).toNat)
        case atStart => exact ⟨0, a5, c5, Nat.zero_le _, rfl, by simp [outK], by simpa [outK] using hO5, hb5⟩
        case round =>
          obtain ⟨k, a', c', hk, rfl, rfl, hO, hbel⟩ := hrel
          have hol := outK_len pre true ps k
          have hsz := hbel.size
          by_cases hkn : k < n
          · obtain ⟨g, rfl, hg, hc⟩ := M.at_ (by omega)
            have c0 := (hbel.cell (p := ⟨g, k * 2, none⟩) hg).trans (hc k hkn).1
            have HY := hide (fun h => outK_yes (pre := pre) (found := true) (ps := ps) (k := k) (by rw [M.len]; exact hkn) h)
            have HN := hide (fun h => outK_no (pre := pre) (found := true) (ps := ps) (k := k) (by rw [M.len]; exact hkn) h)
            generalize ps.getD k ByteArray.empty = p at c0 HY HN
            clear hc
            cases hpre : isPre p (pre ++ slash)
            · have HE := hide (unhide HN hpre)
              clear HY HN
              go_wp2_with (first | (go_at_call 11; refine (starts11 _ _ _).mono ?_; rintro e w' ⟨rfl, rfl⟩))
              go_roundw
              case rel => first | exact ⟨k + 1, a', c', by omega, by go_num, by rw [unhide HE], by rw [unhide HE]; exact hO, hbel⟩ | ((repeat apply Exists.intro); exact ⟨⟨k + 1, a', c', by omega, by go_num, by rw [unhide HE], by rw [unhide HE]; exact hO, hbel⟩, rfl⟩)
              case measure => simp [intOf]; omega
            · have HE := hide (unhide HY hpre)
              clear HY HN
              go_wp2_with (first | (go_at_call 11; refine (starts11 _ _ _).mono ?_; rintro e w' ⟨rfl, rfl⟩) | (at_builtin; refine wpList_append_own _ rfl _ _ 25 rfl _ 9 i0 (.string ByteArray.empty) 1 16 Yba.underlying25 hi hz0 hz1 hz2 rfl (by decide) _ _ _ rfl (hO.own.alloc _) ⟨_, 0, none⟩ 1 1 [.string p] rfl rfl (cell_one_new _ _ _) (by simp [Value.oneCell']) (by unfold maxLen; omega) (by omega) (by simp; omega) ?_; intro v' w5 hown5 hgrow5 _))
              have hb5 := (hbel.alloc hbel.size _).grown hgrow5 (by simp; omega) (fun x hx => (hO.own.lt x hx).1)
              obtain ⟨a5, c5, rfl⟩ := own_slice hown5
              have hO5 := Outs.snoc hown5 rfl
              clear hown5 hgrow5 hO hbel
              go_wp2
              go_roundw
              case rel => first | exact ⟨k + 1, a5, c5, by omega, by go_num, by rw [unhide HE, List.length_append]; rfl, by rw [unhide HE, List.length_append]; exact hO5, hb5⟩ | ((repeat apply Exists.intro); exact ⟨⟨k + 1, a5, c5, by omega, by go_num, by rw [unhide HE, List.length_append]; rfl, by rw [unhide HE, List.length_append]; exact hO5, hb5⟩, rfl⟩)
              case measure => simp [intOf]; omega
          · have hke : k = n := by omega
            have he := outK_end (pre := pre) M.len
            rw [hf, ← hke] at he
            rw [he] at hO
            have HE := hide he
            clear he
            go_wp2
            go_ret
            exact ⟨a', c', ret_slice (by rw [unhide HE]), hO, hbel⟩

end Go.Proofs.Ybulkahwi
