/-
  THE WALKS: modulePathsBelow; the law's own model of it.
-/
import Derived.Test.YbulkahwiWalks
namespace Go.Proofs.Ybulkahwi
open Go.RowKit Go.Deep

theorem Yba.info9 : (Yba.prog.info? 9).map (fun i => (i.zero, i.size, i.bytes)) = some (some (.string ByteArray.empty), 1, 16) := by kernel_rfl

abbrev strV (ss : List ByteArray) : List Value := ss.map Value.string
/-- What has been gathered behind k modules. -/
def outK (pre : ByteArray) (found : Bool) (ps : List ByteArray) (k : Nat) : List ByteArray := (if found then [pre] else []) ++ (ps.take k).filter (fun p => isPre p (pre ++ slash))
theorem outK_len (pre : ByteArray) (found : Bool) (ps : List ByteArray) (k : Nat) : (outK pre found ps k).length ≤ k + 1 := by
  unfold outK
  have h1 : ((ps.take k).filter (fun p => isPre p (pre ++ slash))).length ≤ k := Nat.le_trans (List.length_filter_le _ _) (List.length_take_le _ _)
  rw [List.length_append]
  cases found <;> simp <;> omega
theorem outK_yes {pre : ByteArray} {found : Bool} {ps : List ByteArray} {k : Nat} (h : k < ps.length) (hp : isPre (ps.getD k ByteArray.empty) (pre ++ slash) = true) : outK pre found ps (k + 1) = outK pre found ps k ++ [ps.getD k ByteArray.empty] := by
  unfold outK; rw [filter_succ _ _ _ h, if_pos hp, List.append_assoc]
theorem outK_no {pre : ByteArray} {found : Bool} {ps : List ByteArray} {k : Nat} (h : k < ps.length) (hp : isPre (ps.getD k ByteArray.empty) (pre ++ slash) = false) : outK pre found ps (k + 1) = outK pre found ps k := by
  unfold outK; rw [filter_succ _ _ _ h, hp]; simp
theorem outK_end {pre : ByteArray} {ps : List ByteArray} {n : Nat} (h : ps.length = n) : outK pre (ps.any (prov pre)) ps n = model pre ps := by
  unfold outK model; rw [List.take_of_length_le (by omega)]

/-- The slice value is a slice of the call's own strings ss (nil just where there is none). -/
structure Outs (base : Nat) (w : World) (a : Option Addr) (n c : Nat) (ss : List ByteArray) : Prop where
  own : w.ownsRow base 9 1 (.slice a n c) n (strV ss)
  len : ss.length = n
  nil : ss = [] → a = none ∧ c = 0

theorem ret_slice {a : Option Addr} {n n' c : Nat} (h : n = n') : Ending.returned (.slice a n c) = .returned (.slice a n' c) := by rw [h]
theorem own_slice {w : World} {base : Nat} {e : TypeId} {size : Nat} {v : Value} {n : Nat} {xs : List Value} (h : w.ownsRow base e size v n xs) : ∃ a c, v = .slice a n c := by
  rcases h.2 with ⟨rfl, rfl⟩ | ⟨g, cap, cur, rfl, _⟩
  · exact ⟨_, _, rfl⟩
  · exact ⟨_, _, rfl⟩

theorem Outs.below {base : Nat} {w w' : World} {a : Option Addr} {n c : Nat} {ss : List ByteArray} (h : Outs base w a n c ss) (hb : Below w.heap.size w w') : Outs base w' a n c ss := by
  refine ⟨⟨h.own.1, ?_⟩, h.len, h.nil⟩
  rcases h.own.2 with h2 | ⟨g, cap, cur, he, h1, h2, h3⟩
  · exact .inl h2
  · exact .inr ⟨g, cap, cur, he, h1, (hb.block g (h.own.lt g (by rw [he]; rfl)).2).trans h2, h3⟩
theorem Outs.mono {base base' : Nat} {w : World} {a : Option Addr} {n c : Nat} {ss : List ByteArray} (h : Outs base w a n c ss) (hb : base' ≤ base) : Outs base' w a n c ss := ⟨h.own.mono hb, h.len, h.nil⟩
theorem outs_nil (base : Nat) (w : World) : Outs base w none 0 0 [] := ⟨World.ownsRow_nil _ _ _ _, rfl, fun _ => ⟨rfl, rfl⟩⟩
theorem Outs.snoc {base : Nat} {w : World} {a : Option Addr} {n c : Nat} {ss : List ByteArray} {p : ByteArray} (h : w.ownsRow base 9 1 (.slice a (n + 1) c) (n + 1) (strV ss ++ [.string p])) (hl : ss.length = n) : Outs base w a (n + 1) c (ss ++ [p]) :=
  ⟨by simpa [strV] using h, by simp [hl], fun e => by simp at e⟩

set_option maxHeartbeats 2000000 in
theorem below_any (pre : ByteArray) (a : Option Addr) (n c : Nat) (ps vs : List ByteArray) (w : World) (hn : n ≤ 2048) (hp : pre.size ≤ 4096) (M : Mods w a n c ps vs) :
    Calls Yba.prog 6 #[.string pre, .slice a n c] w fun e w' => ∃ a' c', e = .returned (.slice a' (model pre ps).length c') ∧ Outs w.heap.size w' a' (model pre ps).length c' (model pre ps) ∧ Below w.heap.size w w' := by
  obtain ⟨i0, hi, hz0, hz1, hz2⟩ := info_parts Yba.info9
  go_enter Yba.func6, Yba.ntmps6
  go_wp2_with fail
  refine (provider_any pre a n c ps vs w hn M).mono ?_
  rintro e w1 ⟨⟨i, r, rfl⟩, hb1⟩
  have hz := hb1.size
  have HM := hide (M.below hb1)
  cases hf : ps.any (prov pre)
  · go_wp2
    go_loopw [5, 25] (fun v j wr => ∃ k a' c', k ≤ n ∧ j = .int .i64 (k : Nat) ∧ v = .slice a' (outK pre false ps k).length c' ∧ Outs w.heap.size wr a' (outK pre false ps k).length c' (outK pre false ps k) ∧ Below w.heap.size w wr) (fun _ j _ => n - (intOf j).toNat)
    case atStart => exact ⟨0, none, 0, Nat.zero_le _, rfl, by simp [outK], by simpa [outK] using outs_nil _ _, hb1⟩
    case round =>
      obtain ⟨k, a', c', hk, rfl, rfl, hO, hbel⟩ := hrel
      have hol := outK_len pre false ps k
      have hsz := hbel.size
      by_cases hkn : k < n
      · obtain ⟨g, rfl, hg, hc⟩ := M.at_ (by omega)
        have c0 := (hbel.cell (p := ⟨g, k * 2, none⟩) hg).trans (hc k hkn).1
        have c1 := (hbel.cell (p := ⟨g, k * 2 + 1, none⟩) hg).trans (hc k hkn).2
        have HY := hide (fun h => outK_yes (pre := pre) (found := false) (ps := ps) (k := k) (by rw [M.len]; exact hkn) h)
        have HN := hide (fun h => outK_no (pre := pre) (found := false) (ps := ps) (k := k) (by rw [M.len]; exact hkn) h)
        generalize ps.getD k ByteArray.empty = p at c0 HY HN
        generalize vs.getD k ByteArray.empty = v at c1
        clear hc
        cases hpre : isPre p (pre ++ slash)
        · have HE := hide (unhide HN hpre)
          clear HY HN
          go_wp2_with (first | (go_at_call 10; refine (has10 _ _ _).mono ?_; rintro e w' ⟨rfl, rfl⟩))
          go_roundw
          case rel => first | exact ⟨k + 1, a', c', by omega, by go_num, by rw [unhide HE], by rw [unhide HE]; exact hO.below ((Below.refl _ _).alloc (Nat.le_refl _) _), hbel.alloc hbel.size _⟩ | ((repeat apply Exists.intro); exact ⟨⟨k + 1, a', c', by omega, by go_num, by rw [unhide HE], by rw [unhide HE]; exact hO.below ((Below.refl _ _).alloc (Nat.le_refl _) _), hbel.alloc hbel.size _⟩, rfl⟩)
          case measure => simp [intOf]; omega
        · have HE := hide (unhide HY hpre)
          clear HY HN
          go_wp2_with (first | (go_at_call 10; refine (has10 _ _ _).mono ?_; rintro e w' ⟨rfl, rfl⟩) | (at_builtin; refine wpList_append_own _ rfl _ _ 25 rfl w.heap.size 9 i0 (.string ByteArray.empty) 1 16 Yba.underlying25 hi hz0 hz1 hz2 rfl (by decide) _ _ _ rfl ((hO.own.alloc _).alloc _) ⟨_, 0, none⟩ 1 1 [.string p] rfl rfl (by have := cell_one_new (wr.alloc (.cells #[.string p, .string v] 30)) (.string p) 9; simpa only [World.size_alloc] using this) (by simp [Value.oneCell']) (by unfold maxLen; omega) (by omega) (by simp; omega) ?_; intro v' w5 hown5 hgrow5 _))
          have hb5 : Below w.heap.size w w5 := ((hbel.alloc hbel.size _).alloc (by simp; omega) _).grown hgrow5 (by simp; omega) (fun x hx => (hO.own.lt x hx).1)
          obtain ⟨a5, c5, rfl⟩ := own_slice hown5
          have hO5 := Outs.snoc hown5 rfl
          clear hown5 hgrow5 hO hbel
          go_wp2
          go_roundw
          case rel => first | exact ⟨k + 1, a5, c5, by omega, by go_num, by rw [unhide HE, List.length_append]; rfl, by rw [unhide HE, List.length_append]; exact hO5, hb5⟩ | ((repeat apply Exists.intro); exact ⟨⟨k + 1, a5, c5, by omega, by go_num, by rw [unhide HE, List.length_append]; rfl, by rw [unhide HE, List.length_append]; exact hO5, hb5⟩, rfl⟩)
          case measure => simp [intOf]; omega
      · have hke : k = n := by omega
        have he := outK_end (pre := pre) M.len
        rw [hf, ← hke] at he
        rw [he] at hO
        have HE := hide he
        clear he
        go_wp2
        go_ret
        exact ⟨a', c', ret_slice (by rw [unhide HE]), hO, hbel⟩
  · go_wp2_with (first | (at_builtin; refine wpList_append_own _ rfl _ _ 25 rfl w.heap.size 9 i0 (.string ByteArray.empty) 1 16 Yba.underlying25 hi hz0 hz1 hz2 rfl (by decide) _ _ _ rfl (World.ownsRow_nil _ _ _ _) ⟨w1.heap.size, 0, none⟩ 1 1 [.string pre] rfl rfl (cell_one_new _ _ _) (by simp [Value.oneCell']) (by unfold maxLen; omega) (by omega) (by simp; omega) ?_; intro v' w5 hown5 hgrow5 _))
    have hb5 : Below w.heap.size w w5 := (hb1.alloc hz _).grown hgrow5 (by simp; omega) (fun x hx => by cases hx)
    obtain ⟨a5, c5, rfl⟩ := own_slice hown5
    have hO5 := Outs.snoc (ss := []) hown5 rfl
    clear hown5 hgrow5
    go_wp2
    go_loopw [5, 25] (fun v j wr => ∃ k a' c', k ≤ n ∧ j = .int .i64 (k : Nat) ∧ v = .slice a' (outK pre true ps k).length c' ∧ Outs w.heap.size wr a' (outK pre true ps k).length c' (outK pre true ps k) ∧ Below w.heap.size w wr) (fun _ j _ => n - (intOf j).toNat)
    case atStart => exact ⟨0, a5, c5, Nat.zero_le _, rfl, by simp [outK], by simpa [outK] using hO5, hb5⟩
    case round =>
      obtain ⟨k, a', c', hk, rfl, rfl, hO, hbel⟩ := hrel
      have hol := outK_len pre true ps k
      have hsz := hbel.size
      by_cases hkn : k < n
      · obtain ⟨g, rfl, hg, hc⟩ := M.at_ (by omega)
        have c0 := (hbel.cell (p := ⟨g, k * 2, none⟩) hg).trans (hc k hkn).1
        have c1 := (hbel.cell (p := ⟨g, k * 2 + 1, none⟩) hg).trans (hc k hkn).2
        have HY := hide (fun h => outK_yes (pre := pre) (found := true) (ps := ps) (k := k) (by rw [M.len]; exact hkn) h)
        have HN := hide (fun h => outK_no (pre := pre) (found := true) (ps := ps) (k := k) (by rw [M.len]; exact hkn) h)
        generalize ps.getD k ByteArray.empty = p at c0 HY HN
        generalize vs.getD k ByteArray.empty = v at c1
        clear hc
        cases hpre : isPre p (pre ++ slash)
        · have HE := hide (unhide HN hpre)
          clear HY HN
          go_wp2_with (first | (go_at_call 10; refine (has10 _ _ _).mono ?_; rintro e w' ⟨rfl, rfl⟩))
          go_roundw
          case rel => first | exact ⟨k + 1, a', c', by omega, by go_num, by rw [unhide HE], by rw [unhide HE]; exact hO.below ((Below.refl _ _).alloc (Nat.le_refl _) _), hbel.alloc hbel.size _⟩ | ((repeat apply Exists.intro); exact ⟨⟨k + 1, a', c', by omega, by go_num, by rw [unhide HE], by rw [unhide HE]; exact hO.below ((Below.refl _ _).alloc (Nat.le_refl _) _), hbel.alloc hbel.size _⟩, rfl⟩)
          case measure => simp [intOf]; omega
        · have HE := hide (unhide HY hpre)
          clear HY HN
          go_wp2_with (first | (go_at_call 10; refine (has10 _ _ _).mono ?_; rintro e w' ⟨rfl, rfl⟩) | (at_builtin; refine wpList_append_own _ rfl _ _ 25 rfl w.heap.size 9 i0 (.string ByteArray.empty) 1 16 Yba.underlying25 hi hz0 hz1 hz2 rfl (by decide) _ _ _ rfl ((hO.own.alloc _).alloc _) ⟨_, 0, none⟩ 1 1 [.string p] rfl rfl (by have := cell_one_new (wr.alloc (.cells #[.string p, .string v] 30)) (.string p) 9; simpa only [World.size_alloc] using this) (by simp [Value.oneCell']) (by unfold maxLen; omega) (by omega) (by simp; omega) ?_; intro v' w5 hown5 hgrow5 _))
          have hb5 : Below w.heap.size w w5 := ((hbel.alloc hbel.size _).alloc (by simp; omega) _).grown hgrow5 (by simp; omega) (fun x hx => (hO.own.lt x hx).1)
          obtain ⟨a5, c5, rfl⟩ := own_slice hown5
          have hO5 := Outs.snoc hown5 rfl
          clear hown5 hgrow5 hO hbel
          go_wp2
          go_roundw
          case rel => first | exact ⟨k + 1, a5, c5, by omega, by go_num, by rw [unhide HE, List.length_append]; rfl, by rw [unhide HE, List.length_append]; exact hO5, hb5⟩ | ((repeat apply Exists.intro); exact ⟨⟨k + 1, a5, c5, by omega, by go_num, by rw [unhide HE, List.length_append]; rfl, by rw [unhide HE, List.length_append]; exact hO5, hb5⟩, rfl⟩)
          case measure => simp [intOf]; omega
      · have hke : k = n := by omega
        have he := outK_end (pre := pre) M.len
        rw [hf, ← hke] at he
        rw [he] at hO
        have HE := hide he
        clear he
        go_wp2
        go_ret
        exact ⟨a', c', ret_slice (by rw [unhide HE]), hO, hbel⟩

end Go.Proofs.Ybulkahwi
