/-
  THE WALKS of the small functions that LawS1680CWaits calls.
-/
import Derived.Test.YbulkahtqFmtRunW
namespace Go.Proofs.YbulkahtqFmt
open Go.RowKit Go.WideMaps Go.Maps Kit

/-- The four names. -/
def nmB (j : Nat) : ByteArray := if j = 0 then ⟨#[97]⟩ else if j = 1 then ⟨#[98]⟩ else if j = 2 then ⟨#[99]⟩ else ⟨#[100]⟩
theorem nmB_size (j : Nat) : (nmB j).size ≤ maxLen := by
  unfold nmB
  split
  · decide
  · split
    · decide
    · split <;> decide
theorem nmB_inj {i j : Nat} (hi : i < 4) (hj : j < 4) (h : nmB i = nmB j) : i = j := by
  have key : ∀ a b : Fin 4, nmB a = nmB b → a = b := by decide
  have := key ⟨i, hi⟩ ⟨j, hj⟩ h
  simpa using this

set_option maxHeartbeats 400000 in
theorem name_any (v : Nat) (hv : v < 256) (w : World) : Calls Ybaf.prog 12 #[.int .u8 (v : Int)] w fun e w' => e = .returned (.string (nmB (v % 4))) ∧ w' = w := by
  have hm : v % 4 = 0 ∨ v % 4 = 1 ∨ v % 4 = 2 ∨ v % 4 = 3 := by omega
  have hc : (v : Int) % 4 = ((v % 4 : Nat) : Int) := by omega
  have ht : Int.tmod (v : Int) 4 = ((v % 4 : Nat) : Int) := by rw [Int.tmod_eq_emod_of_nonneg (by omega)]; exact hc
  rcases hm with h | h | h | h
  all_goals
    rw [h] at hc ht ⊢
    go_enter Ybaf.func12, Ybaf.ntmps12
    go_wp2
    go_ret
    exact ⟨rfl, rfl⟩

theorem str_same' (s t : ByteArray) : (s.toList == t.toList) = decide (s = t) := by
  rw [Bool.eq_iff_iff, beq_iff_eq, decide_eq_true_iff, ByteArray.toList_eq, ByteArray.toList_eq]
  constructor
  · intro h
    cases s; cases t
    simp only [ByteArray.mk.injEq]
    exact Array.toList_inj.1 h
  · rintro rfl; rfl

set_option maxHeartbeats 400000 in
theorem index_any (a : Option Addr) (n c : Nat) (xs : List ByteArray) (x : ByteArray) (w : World) (hn : n ≤ 1024) (hl : xs.length = n)
    (h : 0 < n → ∃ b off, a = some ⟨b, off, none⟩ ∧ ∀ i, i < n → w.cell? ⟨b, off + i, none⟩ = some (.string (xs.getD i ByteArray.empty))) :
    Calls Ybaf.prog 28 #[.slice a n c, .string x] w fun e w' => ∃ i : Int, e = .returned (.int .i64 i) ∧ (0 ≤ i ↔ x ∈ xs) ∧ -1 ≤ i ∧ i ≤ 1024 ∧ w' = w := by
  go_enter Ybaf.func28, Ybaf.ntmps28
  go_wp2
  go_loopw [8] (fun i wx => ∃ k : Nat, k ≤ n ∧ i = .int .i64 k ∧ (∀ j, j < k → x ≠ xs.getD j ByteArray.empty) ∧ wx = w) (fun i _ => n - (intOf i).toNat)
  case atStart => exact ⟨0, Nat.zero_le _, rfl, fun j hj => absurd hj (by omega), rfl⟩
  case round =>
    obtain ⟨k, hk, rfl, hne, hwr⟩ := hrel
    subst hwr
    have HN := hide hne
    clear hne
    by_cases hkn : k < n
    · obtain ⟨b, off, rfl, hc⟩ := h (by omega)
      have q0 := hc k hkn
      obtain ⟨y, hy⟩ : ∃ y, y = xs.getD k ByteArray.empty := ⟨_, rfl⟩
      rw [← hy] at q0
      have HY := hide hy
      clear hc hy h
      go_wp2
      · go_ret
        rename_i hxy
        rw [str_same'] at hxy
        have hxy := of_decide_eq_true hxy
        refine ⟨k, rfl, ⟨fun _ => ?_, fun _ => by omega⟩, by omega, by omega, rfl⟩
        rw [hxy, unhide HY, List.getD, List.getElem?_eq_getElem (by omega)]
        exact List.getElem_mem _
      · rename_i hxy
        go_roundw
        case rel =>
          rw [str_same'] at hxy
          have hxy := of_decide_eq_false hxy
          refine ⟨k + 1, by omega, by go_num, fun j hj => ?_, trivial⟩
          by_cases hjk : j = k
          · rw [hjk, ← unhide HY]; exact hxy
          · exact unhide HN j (by omega)
        case measure => simp [intOf]; omega
    · have hke : k = n := by omega
      go_wp2
      go_ret
      refine ⟨-1, rfl, ⟨fun h => absurd h (by omega), fun hm => ?_⟩, by omega, by omega, rfl⟩
      obtain ⟨j, hj, e⟩ := List.getElem_of_mem hm
      exact absurd (by rw [List.getD, List.getElem?_eq_getElem hj, Option.getD_some, e]) (unhide HN j (by omega))

set_option maxHeartbeats 400000 in
theorem contains_any (a : Option Addr) (n c : Nat) (xs : List ByteArray) (x : ByteArray) (w : World) (hn : n ≤ 1024) (hl : xs.length = n)
    (h : 0 < n → ∃ b off, a = some ⟨b, off, none⟩ ∧ ∀ i, i < n → w.cell? ⟨b, off + i, none⟩ = some (.string (xs.getD i ByteArray.empty))) :
    Calls Ybaf.prog 13 #[.slice a n c, .string x] w fun e w' => ∃ t : Bool, e = .returned (.bool t) ∧ (t = true ↔ x ∈ xs) ∧ w' = w := by
  go_enter Ybaf.func13, Ybaf.ntmps13
  go_wp2_with (go_at_call 28; refine (index_any a n c xs x w hn hl h).mono ?_; rintro e w' ⟨i, rfl, hi, hi1, hi2, hw⟩; rw [hw]; clear hw w')
  go_ret
  exact ⟨_, rfl, by rw [decide_eq_true_iff]; exact hi, rfl⟩

section
variable {base : Nat} {R : Nat → Role} {g pm wm : Nat} {T W : Nat → List Nat} {E : Nat × Nat → Option Nat} {nm : Nat → ByteArray} {pf : Lit → Option Value} {N : Nat}

theorem zero68' (w : World) : (zeroValue 68).run Ybaf.prog w = .ok (.pointer none) w := by kernel_rfl

set_option maxHeartbeats 400000 in
theorem find_is (w : World) (h : Lay base w R g pm wm T W E nm pf N) (x : ByteArray) (hx : x.size ≤ maxLen) (p : Nat) (hp : pf (keyL x) = some (ptr p)) :
    Calls Ybaf.prog 15 #[ptr g, .string x] w fun e w' => e = .returned (ptr p) ∧ w' = w := by
  obtain ⟨c, lc, li, cv, iv, xc, xi, hg, _⟩ := h.gr.ex
  have g0 := cell_of_blk hg (i := 0) rfl
  have hm := h.pm_is
  clear hg
  go_enter Ybaf.func15, Ybaf.ntmps15
  go_wp2_with (at_lookup; refine wpList_look_is _ rfl _ _ 97 rfl 9 68 law9 Ybaf.underlying97 (zero68' _) rfl hm rfl (key_is hx) ?_; rw [hp])
  go_ret
  exact ⟨rfl, rfl⟩
end

set_option maxHeartbeats 400000 in
theorem targetsOf_any (p : Nat) (v : Value) (w : World) (a : Option Addr) (n c : Nat) (hv : v = .slice a n c) (h : w.cell? ⟨p, 2, none⟩ = some v) : Calls Ybaf.prog 16 #[ptr p] w fun e w' => e = .returned v ∧ w' = w := by
  subst hv
  go_enter Ybaf.func16, Ybaf.ntmps16
  go_wp2
  go_ret
  exact ⟨rfl, rfl⟩

set_option maxHeartbeats 400000 in
theorem nameOf_any (p : Nat) (x : ByteArray) (w : World) (h : w.cell? ⟨p, 0, none⟩ = some (.string x)) : Calls Ybaf.prog 17 #[ptr p] w fun e w' => e = .returned (.string x) ∧ w' = w := by
  go_enter Ybaf.func17, Ybaf.ntmps17
  go_wp2
  go_ret
  exact ⟨rfl, rfl⟩

end Go.Proofs.YbulkahtqFmt
