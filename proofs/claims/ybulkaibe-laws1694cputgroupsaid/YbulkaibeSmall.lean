/-
  THE WALKS of small functions: priority, Contains, Compare, Or, rank, DependsOn.
-/
import Derived.Test.YbulkaibeRoom
import Derived.LaidEql
namespace Go.Proofs.Ybulkaibe
open Go.RowKit Go.WideMaps Go.Maps Kit
open Go.ChangeMaps (setBlock heap_setBlock_other)

def IsCells (w : World) (p : Nat) : Prop := ∃ c t, w.heap[p]? = some (.cells c t (0, 0))
theorem pointee52 : Yba.prog.underlying 52 = some (.pointer 60) := by kernel_rfl
theorem size60 : ∃ i, Yba.prog.info? 60 = some i ∧ i.size ≠ 0 := by
  have h : (Yba.prog.info? 60).map (fun i => decide (i.size ≠ 0)) = some true := by kernel_rfl
  cases hi : Yba.prog.info? 60 with
  | none => rw [hi] at h; cases h
  | some i => rw [hi] at h; exact ⟨i, rfl, by simp at h; exact h⟩
theorem equal_ptr (w : World) (d : Nat) {p q : Nat} (hp : IsCells w p) (hq : IsCells w q) : (Op.equalIn (d + 1) 52 (ptr p) (ptr q)).run Yba.prog w = .ok (decide (p = q)) w := by
  obtain ⟨i, hi, hs⟩ := size60
  obtain ⟨c, t, hc⟩ := hp
  obtain ⟨c', t', hc'⟩ := hq
  by_cases h : p = q
  · subst h
    simp [Op.equalIn, run_underlying pointee52, typeInfo, sizeOf, hi, run_sameAddr_same]
  · have hne : (⟨p, 0, none⟩ : Addr) ≠ ⟨q, 0, none⟩ := fun e => h (congrArg Addr.block e)
    simp [Op.equalIn, run_underlying pointee52, typeInfo, sizeOf, hi, hs, run_sameAddr_other w hne hc hc', h]
theorem eql_ptr (w : World) {p q : Nat} (hp : IsCells w p) (hq : IsCells w q) : (binOp .eql 52 (ptr p) (ptr q)).run Yba.prog w = .ok (.bool (decide (p = q))) w := by
  simp only [binOp]
  simp [Op.equal, Op.maxDepth, equal_ptr w 9999 hp hq]
theorem neq_ptr (w : World) {p q : Nat} (hp : IsCells w p) (hq : IsCells w q) : (binOp .neq 52 (ptr p) (ptr q)).run Yba.prog w = .ok (.bool (!decide (p = q))) w := by
  simp only [binOp]
  simp [Op.equal, Op.maxDepth, equal_ptr w 9999 hp hq]

/-- A priority as the program orders it. -/
def prM (p : Nat) : Int := if p = 0 then 9223372036854775807 else p

set_option maxHeartbeats 400000 in
theorem priority_any (pb p : Nat) (w : World) (h : w.cell? ⟨pb, 5, none⟩ = some (.int .i64 p)) (hp : p < 4) : Calls Yba.prog 23 #[ptr pb] w fun e w' => e = .returned (.int .i64 (prM p)) ∧ w' = w := by
  by_cases h0 : p = 0
  · subst h0
    go_enter Yba.func23, Yba.ntmps23
    go_wp2
    go_ret
    exact ⟨rfl, rfl⟩
  · have hne : ((p : Int) = 0) = False := by simp; omega
    go_enter Yba.func23, Yba.ntmps23
    go_wp2
    go_ret
    exact ⟨by simp [prM, h0], rfl⟩

set_option maxHeartbeats 400000 in
theorem zzpri_any (p : Nat) (w : World) (hp : p < 4) : Calls Yba.prog 7 #[.int .i64 p] w fun e w' => e = .returned (.int .i64 (if p = 0 then 1000 else p)) ∧ w' = w := by
  by_cases h0 : p = 0
  · subst h0
    go_enter Yba.func7, Yba.ntmps7
    go_wp2
    go_ret
    exact ⟨rfl, rfl⟩
  · have hne : ((p : Int) = 0) = False := by simp; omega
    go_enter Yba.func7, Yba.ntmps7
    go_wp2
    go_ret
    exact ⟨rfl, rfl⟩

set_option maxHeartbeats 400000 in
theorem index_any (a : Option Addr) (n c : Nat) (xs : List Nat) (x : Nat) (w : World) (hn : n ≤ 1024) (hl : xs.length = n) (hcx : IsCells w x) (hcs : ∀ y ∈ xs, IsCells w y) (h : 0 < n → ∃ b, a = some ⟨b, 0, none⟩ ∧ ∀ i, i < n → w.cell? ⟨b, i, none⟩ = some (ptr (xs.getD i 0))) :
    Calls Yba.prog 34 #[.slice a n c, ptr x] w fun e w' => ∃ i : Int, e = .returned (.int .i64 i) ∧ (0 ≤ i ↔ x ∈ xs) ∧ -1 ≤ i ∧ i ≤ 1024 ∧ w' = w := by
  go_enter Yba.func34, Yba.ntmps34
  go_wp2
  go_loopw [8] (fun i wx => ∃ k : Nat, k ≤ n ∧ i = .int .i64 k ∧ (∀ j, j < k → x ≠ xs.getD j 0) ∧ wx = w) (fun i _ => n - (intOf i).toNat)
  case atStart => exact ⟨0, Nat.zero_le _, rfl, fun j hj => absurd hj (by omega), rfl⟩
  case round =>
    obtain ⟨k, hk, rfl, hne, hwr⟩ := hrel
    replace hwr := hwr.symm
    subst hwr
    have HN := hide hne
    clear hne
    by_cases hkn : k < n
    · obtain ⟨b, rfl, hc⟩ := h (by omega)
      have q0 := hc k hkn
      obtain ⟨y, hy⟩ : ∃ y, y = xs.getD k 0 := ⟨_, rfl⟩
      rw [← hy] at q0
      have hcy : IsCells w y := hcs y (by rw [hy, List.getD, List.getElem?_eq_getElem (by omega)]; exact List.getElem_mem _)
      have heq := eql_ptr w hcx hcy
      have HY := hide hy
      clear hc hy h hcs hcx hcy
      by_cases hxy : x = y
      · rw [decide_eq_true hxy] at heq
        have HXY := hide hxy
        clear hxy
        go_wp2
        go_ret
        refine ⟨k, rfl, ⟨fun _ => ?_, fun _ => by omega⟩, by omega, by omega, rfl⟩
        rw [unhide HXY, unhide HY, List.getD, List.getElem?_eq_getElem (by omega)]
        exact List.getElem_mem _
      · rw [decide_eq_false hxy] at heq
        have HXY := hide hxy
        clear hxy
        go_wp2
        go_roundw
        case rel =>
          refine ⟨k + 1, by omega, by go_num, fun j hj => ?_, trivial⟩
          by_cases hjk : j = k
          · rw [hjk, ← unhide HY]; exact unhide HXY
          · exact unhide HN j (by omega)
        case measure => simp [intOf]; omega
    · have hke : k = n := by omega
      go_wp2
      go_ret
      refine ⟨-1, rfl, ⟨fun h => absurd h (by omega), fun hm => ?_⟩, by omega, by omega, rfl⟩
      obtain ⟨j, hj, e⟩ := List.getElem_of_mem hm
      exact absurd (by rw [List.getD, List.getElem?_eq_getElem hj, Option.getD_some, e]) (unhide HN j (by omega))

set_option maxHeartbeats 400000 in
theorem contains_any (a : Option Addr) (n c : Nat) (xs : List Nat) (x : Nat) (w : World) (hn : n ≤ 1024) (hl : xs.length = n) (hcx : IsCells w x) (hcs : ∀ y ∈ xs, IsCells w y) (h : 0 < n → ∃ b, a = some ⟨b, 0, none⟩ ∧ ∀ i, i < n → w.cell? ⟨b, i, none⟩ = some (ptr (xs.getD i 0))) :
    Calls Yba.prog 24 #[.slice a n c, ptr x] w fun e w' => e = .returned (.bool (decide (x ∈ xs))) ∧ w' = w := by
  go_enter Yba.func24, Yba.ntmps24
  go_wp2_with (go_at_call 34; refine (index_any a n c xs x w hn hl hcx hcs h).mono ?_; rintro e w' ⟨i, rfl, hi, hi1, hi2, hw⟩; rw [hw]; clear hw w')
  go_ret
  exact ⟨rfl, rfl⟩

set_option maxHeartbeats 400000 in
theorem nan_int (n : Int) (w : World) : Calls Yba.prog 43 #[.int .i64 n] w fun e w' => e = .returned (.bool false) ∧ w' = w := by
  go_enter Yba.func43, Yba.ntmps43
  go_wp2
  go_ret
  exact ⟨rfl, rfl⟩
set_option maxHeartbeats 400000 in
theorem nan_str (s : ByteArray) (w : World) : Calls Yba.prog 44 #[.string s] w fun e w' => e = .returned (.bool false) ∧ w' = w := by
  go_enter Yba.func44, Yba.ntmps44
  go_wp2
  go_ret
  exact ⟨rfl, rfl⟩

def cmpI (a b : Int) : Int := if a < b then -1 else if a > b then 1 else 0

set_option maxHeartbeats 400000 in
theorem compare_int (a b : Int) (w : World) : Calls Yba.prog 39 #[.int .i64 a, .int .i64 b] w fun e w' => e = .returned (.int .i64 (cmpI a b)) ∧ w' = w := by
  by_cases h1 : a < b
  · go_enter Yba.func39, Yba.ntmps39
    go_wp2_with (go_at_call 43; refine (nan_int _ _).mono ?_; rintro e w' ⟨rfl, hw⟩; rw [hw]; clear hw w')
    go_ret
    exact ⟨by simp [cmpI, h1], rfl⟩
  · by_cases h2 : b < a
    · go_enter Yba.func39, Yba.ntmps39
      go_wp2_with (go_at_call 43; refine (nan_int _ _).mono ?_; rintro e w' ⟨rfl, hw⟩; rw [hw]; clear hw w')
      go_ret
      exact ⟨by simp [cmpI, h1, h2], rfl⟩
    · go_enter Yba.func39, Yba.ntmps39
      go_wp2_with (go_at_call 43; refine (nan_int _ _).mono ?_; rintro e w' ⟨rfl, hw⟩; rw [hw]; clear hw w')
      go_ret
      exact ⟨by unfold cmpI; rw [if_neg (Int.not_lt.2 h1), if_neg (Int.not_lt.2 h2)]; rfl, rfl⟩

/-- The packages' names. -/
def pnm (i : Nat) : ByteArray := ⟨#[112, (48 + i).toUInt8]⟩

theorem less_pnm (i j : Nat) (hi : i < 6) (hj : j < 6) : Op.bytesLess (pnm i).toList (pnm j).toList = decide (i < j) := by
  have key : ∀ a b : Fin 6, Op.bytesLess (pnm a).toList (pnm b).toList = decide (a.1 < b.1) := by decide +kernel
  exact key ⟨i, hi⟩ ⟨j, hj⟩

theorem gtr_pnm (i j : Nat) (hi : i < 6) (hj : j < 6) (w : World) : (binOp .gtr 9 (.string (pnm i)) (.string (pnm j))).run Yba.prog w = .ok (.bool (decide (j < i))) w := by
  have h1 := less_pnm i j hi hj
  have h2 : ((pnm i).toList == (pnm j).toList) = decide (i = j) := by
    have key : ∀ a b : Fin 6, ((pnm a).toList == (pnm b).toList) = decide (a.1 = b.1) := by decide +kernel
    exact key ⟨i, hi⟩ ⟨j, hj⟩
  simp only [binOp, Op.stringOp, h1, h2]
  show Result.ok (Value.bool (!(decide (i < j) || decide (i = j)))) w = _
  congr 2
  rw [Bool.eq_iff_iff]
  simp
  omega

set_option maxHeartbeats 800000 in
theorem compare_str (i j : Nat) (hi : i < 6) (hj : j < 6) (w : World) : Calls Yba.prog 40 #[.string (pnm i), .string (pnm j)] w fun e w' => e = .returned (.int .i64 (cmpI i j)) ∧ w' = w := by
  have h1 := less_pnm i j hi hj
  have h2 := less_pnm j i hj hi
  have hgt := gtr_pnm i j hi hj
  have e : cmpI i j = if i < j then -1 else if j < i then 1 else 0 := by unfold cmpI; simp
  rw [e]
  by_cases h : i < j
  · rw [if_pos h]
    rw [decide_eq_true h] at h1
    clear h2 hgt
    go_enter Yba.func40, Yba.ntmps40
    go_wp2_with (go_at_call 44; refine (nan_str _ _).mono ?_; rintro e w' ⟨rfl, hw⟩; rw [hw]; clear hw w')
    go_ret
    exact ⟨rfl, rfl⟩
  · rw [if_neg h]
    rw [decide_eq_false h] at h1
    by_cases h' : j < i
    · rw [if_pos h']
      rw [decide_eq_true h'] at h2
      rw [decide_eq_true h'] at hgt
      go_enter Yba.func40, Yba.ntmps40
      go_wp2_with (go_at_call 44; refine (nan_str _ _).mono ?_; rintro e w' ⟨rfl, hw⟩; rw [hw]; clear hw w')
      go_ret
      exact ⟨rfl, rfl⟩
    · rw [if_neg h']
      rw [decide_eq_false h'] at h2
      rw [decide_eq_false h'] at hgt
      go_enter Yba.func40, Yba.ntmps40
      go_wp2_with (go_at_call 44; refine (nan_str _ _).mono ?_; rintro e w' ⟨rfl, hw⟩; rw [hw]; clear hw w')
      go_ret
      exact ⟨rfl, rfl⟩

end Go.Proofs.Ybulkaibe
