/-
  THE WALKS of the law's own small functions.
-/
import Derived.Test.YbulkaibeNew
import Derived.Laws.IdiomStrings
namespace Go.Proofs.Ybulkaibe
open Go.RowKit Go.WideMaps Go.Maps Kit
open Go.ChangeMaps (setBlock heap_setBlock_other)

set_option maxRecDepth 20000 in
set_option maxHeartbeats 1000000 in
theorem zzname_any (i : Nat) (hi : i < 6) (w : World) : Calls Yba.prog 4 #[.int .i64 i] w fun e w' => e = .returned (.string (pnm i)) ∧ w' = w.alloc (.cells #[.int .u8 112, .int .u8 (48 + i)] 5) := by
  have hconv : ∀ (x : UInt8) (z : Int), z = x.toNat → (convert 24 9 (.slice (some ⟨w.heap.size, 0, none⟩) 2 2)).run Yba.prog (w.alloc (.cells #[.int .u8 112, .int .u8 z] 5)) = .ok (.string ⟨#[112, x]⟩) (w.alloc (.cells #[.int .u8 112, .int .u8 z] 5)) := fun x z hz => by
    subst hz
    have hb := blk_new w (.cells #[.int .u8 112, .int .u8 x.toNat] 5)
    exact run_convert_bytes_back (P := Yba.prog) (w.alloc (.cells #[.int .u8 112, .int .u8 x.toNat] 5)) 24 9 5 ⟨w.heap.size, 0, none⟩ 2 [112, x] Yba.underlying24 Yba.underlying5 Yba.underlying9 (fun j hj => by
      match j, hj with
      | 0, _ => exact cell_of_blk hb (i := 0) rfl
      | 1, _ => exact cell_of_blk hb (i := 1) rfl)
  have h6 : i = 0 ∨ i = 1 ∨ i = 2 ∨ i = 3 ∨ i = 4 ∨ i = 5 := by omega
  rcases h6 with rfl | rfl | rfl | rfl | rfl | rfl
  · have hc := hconv 48 48 rfl
    clear hconv
    go_enter Yba.func4, Yba.ntmps4
    go_wp2
    go_ret
    exact ⟨rfl, rfl⟩
  · have hc := hconv 49 49 rfl
    clear hconv
    go_enter Yba.func4, Yba.ntmps4
    go_wp2
    go_ret
    exact ⟨rfl, rfl⟩
  · have hc := hconv 50 50 rfl
    clear hconv
    go_enter Yba.func4, Yba.ntmps4
    go_wp2
    go_ret
    exact ⟨rfl, rfl⟩
  · have hc := hconv 51 51 rfl
    clear hconv
    go_enter Yba.func4, Yba.ntmps4
    go_wp2
    go_ret
    exact ⟨rfl, rfl⟩
  · have hc := hconv 52 52 rfl
    clear hconv
    go_enter Yba.func4, Yba.ntmps4
    go_wp2
    go_ret
    exact ⟨rfl, rfl⟩
  · have hc := hconv 53 53 rfl
    clear hconv
    go_enter Yba.func4, Yba.ntmps4
    go_wp2
    go_ret
    exact ⟨rfl, rfl⟩

set_option maxRecDepth 20000 in
set_option maxHeartbeats 1000000 in
theorem zzafter_any (a b k pb pc : Nat) (pri : Nat → Nat) (hp : ∀ i, pri i < 4) (hk : k ≤ 6) (ha : a < k) (hb : b < k) (w : World) (hc : ∀ i, i < k → w.cell? ⟨pb, i, none⟩ = some (.int .i64 (pri i))) :
    Calls Yba.prog 8 #[.int .i64 a, .int .i64 b, .slice (some ⟨pb, 0, none⟩) k pc] w fun e w' => e = .returned (.bool (decide (rk pri b < rk pri a))) ∧ ∃ n, w' = w.drewN n := by
  have ca := hc a ha
  have cb := hc b hb
  have pa := hp a
  have pb4 := hp b
  have za := fun w => zzpri_any (pri a) w pa
  have zb := fun w => zzpri_any (pri b) w pb4
  obtain ⟨xa, hxa⟩ : ∃ xa : Int, xa = if pri a = 0 then 1000 else (pri a : Int) := ⟨_, rfl⟩
  obtain ⟨xb, hxb⟩ : ∃ xb : Int, xb = if pri b = 0 then 1000 else (pri b : Int) := ⟨_, rfl⟩
  have hiff : rk pri b < rk pri a ↔ (xb < xa ∨ (xa = xb ∧ b < a)) := by
    rw [hxa, hxb]; unfold rk
    by_cases h1 : pri a = 0 <;> by_cases h2 : pri b = 0 <;> simp [h1, h2] <;> omega
  have hbd : 0 ≤ xa ∧ xa ≤ 1000 ∧ 0 ≤ xb ∧ xb ≤ 1000 := by
    rw [hxa, hxb]
    by_cases h1 : pri a = 0 <;> by_cases h2 : pri b = 0 <;> simp [h1, h2] <;> omega
  rw [← hxa] at za
  rw [← hxb] at zb
  have HI := hide hiff
  clear hiff hxa hxb hc hp
  generalize pri a = na at ca za pa
  generalize pri b = nb at cb zb pb4
  by_cases h1 : xb < xa
  · have HR := hide ((unhide HI).2 (.inl h1))
    clear HI
    go_enter Yba.func8, Yba.ntmps8
    go_wp2
    go_quiet (first | (go_at_call_of 7 (Value.int .i64 (na : Int)); exact Calls.quiet_of_same (za _)) | (go_at_call_of 7 (Value.int .i64 (nb : Int)); exact Calls.quiet_of_same (zb _)))
    go_wp2
    go_ret
    exact ⟨by rw [decide_eq_true (unhide HR)]; rfl, _, rfl⟩
  · by_cases h2 : xa = xb
    · subst h2
      by_cases h3 : b < a
      · have HR := hide ((unhide HI).2 (.inr ⟨rfl, h3⟩))
        clear HI
        go_enter Yba.func8, Yba.ntmps8
        go_wp2
        go_quiet (first | (go_at_call_of 7 (Value.int .i64 (na : Int)); exact Calls.quiet_of_same (za _)) | (go_at_call_of 7 (Value.int .i64 (nb : Int)); exact Calls.quiet_of_same (zb _)))
        go_wp2
        go_ret
        exact ⟨by rw [decide_eq_true (unhide HR)]; rfl, _, rfl⟩
      · have hn : ¬ rk pri b < rk pri a := fun h => by rcases (unhide HI).1 h with h | h <;> omega
        have HR := hide hn
        clear HI hn
        go_enter Yba.func8, Yba.ntmps8
        go_wp2
        go_quiet (first | (go_at_call_of 7 (Value.int .i64 (na : Int)); exact Calls.quiet_of_same (za _)) | (go_at_call_of 7 (Value.int .i64 (nb : Int)); exact Calls.quiet_of_same (zb _)))
        go_wp2
        go_ret
        exact ⟨by rw [decide_eq_false (unhide HR)]; rfl, _, rfl⟩
    · have hn : ¬ rk pri b < rk pri a := fun h => by rcases (unhide HI).1 h with h | h <;> omega
      have HR := hide hn
      have hne : (xa == xb) = false := by simpa using h2
      clear HI hn
      go_enter Yba.func8, Yba.ntmps8
      go_wp2
      go_quiet (first | (go_at_call_of 7 (Value.int .i64 (na : Int)); exact Calls.quiet_of_same (za _)) | (go_at_call_of 7 (Value.int .i64 (nb : Int)); exact Calls.quiet_of_same (zb _)))
      go_wp2
      go_ret
      exact ⟨by rw [decide_eq_false (unhide HR)]; show Ending.returned (.bool (decide (xb < xa))) = _; rw [decide_eq_false (Int.not_lt.2 h1)], _, rfl⟩

end Go.Proofs.Ybulkaibe
