/-
  The plain mathematics of 'a duration in seconds' over the model's binary64: no Go text in sight.
-/
import Derived.Laws.FloatArith
namespace Go.Proofs.Ybulkahtq.Flt
open Go Ieee

/-- A datum of sign 's' that is not nought: a number at a place the format has, or an infinity. -/
def Sg (s : Bool) (d : Datum) : Prop := (∃ m e, d = .number s m e ∧ 0 < m ∧ (-1074 : Int) ≤ e) ∨ d = .infinity s
/-- A nought. -/
def Zr (d : Datum) : Prop := ∃ e, d = .number false 0 e ∧ (-1074 : Int) ≤ e

theorem least : double.leastPlace = -1074 := by decide
theorem fbits : double.fractionBits = 52 := rfl
theorem binade_eq : double.binade = 4503599627370496 := by decide
theorem inf_eq : double.infRung = 9218868437227405312 := by decide
theorem sw_eq : double.signWeight = 9223372036854775808 := by decide

theorem read_word {s : Bool} {r : Nat} (h0 : 0 < r) (h1 : r ≤ double.infRung) : Sg s (double.read (double.word s r)) := by
  have hw : double.word s r / double.signWeight % 2 = s.toNat ∧ double.word s r % double.signWeight = r := by
    unfold Format.word
    rw [sw_eq]; rw [inf_eq] at h1
    cases s
    · simp; omega
    · simp; omega
  have hn : (double.word s r / double.signWeight % 2 == 1) = s := by rw [hw.1]; cases s <;> rfl
  unfold Format.read
  simp only [hn, hw.2]
  by_cases h2 : r < double.binade
  · rw [if_pos h2]
    exact .inl ⟨_, _, rfl, h0, by rw [least]; omega⟩
  · rw [if_neg h2]
    by_cases h3 : r < double.infRung
    · rw [if_pos h3]
      refine .inl ⟨_, _, rfl, ?_, ?_⟩
      · rw [binade_eq]; omega
      · rw [least]; omega
    · rw [if_neg h3, if_pos (by omega)]
      exact .inr rfl

theorem read_zero : Zr (double.read (double.word false 0)) := ⟨_, rfl, by rw [least]; omega⟩

/-- What is kept of a magnitude is not nought. -/
theorem cut_pos (s : Bool) (n drop : Nat) (h : 2 ^ drop ≤ n) : 0 < Toward.even.cut s n drop := by
  unfold Toward.cut
  have hp : 0 < 2 ^ drop := Nat.pow_pos (by omega)
  have hl : drop ≤ n.log2 := (Nat.le_log2 (by omega)).2 h
  have hm : min drop (n.log2 + 2) = drop := by omega
  simp only [hm]
  have : 0 < n / (1 <<< drop) := by
    rw [Nat.shiftLeft_eq, Nat.one_mul]
    exact Nat.div_pos h hp
  omega

theorem nearest_pos (s : Bool) (mag : Nat) (place : Int) (h0 : 0 < mag) (h1 : (-1074 : Int) ≤ place) :
    ∃ r, 0 < r ∧ r ≤ double.infRung ∧ double.nearest s mag place = double.word s r := by
  unfold Format.nearest
  rw [if_neg (by omega)]
  simp only [fbits, least]
  refine ⟨_, ?_, ?_, rfl⟩
  · have hk : 0 < Toward.even.cut s (mag <<< (place - max (place + (mag.log2 : Int) - (52 : Nat)) (-1074)).toNat) (max (place + (mag.log2 : Int) - (52 : Nat)) (-1074) - place).toNat := by
      refine cut_pos _ _ _ ?_
      have hself : 2 ^ mag.log2 ≤ mag := Nat.log2_self_le (by omega)
      by_cases hc : place + (mag.log2 : Int) - (52 : Nat) ≤ place
      · have e : (max (place + (mag.log2 : Int) - (52 : Nat)) (-1074) - place).toNat = 0 := by omega
        rw [e, Nat.shiftLeft_eq]
        have := Nat.mul_pos h0 (Nat.pow_pos (a := 2) (n := (place - max (place + (mag.log2 : Int) - (52 : Nat)) (-1074)).toNat) (by omega))
        omega
      · have e : (max (place + (mag.log2 : Int) - (52 : Nat)) (-1074) - place).toNat = mag.log2 - 52 := by omega
        have e2 : (place - max (place + (mag.log2 : Int) - (52 : Nat)) (-1074)).toNat = 0 := by omega
        rw [e, e2, Nat.shiftLeft_eq]
        have : 2 ^ (mag.log2 - 52) ≤ 2 ^ mag.log2 := Nat.pow_le_pow_right (by omega) (by omega)
        omega
    have hi : 0 < double.infRung := by rw [inf_eq]; omega
    have := Nat.le_add_left (Toward.even.cut s (mag <<< (place - max (place + (mag.log2 : Int) - (52 : Nat)) (-1074)).toNat) (max (place + (mag.log2 : Int) - (52 : Nat)) (-1074) - place).toNat) ((max (place + (mag.log2 : Int) - (52 : Nat)) (-1074) - -1074).toNat * double.binade)
    exact Nat.lt_min.2 ⟨by omega, hi⟩
  · exact Nat.min_le_right _ _

theorem write_pos {s : Bool} {mag : Nat} {place : Int} (h0 : 0 < mag) (h1 : (-1074 : Int) ≤ place) : Sg s (double.read (double.write (.number s mag place))) := by
  obtain ⟨r, a, b, e⟩ := nearest_pos s mag place h0 h1
  show Sg s (double.read (double.nearest s mag place))
  rw [e]; exact read_word a b

theorem write_inf {s : Bool} : Sg s (double.read (double.write (.infinity s))) :=
  read_word (by rw [inf_eq]; omega) (Nat.le_refl _)

theorem write_zero {e : Int} : Zr (double.read (double.write (.number false 0 e))) := by
  show Zr (double.read (double.nearest false 0 e))
  unfold Format.nearest; rw [if_pos rfl]; exact read_zero

/-- An integer of a duration's size, as a float: its sign, and its place is not below -52. -/
theorem ofInt_pos (s : Bool) (n : Nat) (h : 0 < n) : (∃ m e, double.read (double.write (.number s n 0)) = .number s m e ∧ 0 < m ∧ (-52 : Int) ≤ e) ∨ double.read (double.write (.number s n 0)) = .infinity s := by
  show (∃ m e, double.read (double.nearest s n 0) = .number s m e ∧ 0 < m ∧ (-52 : Int) ≤ e) ∨ double.read (double.nearest s n 0) = .infinity s
  have hself : 2 ^ n.log2 ≤ n := Nat.log2_self_le (by omega)
  obtain ⟨k, hk, hn⟩ : ∃ k : Nat, 4503599627370496 ≤ k ∧ double.nearest s n 0 = double.word s (min (((n.log2 : Int) - 52 + 1074).toNat * 4503599627370496 + k) double.infRung) := by
    unfold Format.nearest
    rw [if_neg (by omega)]
    simp only [fbits, least, binade_eq]
    have e1 : max ((0 : Int) + (n.log2 : Int) - (52 : Nat)) (-1074) = (n.log2 : Int) - 52 := by omega
    rw [e1]
    refine ⟨Toward.even.cut s (n <<< (0 - ((n.log2 : Int) - 52)).toNat) ((n.log2 : Int) - 52 - 0).toNat, ?_, by congr 3⟩
    unfold Toward.cut
    have key : ∀ (X d : Nat), 4503599627370496 * 2 ^ d ≤ X → 4503599627370496 ≤ X / (1 <<< min d (X.log2 + 2)) := by
      intro X d hX
      have hp : 0 < 2 ^ d := Nat.pow_pos (by omega)
      have hd : 2 ^ d ≤ X := by omega
      have hl : d ≤ X.log2 := (Nat.le_log2 (by omega)).2 hd
      have hm : min d (X.log2 + 2) = d := by omega
      rw [hm, Nat.shiftLeft_eq, Nat.one_mul]
      exact (Nat.le_div_iff_mul_le hp).2 hX
    refine Nat.le_trans (key _ _ ?_) (Nat.le_add_right _ _)
    rw [Nat.shiftLeft_eq]
    by_cases hc : n.log2 ≤ 52
    · have a1 : ((n.log2 : Int) - 52 - 0).toNat = 0 := by omega
      have a2 : (0 - ((n.log2 : Int) - 52)).toNat = 52 - n.log2 := by omega
      rw [a1, a2]
      have : 2 ^ n.log2 * 2 ^ (52 - n.log2) = 4503599627370496 := by
        rw [← Nat.pow_add, show n.log2 + (52 - n.log2) = 52 from by omega]
      have h3 := Nat.mul_le_mul_right (2 ^ (52 - n.log2)) hself
      omega
    · have a1 : ((n.log2 : Int) - 52 - 0).toNat = n.log2 - 52 := by omega
      have a2 : (0 - ((n.log2 : Int) - 52)).toNat = 0 := by omega
      rw [a1, a2]
      have : 4503599627370496 * 2 ^ (n.log2 - 52) = 2 ^ n.log2 := by
        rw [show (4503599627370496 : Nat) = 2 ^ 52 from by decide, ← Nat.pow_add, show 52 + (n.log2 - 52) = n.log2 from by omega]
      omega
  rw [hn]
  generalize hR : ((n.log2 : Int) - 52 + 1074).toNat * 4503599627370496 + k = R
  have hR2 : 4602678819172646912 ≤ R + 4503599627370496 * 0 := by
    have : (1022 : Nat) ≤ ((n.log2 : Int) - 52 + 1074).toNat := by omega
    have := Nat.mul_le_mul_right 4503599627370496 this
    omega
  by_cases hi : R < double.infRung
  · rw [Nat.min_eq_left (by omega)]
    rw [inf_eq] at hi
    left
    have hw : double.word s R / double.signWeight % 2 = s.toNat ∧ double.word s R % double.signWeight = R := by
      unfold Format.word
      rw [sw_eq]
      cases s
      · simp; omega
      · simp; omega
    have hs : (double.word s R / double.signWeight % 2 == 1) = s := by rw [hw.1]; cases s <;> rfl
    unfold Format.read
    simp only [hs, hw.2]
    rw [if_neg (by rw [binade_eq]; omega), if_pos (by rw [inf_eq]; omega)]
    refine ⟨_, _, rfl, by rw [binade_eq]; omega, ?_⟩
    rw [least, binade_eq]; omega
  · rw [Nat.min_eq_right (by omega)]
    right
    unfold Format.read
    have hw : double.word s double.infRung / double.signWeight % 2 = s.toNat ∧ double.word s double.infRung % double.signWeight = double.infRung := by
      unfold Format.word
      rw [sw_eq, inf_eq]
      cases s <;> simp
    have hs : (double.word s double.infRung / double.signWeight % 2 == 1) = s := by rw [hw.1]; cases s <;> rfl
    simp only [hs, hw.2]
    rw [if_neg (by rw [inf_eq, binade_eq]; omega), if_neg (by omega), if_pos trivial]

/-- What '1e9' reads as. -/
theorem read_1e9 : ∃ m, double.read 4741671816366391296 = .number false m (-23) ∧ 0 < m ∧ m.log2 = 52 := ⟨_, rfl, by decide, by decide⟩

theorem div_pos (s : Bool) (n : Nat) (h : 0 < n) : ∃ r, double.div (double.write (.number s n 0)) 4741671816366391296 = some r ∧ Sg s (double.read r) := by
  obtain ⟨d, hd, hd0, hdl⟩ := read_1e9
  unfold Format.div
  rw [hd]
  rcases ofInt_pos s n h with ⟨m, e, he, hm, hp⟩ | he
  · rw [he]
    have hq0 : Datum.quotient (double.fractionBits + 2) (.number s m e) (.number false d (-23)) = some (.number s (2 * (m <<< (52 + 2 + 52 - m.log2) / d) + (m <<< (52 + 2 + 52 - m.log2) % d != 0).toNat) (e - -23 - ((52 + 2 + 52 - m.log2 : Nat) : Int) - 1)) := by
      simp only [Datum.quotient, fbits, hdl, Bool.xor_false, if_neg (show ¬ d = 0 by omega)]
    rw [hq0]
    simp only [Option.map_some]
    refine ⟨_, rfl, write_pos ?_ ?_⟩
    · have hq : 0 < m <<< (52 + 2 + 52 - m.log2) / d := by
        refine Nat.div_pos ?_ hd0
        rw [Nat.shiftLeft_eq]
        have h1 : 2 ^ m.log2 ≤ m := Nat.log2_self_le (by omega)
        have h2 : d < 2 ^ 53 := by have := (Nat.log2_lt (n := d) (k := 53) (by omega)).1 (by omega); omega
        by_cases hc : m.log2 ≤ 106
        · have h3 : 2 ^ m.log2 * 2 ^ (52 + 2 + 52 - m.log2) = 2 ^ 106 := by rw [← Nat.pow_add]; congr 1; omega
          have h4 := Nat.mul_le_mul_right (2 ^ (52 + 2 + 52 - m.log2)) h1
          have h5 : (2 : Nat) ^ 53 ≤ 2 ^ 106 := by decide
          omega
        · have h3 : (2 : Nat) ^ 53 ≤ 2 ^ m.log2 := Nat.pow_le_pow_right (by omega) (by omega)
          have h4 : 52 + 2 + 52 - m.log2 = 0 := by omega
          rw [h4]; omega
      omega
    · omega
  · rw [he]
    simp only [Datum.quotient, Option.map_some, Bool.xor_false]
    exact ⟨_, rfl, write_inf⟩

theorem div_zero : ∃ r, double.div (double.write (.number false 0 0)) 4741671816366391296 = some r ∧ Zr (double.read r) := by
  obtain ⟨d, hd, hd0, hdl⟩ := read_1e9
  have hz : double.read (double.write (.number false 0 0)) = .number false 0 (-1074) := by
    show double.read (double.nearest false 0 0) = _
    unfold Format.nearest; rw [if_pos rfl]; rfl
  unfold Format.div
  rw [hd, hz]
  simp only [Datum.quotient, Option.map_some, Bool.xor_false, if_neg (show ¬ d = 0 by omega)]
  refine ⟨_, rfl, ?_⟩
  have e1 : 0 <<< (double.fractionBits + 2 + d.log2 - Nat.log2 0) = 0 := Nat.zero_shiftLeft _
  rw [e1, Nat.zero_div, Nat.zero_mod]
  exact write_zero

theorem signed_pos (m up : Nat) (h : 0 < m) : 0 < signed false m up ∧ signed true m up < 0 := by
  have : 0 < m <<< up := by rw [Nat.shiftLeft_eq]; exact Nat.mul_pos h (Nat.pow_pos (by omega))
  unfold signed
  generalize m <<< up = z at this
  constructor
  · rw [if_neg (by decide)]; omega
  · rw [if_pos rfl]; omega

theorem signed_zero (s : Bool) (up : Nat) : signed s 0 up = 0 := by
  unfold signed; rw [Nat.zero_shiftLeft]; cases s <;> rfl

theorem signed_nn (m up : Nat) : 0 ≤ signed false m up ∧ signed true m up ≤ 0 := by
  unfold signed
  generalize m <<< up = z
  constructor
  · rw [if_neg (by decide)]; omega
  · rw [if_pos rfl]; omega

theorem sum_total (s : Bool) (m n : Nat) (i j : Int) (hi : (-1074 : Int) ≤ i) (hj : (-1074 : Int) ≤ j) (sm sn : Bool)
    (hm : 0 < m → sm = s) (hn : 0 < n → sn = s) (h : 0 < m ∨ 0 < n) :
    ∃ r, ((Datum.sum (.number sm m i) (.number sn n j)).map double.write) = some r ∧ Sg s (double.read r) := by
  have hmz : m = 0 → signed sm m (i - min i j).toNat = 0 := fun e => by rw [e]; exact signed_zero _ _
  have hnz : n = 0 → signed sn n (j - min i j).toNat = 0 := fun e => by rw [e]; exact signed_zero _ _
  have hmp := signed_pos m (i - min i j).toNat
  have hnp := signed_pos n (j - min i j).toNat
  unfold Datum.sum
  simp only [Option.map_some]
  refine ⟨_, rfl, ?_⟩
  generalize hA : signed sm m (i - min i j).toNat = A at hmz ⊢
  generalize hB : signed sn n (j - min i j).toNat = B at hnz ⊢
  have key : (s = false → 0 < A + B) ∧ (s = true → A + B < 0) := by
    constructor
    · intro e; subst e
      by_cases a : 0 < m <;> by_cases b : 0 < n
      · rw [hm a] at hA; rw [hn b] at hB; have := hmp a; have := hnp b; omega
      · rw [hm a] at hA; have := hmp a; have := hnz (by omega); omega
      · rw [hn b] at hB; have := hnp b; have := hmz (by omega); omega
      · omega
    · intro e; subst e
      by_cases a : 0 < m <;> by_cases b : 0 < n
      · rw [hm a] at hA; rw [hn b] at hB; have := hmp a; have := hnp b; omega
      · rw [hm a] at hA; have := hmp a; have := hnz (by omega); omega
      · rw [hn b] at hB; have := hnp b; have := hmz (by omega); omega
      · omega
  have hne : A + B ≠ 0 := by cases s <;> simp at key <;> omega
  have hs : (if A + B = 0 then sm && sn else decide (A + B < 0)) = s := by
    rw [if_neg hne]; cases s <;> simp at key ⊢ <;> omega
  rw [hs]
  exact write_pos (by omega) (by omega)

theorem add_sg {s : Bool} {x y : Nat} (hx : Sg s (double.read x)) (hy : Sg s (double.read y) ∨ Zr (double.read y)) : ∃ r, double.add x y = some r ∧ Sg s (double.read r) := by
  unfold Format.add
  rcases hx with ⟨m, i, hx, hm, hi⟩ | hx
  · rcases hy with (⟨n, j, hy, hn, hj⟩ | hy) | ⟨j, hy, hj⟩
    · rw [hx, hy]; exact sum_total s m n i j hi hj s s (fun _ => rfl) (fun _ => rfl) (.inl hm)
    · rw [hx, hy]; exact ⟨_, rfl, write_inf⟩
    · rw [hx, hy]; exact sum_total s m 0 i j hi hj s false (fun _ => rfl) (fun h => absurd h (by omega)) (.inl hm)
  · rcases hy with (⟨n, j, hy, hn, hj⟩ | hy) | ⟨j, hy, hj⟩
    · rw [hx, hy]; exact ⟨_, rfl, write_inf⟩
    · rw [hx, hy]; simp only [Datum.sum, if_pos, Option.map_some]; exact ⟨_, rfl, write_inf⟩
    · rw [hx, hy]; exact ⟨_, rfl, write_inf⟩

theorem add_sg' {s : Bool} {x y : Nat} (hx : Zr (double.read x)) (hy : Sg s (double.read y)) : ∃ r, double.add x y = some r ∧ Sg s (double.read r) := by
  unfold Format.add
  obtain ⟨i, hx, hi⟩ := hx
  rcases hy with ⟨n, j, hy, hn, hj⟩ | hy
  · rw [hx, hy]; exact sum_total s 0 n i j hi hj false s (fun h => absurd h (by omega)) (fun _ => rfl) (.inr hn)
  · rw [hx, hy]; exact ⟨_, rfl, write_inf⟩

theorem add_zr {x y : Nat} (hx : Zr (double.read x)) (hy : Zr (double.read y)) : ∃ r, double.add x y = some r ∧ Zr (double.read r) := by
  unfold Format.add
  obtain ⟨i, hx, hi⟩ := hx
  obtain ⟨j, hy, hj⟩ := hy
  rw [hx, hy]
  unfold Datum.sum
  simp only [Option.map_some, signed_zero]
  exact ⟨_, rfl, write_zero⟩

/-- The float of an integer. -/
def ofI (n : Int) : Nat := double.write (.number (n < 0) n.natAbs 0)

theorem ofI_sg (n : Int) : (0 < n → Sg false (double.read (ofI n))) ∧ (n < 0 → Sg true (double.read (ofI n))) ∧ (n = 0 → Zr (double.read (ofI n))) := by
  unfold ofI
  refine ⟨fun h => ?_, fun h => ?_, fun h => ?_⟩
  · rw [show decide (n < 0) = false from decide_eq_false (by omega)]
    exact write_pos (by omega) (by omega)
  · rw [show decide (n < 0) = true from decide_eq_true h]
    exact write_pos (by omega) (by omega)
  · subst h; exact write_zero

theorem divI (n : Int) : ∃ r, double.div (ofI n) 4741671816366391296 = some r ∧ (0 < n → Sg false (double.read r)) ∧ (n < 0 → Sg true (double.read r)) ∧ (n = 0 → Zr (double.read r)) := by
  unfold ofI
  by_cases h : 0 < n
  · rw [show decide (n < 0) = false from decide_eq_false (by omega)]
    obtain ⟨r, e, hr⟩ := div_pos false n.natAbs (by omega)
    exact ⟨r, e, fun _ => hr, fun h' => by omega, fun h' => by omega⟩
  · by_cases h2 : n < 0
    · rw [show decide (n < 0) = true from decide_eq_true h2]
      obtain ⟨r, e, hr⟩ := div_pos true n.natAbs (by omega)
      exact ⟨r, e, fun h' => by omega, fun _ => hr, fun h' => by omega⟩
    · obtain rfl : n = 0 := by omega
      obtain ⟨r, e, hr⟩ := div_zero
      exact ⟨r, e, fun h' => by omega, fun h' => by omega, fun _ => hr⟩

/-- 'n' nanoseconds in seconds, as the Go text reckons it: what the division and the sum give. -/
def frac (n : Int) : Nat := (double.div (ofI (n.tmod 1000000000)) 4741671816366391296).getD 0
def secs (n : Int) : Nat := (double.add (ofI (n.tdiv 1000000000)) (frac n)).getD 0

theorem frac_eq (n : Int) : double.div (ofI (n.tmod 1000000000)) 4741671816366391296 = some (frac n) := by
  obtain ⟨r, e, _⟩ := divI (n.tmod 1000000000)
  unfold frac; rw [e]; rfl

theorem secs_sg (n : Int) : double.add (ofI (n.tdiv 1000000000)) (frac n) = some (secs n) ∧ (0 < n → Sg false (double.read (secs n))) ∧ (n < 0 → Sg true (double.read (secs n))) ∧ (n = 0 → Zr (double.read (secs n))) := by
  obtain ⟨r, e, h1, h2, h3⟩ := divI (n.tmod 1000000000)
  have hf : frac n = r := by unfold frac; rw [e]; rfl
  obtain ⟨g1, g2, g3⟩ := ofI_sg (n.tdiv 1000000000)
  rw [hf]
  have main : ∃ q, double.add (ofI (n.tdiv 1000000000)) r = some q ∧ (0 < n → Sg false (double.read q)) ∧ (n < 0 → Sg true (double.read q)) ∧ (n = 0 → Zr (double.read q)) := by
    by_cases h : 0 < n
    · have a : 0 ≤ n.tdiv 1000000000 ∧ 0 ≤ n.tmod 1000000000 ∧ (0 < n.tdiv 1000000000 ∨ 0 < n.tmod 1000000000) := by
        rw [Int.tdiv_eq_ediv_of_nonneg (by omega), Int.tmod_eq_emod_of_nonneg (by omega)]; omega
      have fin : ∀ q, Sg false (double.read q) → (0 < n → Sg false (double.read q)) ∧ (n < 0 → Sg true (double.read q)) ∧ (n = 0 → Zr (double.read q)) := fun q hq => ⟨fun _ => hq, fun h' => by omega, fun h' => by omega⟩
      by_cases c : 0 < n.tdiv 1000000000
      · obtain ⟨q, eq, hq⟩ := add_sg (s := false) (g1 c) (y := r) (by
          by_cases c2 : 0 < n.tmod 1000000000
          · exact .inl (h1 c2)
          · exact .inr (h3 (by omega)))
        exact ⟨q, eq, fin q hq⟩
      · obtain ⟨q, eq, hq⟩ := add_sg' (s := false) (g3 (by omega)) (y := r) (h1 (by omega))
        exact ⟨q, eq, fin q hq⟩
    · by_cases h' : n < 0
      · have a : n.tdiv 1000000000 ≤ 0 ∧ n.tmod 1000000000 ≤ 0 ∧ (n.tdiv 1000000000 < 0 ∨ n.tmod 1000000000 < 0) := by
          obtain ⟨k, rfl⟩ : ∃ k, n = -k := ⟨-n, by omega⟩
          rw [Int.neg_tdiv, Int.neg_tmod, Int.tdiv_eq_ediv_of_nonneg (by omega), Int.tmod_eq_emod_of_nonneg (by omega)]; omega
        have fin : ∀ q, Sg true (double.read q) → (0 < n → Sg false (double.read q)) ∧ (n < 0 → Sg true (double.read q)) ∧ (n = 0 → Zr (double.read q)) := fun q hq => ⟨fun h => by omega, fun _ => hq, fun h' => by omega⟩
        by_cases c : n.tdiv 1000000000 < 0
        · obtain ⟨q, eq, hq⟩ := add_sg (s := true) (g2 c) (y := r) (by
            by_cases c2 : n.tmod 1000000000 < 0
            · exact .inl (h2 c2)
            · exact .inr (h3 (by omega)))
          exact ⟨q, eq, fin q hq⟩
        · obtain ⟨q, eq, hq⟩ := add_sg' (s := true) (g3 (by omega)) (y := r) (h2 (by omega))
          exact ⟨q, eq, fin q hq⟩
      · obtain rfl : n = 0 := by omega
        obtain ⟨q, eq, hq⟩ := add_zr (g3 (by decide)) (h3 (by decide))
        exact ⟨q, eq, fun h => by omega, fun h => by omega, fun _ => hq⟩
  obtain ⟨q, eq, h⟩ := main
  have hs : secs n = q := by unfold secs; rw [hf, eq]; rfl
  rw [hs]; exact ⟨eq, h⟩

/-- No NaN: each is equal to itself. -/
theorem order_self_of {d : Datum} (h : (∃ s, Sg s d) ∨ Zr d) : d.order d = some .eq := by
  rcases h with ⟨s, ⟨m, e, rfl, _, _⟩ | rfl⟩ | ⟨e, rfl, _⟩
  · unfold Datum.order; simp only [Option.some.injEq]; exact Int.compare_eq_eq.2 rfl
  · unfold Datum.order; simp only [Option.some.injEq]; exact Nat.compare_eq_eq.2 rfl
  · unfold Datum.order; simp only [Option.some.injEq]; exact Int.compare_eq_eq.2 rfl

theorem secs_self (n : Int) : double.order (secs n) (secs n) = some .eq := by
  obtain ⟨_, a, b, c⟩ := secs_sg n
  refine order_self_of ?_
  by_cases h : 0 < n
  · exact .inl ⟨_, a h⟩
  · by_cases h' : n < 0
    · exact .inl ⟨_, b h'⟩
    · exact .inr (c (by omega))

theorem read0 : double.read 0 = .number false 0 (-1074) := rfl

/-- Against nought: the integer's own sign. -/
theorem secs_order (n : Int) : (double.order (secs n) 0 == some .gt) = decide (0 < n) ∧ (double.order (secs n) 0 == some .lt) = decide (n < 0) := by
  obtain ⟨_, a, b, c⟩ := secs_sg n
  unfold Format.order
  rw [read0]
  have hz : ∀ (s : Bool) (m : Nat) (e : Int), Datum.order (.number s m e) (.number false 0 (-1074)) = some (compare (signed s m (e - min e (-1074)).toNat) 0) := by
    intro s m e; unfold Datum.order; simp only [signed_zero]
  by_cases h : 0 < n
  · rcases a h with ⟨m, e, hr, hm, _⟩ | hr
    · rw [hr, hz, Int.compare_eq_gt.2 (signed_pos m _ hm).1]
      simp [h]; omega
    · rw [hr]; simp [Datum.order, h]; omega
  · by_cases h' : n < 0
    · rcases b h' with ⟨m, e, hr, hm, _⟩ | hr
      · rw [hr, hz, Int.compare_eq_lt.2 (signed_pos m _ hm).2]
        simp [h']; omega
      · rw [hr]; simp [Datum.order, h']; omega
    · obtain ⟨e, hr, _⟩ := c (by omega)
      rw [hr, hz, signed_zero, Int.compare_eq_eq.2 rfl]
      simp; omega

end Go.Proofs.Ybulkahtq.Flt
