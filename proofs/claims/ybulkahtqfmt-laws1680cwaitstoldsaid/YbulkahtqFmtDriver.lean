/-
  THE WALK of the driver's 'change'.
-/
import Derived.Test.YbulkahtqFmtChange
namespace Go.Proofs.YbulkahtqFmt
open Go.RowKit Go.WideMaps Go.Maps Kit

theorem OthV.fr {R R' : Nat → Role} {w w' : World} {v : Value} (h : OthV R v) (hF : Fr R R' w w') (hl : ∀ b, v.ownBlock = some b → b < w.heap.size) : OthV R' v := fun b hb => (hF.oth b (hl b hb) (h b hb)).1

theorem Rul.fr {base : Nat} {w w' : World} {R R' : Nat → Role} {r d n m : Nat} {ps : List ByteArray} {es : List Bool} (h : Rul base w R r d n m ps es) (hF : Fr R R' w w') : Rul base w' R' r d n m ps es := by
  obtain ⟨a3, c3, a4, c4, cs, hrow, hch, hen, hcl, ho3, ho4⟩ := h.ex
  have hb : ∀ {e n : Nat} {v : Value} {xs : List Value}, w.ownsRow base e 1 v n xs → OthV R v → w'.ownsRow base e 1 v n xs ∧ OthV R' v := fun {e n v xs} ho hv =>
    ⟨own_of_block ho (fun k hk => (hF.oth k (ho.lt k hk).2 (hv k hk)).2), hv.fr hF (fun k hk => (ho.lt k hk).2)⟩
  have hrl := hrow.lt
  exact ⟨⟨a3, c3, a4, c4, cs, hrow.of_block (hF.oth r hrl h.oth).2, (hb hch ho3).1, (hb hen ho4).1, fun i v hi => hb (hcl i v hi).1 (hcl i v hi).2, (hb hch ho3).2, (hb hen ho4).2⟩, h.len, (hF.oth r hrl h.oth).1⟩

/-- What stays below 'base': all that served another end, but for block r. -/
structure Kept (base r : Nat) (R R' : Nat → Role) (w w' : World) : Prop where
  os : w'.os = w.os
  tape : w'.tape = w.tape
  output : w'.output = w.output
  size : w.heap.size ≤ w'.heap.size
  old : ∀ k, k < base → k ≠ r → R k = .other → R' k = .other ∧ w'.heap[k]? = w.heap[k]?

theorem Kept.refl (base r : Nat) (R : Nat → Role) (w : World) : Kept base r R R w w := ⟨rfl, rfl, rfl, Nat.le_refl _, fun _ _ _ h => ⟨h, rfl⟩⟩
theorem Kept.trans {base r : Nat} {R R' R'' : Nat → Role} {w w' w'' : World} (h : Kept base r R R' w w') (h' : Kept base r R' R'' w' w'') : Kept base r R R'' w w'' :=
  ⟨h'.os.trans h.os, h'.tape.trans h.tape, h'.output.trans h.output, Nat.le_trans h.size h'.size, fun k hk hr ho => by
    obtain ⟨e1, e2⟩ := h.old k hk hr ho
    obtain ⟨e3, e4⟩ := h'.old k hk hr e1
    exact ⟨e3, e4.trans e2⟩⟩
theorem Kept.of_fr {base r : Nat} {R R' : Nat → Role} {w w' : World} (h : Fr R R' w w') (hb : base ≤ w.heap.size) : Kept base r R R' w w' :=
  ⟨h.os, h.tape, h.output, h.size, fun k hk _ ho => h.oth k (by omega) ho⟩
theorem Kept.cell {base r : Nat} {R R' : Nat → Role} {w w' : World} (h : Kept base r R R' w w') {b i : Nat} {v : Value} (hb : b < base) (hr : b ≠ r) (ho : R b = .other) (hv : w.cell? ⟨b, i, none⟩ = some v) : w'.cell? ⟨b, i, none⟩ = some v := by
  rw [World.cell?_of_block (w := w) (h.old b hb hr ho).2]; exact hv

section
variable {base : Nat} {R : Nat → Role} {g : Nat} {L : ByteArray → List ByteArray} {K : ByteArray → Prop} {N : Nat}

set_option maxRecDepth 20000 in
set_option maxHeartbeats 4000000 in
theorem change_is (w : World) (h : GS base w R g L K N) (hN : N ≤ 40000000) (hbs : base ≤ w.heap.size) (r d s n : Nat) (ps : List ByteArray) (es : List Bool) (hR : Rul base w R r d n n ps es) (hn : n ≤ 1024) (hrb : r < base) (x : ByteArray) (hx : x.size ≤ maxLen) (orw : Bool) (wb : Nat) (a0 : Option Addr) (n0 c0 : Nat) (hw1 : w.cell? ⟨wb, 1, none⟩ = some (.slice a0 n0 c0)) (xs : List ByteArray) (hxs : xs.length = n0) (hn0 : n0 ≤ 1024) (hnd : xs.Nodup) (hsz : ∀ y ∈ xs, y.size ≤ maxLen)
    (hrow : 0 < n0 → ∃ b off, a0 = some ⟨b, off, none⟩ ∧ R b = .other ∧ ∀ i, i < n0 → w.cell? ⟨b, off + i, none⟩ = some (.string (xs.getD i ByteArray.empty)))
    (d0 : w.cell? ⟨d, 0, none⟩ = some (ptr s)) (d1 : w.cell? ⟨d, 1, none⟩ = some (ptr g)) (d2 : w.cell? ⟨d, 2, none⟩ = some (.bool orw)) (d6 : w.cell? ⟨d, 6, none⟩ = some (.iface 34 (ptr r))) (hs : w.cell? ⟨s, 2, none⟩ = some (.map none)) (od : R d = .other) :
    Calls Ybaf.prog 25 #[ptr d, .agg #[.string x, ptr wb, .bool false]] w fun e w' => e = .returned (.tuple #[]) ∧ ∃ R', GS base w' R' g (updL L x xs) (fun y => y = x ∨ K y) (N + 8000) ∧ Rul base w' R' r d (n + 1) (n + 1) (ps ++ [x]) (es ++ [decide (0 < (L x).length)]) ∧ Kept base r R R' w w' := by
  have hl := cell_lt hw1
  have ld := cell_lt d0
  have hB : Below w.heap.size w (w.alloc (.cells #[.string x, ptr wb, .bool false] 91)) := (Below.refl _ _).alloc (Nat.le_refl _) _
  go_enter Ybaf.func25, Ybaf.ntmps25
  go_wp2
  have k0 : (w.alloc (.cells #[.string x, ptr wb, .bool false] 91)).drew.cell? ⟨w.heap.size, 0, none⟩ = some (.string x) := cell_of_blk (blk_new w _) (i := 0) rfl
  have k1 : (w.alloc (.cells #[.string x, ptr wb, .bool false] 91)).drew.cell? ⟨w.heap.size, 1, none⟩ = some (ptr wb) := cell_of_blk (blk_new w _) (i := 1) rfl
  have k2 : (w.alloc (.cells #[.string x, ptr wb, .bool false] 91)).drew.cell? ⟨w.heap.size, 2, none⟩ = some (.bool false) := cell_of_blk (blk_new w _) (i := 2) rfl
  have hB1 := hB.drew
  have kk : ∀ b i v, w.cell? ⟨b, i, none⟩ = some v → (w.alloc (.cells #[.string x, ptr wb, .bool false] 91)).drew.cell? ⟨b, i, none⟩ = some v := fun b i v hv => by
    rw [hB1.cell (p := ⟨b, i, none⟩) (cell_lt hv)]; exact hv
  have e0 := kk _ _ _ d0
  have e1 := kk _ _ _ d1
  have e2 := kk _ _ _ d2
  have es2 := kk _ _ _ hs
  have ew := kk _ _ _ hw1
  have hz1 : (w.alloc (.cells #[.string x, ptr wb, .bool false] 91)).drew.heap.size = w.heap.size + 1 := by show (w.alloc _).heap.size = _; simp
  clear kk
  generalize (w.alloc (.cells #[.string x, ptr wb, .bool false] 91)) = w1 at k0 k1 k2 hB1 hz1 e0 e1 e2 es2 ew ⊢
  have hcall : Calls Ybaf.prog 37 #[.agg #[.string x, ptr wb, .bool false], ptr g, .string x, .bool orw] w1.drew fun e w' => ∃ b, e = .returned (.tuple #[.slice (some ⟨b, 0, none⟩) 1 1, .bool (decide (0 < (L x).length))]) ∧ Hid (w'.cell? ⟨b, 0, none⟩ = some (.string x) ∧ ∃ R', GS base w' R' g (updL L x xs) (fun y => y = x ∨ K y) (N + 8000) ∧ Fr R R' w w') ∧
      w'.cell? ⟨w.heap.size, 0, none⟩ = some (.string x) ∧ w'.cell? ⟨w.heap.size, 1, none⟩ = some (ptr wb) ∧ w'.cell? ⟨w.heap.size, 2, none⟩ = some (.bool false) ∧ w'.cell? ⟨d, 0, none⟩ = some (ptr s) ∧ w'.cell? ⟨d, 1, none⟩ = some (ptr g) ∧ w'.cell? ⟨d, 2, none⟩ = some (.bool orw) ∧ w'.cell? ⟨d, 6, none⟩ = some (.iface 34 (ptr r)) := by
    have hG1 : GS base w1.drew R g L K N := h.frame hB1.size (fun k hk _ => hB1.block k hk) (Nat.le_refl _)
    have ho := h.fresh w.heap.size (Nat.le_refl _)
    refine (apply_is w1.drew hG1 hN x hx orw wb a0 n0 c0 ew xs hxs hn0 hnd hsz (fun hn => ?_)).mono ?_
    · obtain ⟨b, off, e1, e2, e3⟩ := hrow hn
      refine ⟨b, off, e1, e2, fun i hi => ?_⟩
      rw [hB1.cell (p := ⟨b, off + i, none⟩) (cell_lt (e3 i hi))]; exact e3 i hi
    · rintro e w3 ⟨b, rfl, hb, _, R3, _, hG3, hF3⟩
      have hF : Fr R R3 w w3 := (Fr.of_below hB1).trans hF3
      exact ⟨b, rfl, hide ⟨hb, R3, hG3, hF⟩, hF3.cell ho k0, hF3.cell ho k1, hF3.cell ho k2, hF.cell od d0, hF.cell od d1, hF.cell od d2, hF.cell od d6⟩
  have HC := hide hcall
  have HH := hide (And.intro hR d6)
  clear hcall hrow hxs hnd hsz d0 d1 d2 d6 hs hw1 hB hB1 hR ew
  go_region_held3 (fun W => W.cell? ⟨w.heap.size, 0, none⟩ = some (.string x) ∧ W.cell? ⟨w.heap.size, 1, none⟩ = some (ptr wb) ∧ W.cell? ⟨w.heap.size, 2, none⟩ = some (.bool false) ∧ W.cell? ⟨d, 0, none⟩ = some (ptr s) ∧ W.cell? ⟨d, 1, none⟩ = some (ptr g) ∧ W.cell? ⟨d, 2, none⟩ = some (.bool orw)) (with_reducible first | exact ⟨by assumption, by assumption, by assumption, by assumption, by assumption, by assumption⟩) (first | (go_at_call 38; refine (siteOf_any s x hx _ es2).mono ?_; rintro e w' ⟨rfl, hw⟩; rw [hw]; clear hw w') | (go_at_call 37; refine (unhide HC).mono ?_; rintro e w3 ⟨b, rfl, H3, m0, m1, m2, m3, m4, m5, m6⟩))
  clear m0 m1 m2 m3 m4 m5 HC k0 k1 k2 e0 e1 e2 es2 hz1
  obtain ⟨hb3, R3, hG3, hF3⟩ := unhide H3
  have hR3 := (unhide HH).1.fr hF3
  have hf3 := hG3.fresh
  have hbs3 : base ≤ w3.heap.size := Nat.le_trans hbs hF3.size
  have H4 := hide (And.intro hG3 hF3)
  clear hG3 hF3 H3 HH
  generalize hen : decide (0 < (L x).length) = en at H4 ⊢
  have HE := hide hen
  clear hen
  go_wp2_with (first
    | (refine wpList_invoke _ rfl _ _ _ _ rfl 34 (ptr r) rfl 100 #[ptr r, .slice (some ⟨b, 0, none⟩) 1 1, .bool en] (fun _ => by kernel_rfl) ?_; refine (changed_is base w3 R3 r d n b ps es x en hR3 hn hrb hbs3 hf3 hb3).mono ?_; rintro e w4 ⟨rfl, hR4, hU4, hK4⟩; refine ⟨_, rfl, ?_⟩))
  go_end0
  obtain ⟨hG3, hF3⟩ := unhide H4
  exact ⟨rfl, R3, hG3.frame hU4.size hK4 (Nat.le_refl _), by rw [unhide HE]; exact hR4, (Kept.of_fr hF3 hbs).trans ⟨hU4.os, hU4.tape, hU4.output, hU4.size, fun k hk hr ho => ⟨ho, hU4.block k hk (by simpa using hr)⟩⟩⟩
end

end Go.Proofs.YbulkahtqFmt
