/-
  THE RUN of LawS1680CWaits: 'drive' with waits, with neither initiators nor kinds nor script.
-/
import Derived.Test.YbulkahtqFmtDriver
namespace Go.Proofs.YbulkahtqFmt
open Go.RowKit Go.WideMaps Go.Maps Kit

/-! ### What the waits say, by their number -/
/-- The targets by process's name, behind the first k waits. -/
def LK (pn : Nat → ByteArray) (tn : Nat → List ByteArray) : Nat → ByteArray → List ByteArray
  | 0 => fun _ => []
  | k + 1 => updL (LK pn tn k) (pn k) (tn k)
/-- The process named y has come up among the first k. -/
def KK (pn : Nat → ByteArray) (k : Nat) (y : ByteArray) : Prop := ∃ i, i < k ∧ pn i = y
def PK (pn : Nat → ByteArray) (k : Nat) : List ByteArray := (List.range k).map pn
def EK (pn : Nat → ByteArray) (tn : Nat → List ByteArray) (k : Nat) : List Bool := (List.range k).map (fun i => decide (0 < (LK pn tn i (pn i)).length))
theorem PK_succ (pn : Nat → ByteArray) (k : Nat) : PK pn (k + 1) = PK pn k ++ [pn k] := by simp [PK, List.range_succ]
theorem EK_succ (pn : Nat → ByteArray) (tn : Nat → List ByteArray) (k : Nat) : EK pn tn (k + 1) = EK pn tn k ++ [decide (0 < (LK pn tn k (pn k)).length)] := by simp [EK, List.range_succ]

/-- The i-th wait, as it lies in seven cells. -/
structure WaitAt (Bd : Nat) (w : World) (b i : Nat) (x : ByteArray) (xs : List ByteArray) : Prop where
  ex : ∃ a1 n c1, w.cell? ⟨b, i * 7, none⟩ = some (.string x) ∧ w.cell? ⟨b, i * 7 + 1, none⟩ = some (.slice a1 n c1) ∧ w.cell? ⟨b, i * 7 + 2, none⟩ = some (.slice none 0 0) ∧ w.cell? ⟨b, i * 7 + 3, none⟩ = some (.bool true) ∧
    w.cell? ⟨b, i * 7 + 4, none⟩ = some (.int .i64 (n : Nat)) ∧ w.cell? ⟨b, i * 7 + 5, none⟩ = some (.string ByteArray.empty) ∧ w.cell? ⟨b, i * 7 + 6, none⟩ = some (.int .i64 0) ∧ xs.length = n ∧
    (0 < n → ∃ b1 off1, a1 = some ⟨b1, off1, none⟩ ∧ b1 < Bd ∧ ∀ j, j < n → w.cell? ⟨b1, off1 + j, none⟩ = some (.string (xs.getD j ByteArray.empty)))
  sx : x.size ≤ maxLen
  len : xs.length ≤ 1024
  nd : xs.Nodup
  sz : ∀ y ∈ xs, y.size ≤ maxLen

/-- The waits' slice. -/
structure Waits (Bd : Nat) (w : World) (a : Option Addr) (l : Nat) (pn : Nat → ByteArray) (tn : Nat → List ByteArray) : Prop where
  at_ : 0 < l → ∃ b, a = some ⟨b, 0, none⟩ ∧ b < Bd ∧ ∀ i, i < l → WaitAt Bd w b i (pn i) (tn i)

theorem WaitAt.of_blocks {Bd : Nat} {w w' : World} {b i : Nat} {x : ByteArray} {xs : List ByteArray} (h : WaitAt Bd w b i x xs) (hb : b < Bd) (hk : ∀ k, k < Bd → w'.heap[k]? = w.heap[k]?) : WaitAt Bd w' b i x xs := by
  obtain ⟨a1, n, c1, h0, h1, h2, h3, h4, h5, h6, h7, h8⟩ := h.ex
  have cc : ∀ {j : Nat} {v : Value}, w.cell? ⟨b, j, none⟩ = some v → w'.cell? ⟨b, j, none⟩ = some v := fun {j v} hv => by
    rw [World.cell?_of_block (w := w) (hk b hb)]; exact hv
  refine ⟨⟨a1, n, c1, cc h0, cc h1, cc h2, cc h3, cc h4, cc h5, cc h6, h7, fun hn => ?_⟩, h.sx, h.len, h.nd, h.sz⟩
  obtain ⟨b1, off1, e1, e2, e3⟩ := h8 hn
  exact ⟨b1, off1, e1, e2, fun j hj => by rw [World.cell?_of_block (w := w) (hk b1 e2)]; exact e3 j hj⟩

theorem GS.weak {base : Nat} {w : World} {R : Nat → Role} {g : Nat} {L : ByteArray → List ByteArray} {K K' : ByteArray → Prop} {N : Nat} (h : GS base w R g L K N) (hK : ∀ y, K' y → K y) : GS base w R g L K' N := by
  obtain ⟨pm, wm, T, W, E, nm, pf, hL, hI, h1, h2, h3⟩ := h.ex
  exact ⟨pm, wm, T, W, E, nm, pf, hL, hI, h1, h2, fun x hx => ⟨(h3 x hx).1, fun hk => (h3 x hx).2 (hK x hk)⟩⟩

/-! ### The start -/
/-- What each block serves as the driver stands: the graph's three, all else another end. -/
def R0 (m g : Nat) : Nat → Role := fun k => if k = g then .graph else if k = m then .procs else if k = m + 1 then .waits else .other

theorem mapIs_at {W : World} {b : Nat} (h : W.heap[b]? = some (.map #[] 0)) (P : Program) (k : TypeId) : mapIs W P k b 0 (fun _ => none) := by
  have hl : b < W.heap.size := (Array.getElem?_eq_some_iff.1 h).1
  have hs : ({ W with heap := W.heap.extract 0 b } : World).heap.size = b := by simp; omega
  have hm := mapIs_made ({ W with heap := W.heap.extract 0 b } : World) P k
  have hn := blk_new ({ W with heap := W.heap.extract 0 b } : World) (.map #[] 0)
  rw [hs] at hm hn
  exact hm.of_block (h.trans hn.symm)

theorem R0_proc (m g p : Nat) : R0 m g p ≠ .proc := by
  unfold R0
  split
  · nofun
  · split
    · nofun
    · split <;> nofun
theorem R0_other {m g k : Nat} (h0 : k ≠ g) (h1 : k ≠ m) (h2 : k ≠ m + 1) : R0 m g k = .other := by
  unfold R0; rw [if_neg h0, if_neg h1, if_neg h2]

theorem gs_start {w W : World} {R s : Nat} {orw : Bool} {g d m nb r : Nat} (h : Stands w W R s orw g d m nb r) : GS (r + 1) W (R0 w.heap.size g) g (fun _ => []) (fun _ => False) 0 := by
  obtain ⟨o1, o2, o3, o4, o5, o6⟩ := h.ord
  have hz := h.size
  have hown : W.ownsRow (r + 1) 68 1 (.slice none 0 0) 0 [] := World.ownsRow_nil _ _ _ _
  have hL : Lay (r + 1) W (R0 w.heap.size g) g w.heap.size (w.heap.size + 1) (fun _ => []) (fun _ => []) (fun _ => none) (fun _ => ByteArray.empty) (fun _ => none) 0 := {
    hbase := by omega
    rg := by simp [R0]
    rp := by unfold R0; rw [if_neg (by omega), if_pos rfl]
    rw := by unfold R0; rw [if_neg (by omega), if_neg (by omega), if_pos rfl]
    gr := ⟨0, 0, 0, _, _, [], [], h.gr, Nat.le_refl _, Nat.le_refl _, Nat.le_refl _, ⟨hown, fun b hb => (nomatch hb)⟩, ⟨hown, fun b hb => (nomatch hb)⟩, by simp⟩
    pr := fun p hp => absurd hp (R0_proc _ _ p)
    lt := by simp
    pm_is := mapIs_at h.procs _ _
    wm_is := edgeIs_made h.waits _
    pf1 := fun p hp => absurd hp (R0_proc _ _ p)
    pf2 := fun x v hx => nomatch hx
    out := by simp
    fresh := fun k hk => R0_other (by omega) (by omega) (by omega) }
  exact ⟨w.heap.size, w.heap.size + 1, fun _ => [], fun _ => [], fun _ => none, fun _ => ByteArray.empty, fun _ => none, hL, Inv.empty, by simp, fun p hp => absurd hp (R0_proc _ _ p), fun x _ => ⟨rfl, fun hf => hf⟩⟩

theorem rul_start {w W : World} {R s : Nat} {orw : Bool} {g d m nb r : Nat} (h : Stands w W R s orw g d m nb r) : Rul (r + 1) W (R0 w.heap.size g) r d 0 0 [] [] := by
  obtain ⟨o1, o2, o3, o4, o5, o6⟩ := h.ord
  exact ⟨⟨none, 0, none, 0, [], h.rules, World.ownsRow_nil _ _ _ _, World.ownsRow_nil _ _ _ _, by simp, fun b hb => (nomatch hb), fun b hb => (nomatch hb)⟩, rfl, R0_other (by omega) (by omega) (by omega)⟩

set_option maxHeartbeats 400000 in
theorem rulesOfW_any (d r : Nat) (w : World) (v : Value) (h : w.cell? ⟨r, 0, none⟩ = some v) (hz : w.frozen? ⟨r, 0, none⟩ = false) :
    Calls Ybaf.prog 14 #[.pointer (some ⟨d, 0, none⟩), .pointer (some ⟨r, 0, none⟩)] w fun e w' => e = .returned (.iface 34 (.pointer (some ⟨w.heap.size, 0, none⟩))) ∧
      w' = (w.setCell ⟨r, 0, none⟩ (.pointer (some ⟨w.heap.size, 0, none⟩))).alloc (.cells #[.pointer (some ⟨d, 0, none⟩), .slice none 0 0, .int .i64 0, .slice none 0 0, .slice none 0 0, .int .i64 0] 41) := by
  have hr := cell_lt h
  go_enter Ybaf.func14, Ybaf.ntmps14
  go_wp2
  go_ret
  exact ⟨rfl, rfl⟩

theorem rulesOfW_is (d r : Nat) (w : World) (v : Value) (h : w.cell? ⟨r, 0, none⟩ = some v) (hz : w.frozen? ⟨r, 0, none⟩ = false) :
    Calls Ybaf.prog 14 #[.pointer (some ⟨d, 0, none⟩), .pointer (some ⟨r, 0, none⟩)] w fun e w' => e = .returned (.iface 34 (.pointer (some ⟨w.heap.size, 0, none⟩))) ∧ w'.heap.size = w.heap.size + 1 ∧
      w'.cell? ⟨r, 0, none⟩ = some (.pointer (some ⟨w.heap.size, 0, none⟩)) ∧ w'.rowIs w.heap.size 41 6 (rulesRow d (.slice none 0 0) (.slice none 0 0) (.slice none 0 0)) ∧ Upd w.heap.size [r] w w' := by
  have hr := cell_lt h
  refine (rulesOfW_any d r w v h hz).mono ?_
  rintro e w' ⟨rfl, rfl⟩
  have hs : (w.setCell ⟨r, 0, none⟩ (.pointer (some ⟨w.heap.size, 0, none⟩))).heap.size = w.heap.size := by simp [World.setCell]
  refine ⟨rfl, by simp, ?_, ?_, ?_⟩
  · rw [((Below.refl w.heap.size (w.setCell ⟨r, 0, none⟩ (.pointer (some ⟨w.heap.size, 0, none⟩)))).alloc (by rw [hs]; exact Nat.le_refl _) _).cell (by exact hr)]
    exact World.cell?_setCell_same _ _ _ h
  · have := rules_new (w.setCell ⟨r, 0, none⟩ (.pointer (some ⟨w.heap.size, 0, none⟩))) d
    rw [hs] at this; exact this
  · exact (Upd.of_set _ _ _ (.inl (by simp))).trans (Upd.of_alloc _ (by rw [hs]; exact Nat.le_refl _))

set_option maxHeartbeats 2000000 in
theorem runW_any (B s g kb R : Nat) (aW : Option Addr) (l cW : Nat) (pn : Nat → ByteArray) (tn : Nat → List ByteArray) (seed : Int) (orw : Bool) (w : World) (hl : l ≤ 512) (hW : Waits B w aW l pn tn) (hB : B ≤ R) (hBs : s < w.heap.size)
    (hs1 : w.cell? ⟨s, 1, none⟩ = some (.slice aW l cW)) (hs2 : w.cell? ⟨s, 2, none⟩ = some (.map none)) (hs3 : w.cell? ⟨s, 3, none⟩ = some (.int .i64 0)) (hg : w.cell? ⟨g, 0, none⟩ = some (.func (.func 14) #[] #[.pointer (some ⟨R, 0, none⟩)]))
    (hk : w.cell? ⟨kb, 0, none⟩ = some (.slice none 0 0)) (hR : w.cell? ⟨R, 0, none⟩ = some (.pointer none)) (hRf : w.frozen? ⟨R, 0, none⟩ = false) (hsR : s ≠ R) (hkR : kb ≠ R) :
    Calls Ybaf.prog 22 #[.pointer (some ⟨s, 0, none⟩), .bool orw, .slice none 0 0, .int .u64 seed, .nilFunc, .pointer (some ⟨g, 0, none⟩), .pointer (some ⟨kb, 0, none⟩)] w fun e w' => e = .returned (.tuple #[.slice none 0 0, .nilIface]) ∧ ∃ r d gr Rl, w'.cell? ⟨R, 0, none⟩ = some (.pointer (some ⟨r, 0, none⟩)) ∧
      Rul (r + 1) w' Rl r d l l (PK pn l) (EK pn tn l) ∧ GS (r + 1) w' Rl gr (LK pn tn l) (KK pn l) (8000 * l) ∧ w'.cell? ⟨d, 1, none⟩ = some (ptr gr) ∧ Upd w.heap.size [R] w w' := by
  have hmm := @run_makeMap Ybaf.prog
  have lR := cell_lt hR
  have lkb := cell_lt hk
  go_enter Ybaf.func22, Ybaf.ntmps22
  go_wp2_with fail
  refine (new_is _).mono ?_
  rintro e w1 ⟨rfl, z1, b1, p1, q1, g1⟩
  have Z1 := hide z1
  have HG1 := hide (And.intro p1 (And.intro q1 g1))
  clear z1 p1 q1 g1
  go_wp2_with fail
  refine (net_is _ _).mono ?_
  rintro e w2 ⟨rfl, z2, b2, n2⟩
  have Z2 := hide z2
  clear z2
  have b12 : Below w.heap.size w w2 := b1.trans (b2.mono (by have := unhide Z1; omega))
  have bW : Below w.heap.size w ((w2.alloc (.map #[] 0)).alloc (drvRow s orw w.heap.size w1.heap.size w2.heap.size)) :=
    (b12.alloc b12.size _).alloc (by have := b12.size; simp; omega) _
  have hgW := (bW.cell (p := ⟨g, 0, none⟩) (cell_lt hg)).trans hg
  have hRW := (bW.cell (p := ⟨R, 0, none⟩) lR).trans hR
  have hRfW := (bW.frozen (p := ⟨R, 0, none⟩) lR).trans hRf
  go_wp2_with fail
  refine (rulesOfW_is _ _ _ _ hRW hRfW).mono ?_
  rintro e w3 ⟨rfl, z3, c3, r3, u3⟩
  have hS := stands_mk (unhide Z1) b1 (unhide HG1).1 (unhide HG1).2.1 (unhide HG1).2.2 (unhide Z2) b2 n2 lR z3 c3 r3 u3
  have hd3 : w3.cell? ⟨w2.heap.size + 1, 6, none⟩ = some .nilIface ∧ w3.frozen? ⟨w2.heap.size + 1, 6, none⟩ = false := by
    have hd := blk_new (w2.alloc (.map #[] 0)) (drvRow s orw w.heap.size w1.heap.size w2.heap.size)
    simp only [World.size_alloc] at hd u3
    have := (u3.block (w2.heap.size + 1) (by omega) (by have := b12.size; simp; omega)).trans hd
    exact ⟨cell_of_blk this rfl, frozen_of_blk this 6⟩
  obtain ⟨hd3c, hd3f⟩ := hd3
  clear z3 c3 r3 u3 hgW hRW hRfW bW b12 n2 b2 b1 hg hR hRf
  have hs1W := (hS.upd.cell (p := ⟨s, 1, none⟩) (cell_lt hs1) (by simpa using hsR)).trans hs1
  have hs2W := (hS.upd.cell (p := ⟨s, 2, none⟩) (cell_lt hs2) (by simpa using hsR)).trans hs2
  have hs3W := (hS.upd.cell (p := ⟨s, 3, none⟩) (cell_lt hs3) (by simpa using hsR)).trans hs3
  have hkW := (hS.upd.cell (p := ⟨kb, 0, none⟩) (cell_lt hk) (by simpa using hkR)).trans hk
  have HS := hide hS
  clear hS hs1 hs2 hs3 hk
  go_wp2
  generalize w3.setCell ⟨w2.heap.size + 1, 6, none⟩ (.iface 34 (.pointer (some ⟨w2.heap.size + 1 + 1, 0, none⟩))) = W at HS hs1W hs2W hs3W hkW ⊢
  clear hd3c hd3f Z1 Z2 HG1
  generalize w2.heap.size + 1 + 1 = r at HS ⊢
  generalize w2.heap.size + 1 = d at HS ⊢
  generalize w2.heap.size = m at HS ⊢
  generalize w1.heap.size + 2 = nb at HS ⊢
  have hord := (unhide HS).ord
  have hsz := (unhide HS).size
  have HSZ := hide hsz
  obtain ⟨o1, o2, o3, o4, o5, o6⟩ := hord
  have HO1 := hide o1
  clear hsz o1
  have hR0 : ∀ k, k < w.heap.size → R0 w.heap.size (w.heap.size + 2) k = .other := fun k hk => R0_other (by omega) (by omega) (by omega)
  have hRd : R0 w.heap.size (w.heap.size + 2) d = .other := R0_other (by omega) (by omega) (by omega)
  have HR0 := hide (And.intro hR0 hRd)
  clear hR0 hRd
  go_loopw [45] (fun i wr => ∃ k Rl, k ≤ l ∧ i = .int .i64 (k : Nat) ∧ GS (r + 1) wr Rl (w.heap.size + 2) (LK pn tn k) (KK pn k) (8000 * k) ∧ Rul (r + 1) wr Rl r d k k (PK pn k) (EK pn tn k) ∧ Kept (r + 1) r (R0 w.heap.size (w.heap.size + 2)) Rl W wr) (fun i _ => l - (intOf i).toNat)
  case atStart => exact ⟨0, _, Nat.zero_le _, rfl, (gs_start (unhide HS)).weak (fun y ⟨i, hi, _⟩ => absurd hi (by omega)), rul_start (unhide HS), Kept.refl _ _ _ _⟩
  case round =>
    obtain ⟨k, Rl, hk, rfl, hG, hRu, hKp⟩ := hrel
    have hold : ∀ j, j < w.heap.size → wr.heap[j]? = W.heap[j]? := fun j hj => (hKp.old j (by omega) (by omega) ((unhide HR0).1 j hj)).2
    by_cases hkl : k < l
    · obtain ⟨b, rfl, hbB, hat⟩ := hW.at_ (by omega)
      have hWA : WaitAt B wr b k (pn k) (tn k) := (hat k hkl).of_blocks hbB (fun j hj => (hold j (by omega)).trans ((unhide HS).upd.block j (by omega) (by simp; omega)))
      obtain ⟨a1, n1, c1, f0, f1, f2, f3, f4, f5, f6, f7, f8⟩ := hWA.ex
      have HI := hide (And.intro hG (And.intro hRu (And.intro hKp (And.intro hWA (And.intro f7 f8)))))
      clear hG hRu hKp hWA f7 f8 hat
      generalize hx : pn k = x at f0
      have HX := hide hx
      clear hx hold
      go_wp2_with fail
      obtain ⟨hG, hRu, hKp, hWA, f7, f8⟩ := unhide HI
      have hBl : Below wr.heap.size wr (wr.alloc (.cells #[.string x, .slice a1 n1 c1, .slice none 0 0, .bool true, .int .i64 n1, .string ByteArray.empty, .int .i64 0] 67)) := (Below.refl _ _).alloc (Nat.le_refl _) _
      have hsx : x.size ≤ maxLen := by rw [← unhide HX]; exact hWA.sx
      have hwz : r + 1 ≤ wr.heap.size := by have := unhide HSZ; have := hKp.size; omega
      have hKp1 : Kept (r + 1) r (R0 w.heap.size (w.heap.size + 2)) Rl W (wr.alloc (.cells #[.string x, .slice a1 n1 c1, .slice none 0 0, .bool true, .int .i64 n1, .string ByteArray.empty, .int .i64 0] 67)) := hKp.trans (Kept.of_fr (Fr.of_below hBl) hwz)
      have e0 : (wr.alloc (.cells #[.string x, .slice a1 n1 c1, .slice none 0 0, .bool true, .int .i64 n1, .string ByteArray.empty, .int .i64 0] 67)).cell? ⟨wr.heap.size, 1, none⟩ = some (.slice a1 n1 c1) := cell_of_blk (blk_new wr _) (i := 1) rfl
      have hbB1 : ∀ q, q < B → q < wr.heap.size := fun q hq => by omega
      refine (change_is _ (hG.frame hBl.size (fun q hq _ => hBl.block q hq) (Nat.le_refl _)) (by omega) (Nat.le_trans hwz hBl.size) r d s k (PK pn k) (EK pn tn k) (hRu.fr (Fr.of_below hBl)) (by omega) (by omega) x hsx orw wr.heap.size a1 n1 c1 e0 (tn k) f7 (by rw [← f7]; exact hWA.len) hWA.nd hWA.sz (fun hn => ?_)
        (hKp1.cell (by omega) (by omega) (unhide HR0).2 (unhide HS).d0) (hKp1.cell (by omega) (by omega) (unhide HR0).2 (unhide HS).d1) (hKp1.cell (by omega) (by omega) (unhide HR0).2 (unhide HS).d2) (hKp1.cell (by omega) (by omega) (unhide HR0).2 (unhide HS).d6) (hKp1.cell (by omega) (by omega) ((unhide HR0).1 s hBs) hs2W) (hKp1.old d (by omega) (by omega) (unhide HR0).2).1).mono ?_
      · obtain ⟨b1, off1, e1, e2, e3⟩ := f8 hn
        refine ⟨b1, off1, e1, (hKp1.old b1 (by omega) (by omega) ((unhide HR0).1 b1 (by omega))).1, fun j hj => ?_⟩
        rw [hBl.cell (p := ⟨b1, off1 + j, none⟩) (hbB1 b1 e2)]; exact e3 j hj
      rintro e w4 ⟨rfl, R4, hG4, hR4, hK4⟩
      have HI4 := hide (And.intro hG4 (And.intro hR4 (hKp1.trans hK4)))
      clear hG4 hR4 hK4 hKp1 hG hRu hKp hWA f7 f8 hBl e0 HI f0 f1 f2 f3 f4 f5 f6
      go_wp2
      go_roundw
      case rel =>
        obtain ⟨hG4, hR4, hK4⟩ := unhide HI4
        refine ⟨k + 1, R4, by omega, by go_num, ?_, ?_, hK4⟩
        · have e : LK pn tn (k + 1) = updL (LK pn tn k) x (tn k) := by rw [← unhide HX]; rfl
          rw [e, show 8000 * (k + 1) = 8000 * k + 8000 by omega]
          refine hG4.weak (fun y ⟨i, hi, hy⟩ => ?_)
          by_cases hik : i = k
          · left; rw [← hy, hik, unhide HX]
          · right; exact ⟨i, by omega, hy⟩
        · rw [PK_succ, EK_succ, unhide HX]; exact hR4
      case measure => simp [intOf]; omega
    · have hke : k = l := by omega
      subst hke
      have g3 : wr.cell? ⟨s, 3, none⟩ = some (.int .i64 0) := by
        rw [World.cell?_of_block (w := W) (hold s hBs)]; exact hs3W
      have gk : wr.cell? ⟨kb, 0, none⟩ = some (.slice none 0 0) := by
        rw [World.cell?_of_block (w := W) (hold kb lkb)]; exact hkW
      have hd3 : wr.cell? ⟨d, 3, none⟩ = some (.pointer (some ⟨nb, 0, none⟩)) := hKp.cell (by omega) (by omega) (unhide HR0).2 (unhide HS).d3
      have hd4 : wr.cell? ⟨d, 4, none⟩ = some (.map (some m)) := hKp.cell (by omega) (by omega) (unhide HR0).2 (unhide HS).d4
      have hd1 : wr.cell? ⟨d, 1, none⟩ = some (ptr (w.heap.size + 2)) := hKp.cell (by omega) (by omega) (unhide HR0).2 (unhide HS).d1
      have hnet : wr.cell? ⟨nb, 1, none⟩ = some (.slice none 0 0) := hKp.cell (by omega) (by omega) (R0_other (by omega) (by omega) (by omega)) (unhide HS).net
      have hrr : wr.cell? ⟨R, 0, none⟩ = some (.pointer (some ⟨r, 0, none⟩)) := hKp.cell (by omega) (by omega) ((unhide HR0).1 R o6) (unhide HS).rr
      have hU : Upd w.heap.size [R] w wr := (unhide HS).upd.trans ⟨hKp.os, hKp.tape, hKp.output, hKp.size, fun j hj _ => hold j hj⟩
      have HF := hide (And.intro hG (And.intro hRu (And.intro hd1 (And.intro hrr hU))))
      clear hG hRu hKp hold hd1 hrr hU hW hs1W hs2W hs3W hkW
      go_wp2
      refine wp_loop_rounds 1 ?_
      rw [rounds_succ]
      go_wp2_with (go_at_call 27; refine (next_none _ _ _ hnet).mono ?_; rintro e w' ⟨rfl, hw⟩; rw [hw]; clear hw w')
      refine wp_loop_rounds 1 ?_
      rw [rounds_succ]
      go_wp2
      refine wp_loop_rounds 1 ?_
      rw [rounds_succ]
      go_wp2
      go_ret2
      obtain ⟨hG, hRu, hd1, hrr, hU⟩ := unhide HF
      exact ⟨rfl, r, d, w.heap.size + 2, Rl, hrr, hRu, hG, hd1, hU⟩

end Go.Proofs.YbulkahtqFmt
