/-
  THE WALK of LawS1680CWaits.
-/
import Derived.Test.YbulkahtqFmtBld
import Derived.Deep.QuietTactic
import Derived.BigQuiet
import Derived.WalkSmall
namespace Go.Proofs.YbulkahtqFmt
open Go.RowKit Go.WideMaps Go.Maps Kit

set_option maxRecDepth 100000 in
set_option maxHeartbeats 400000 in
theorem waits_long (a : Option Addr) (l c : Nat) (seed : Int) (orw : Bool) (w : World) (h : 512 < l) :
    Calls Ybaf.prog 6 #[.slice a l c, .bool orw, .int .u64 seed] w fun e w' => e = .returned (.bool true) ∧ Below w.heap.size w w' := by
  go_enter Ybaf.func6, Ybaf.ntmps6
  go_wp2
  go_ret
  exact ⟨rfl, Below.refl _ _⟩

set_option maxRecDepth 100000 in
set_option maxHeartbeats 4000000 in
theorem waits_any (a : Option Addr) (l c : Nat) (seed : Int) (orw : Bool) (w : World) (hl : l ≤ 512) (P : Nat → Nat) (aT : Nat → Option Addr) (nT cT : Nat → Nat) (tv : Nat → Nat → Nat) (hI : Ins w.heap.size w a l P aT nT cT tv) :
    Calls Ybaf.prog 6 #[.slice a l c, .bool orw, .int .u64 seed] w fun e w' => e = .returned (.bool true) ∧ Below w.heap.size w w' := by
  go_enter Ybaf.func6, Ybaf.ntmps6
  go_wp2
  go_loopw [7] (fun i wx => ∃ k : Nat, k ≤ l ∧ i = .int .i64 k ∧ (∀ j, j < k → nT j ≤ 1024) ∧ wx = w) (fun i _ => l - (intOf i).toNat)
  case atStart => exact ⟨0, Nat.zero_le _, rfl, fun j hj => absurd hj (by omega), rfl⟩
  case round =>
    obtain ⟨k, hk, rfl, hsm, hwr⟩ := hrel
    replace hwr := hwr.symm
    subst hwr
    have HM := hide hsm
    clear hsm
    by_cases hkl : k < l
    · obtain ⟨b, off, rfl, hbl, hat⟩ := hI.at_ (by omega)
      obtain ⟨_, q1, _⟩ := hat k hkl
      clear hat
      by_cases hn : nT k ≤ 1024
      · go_wp2
        go_roundw
        case rel => exact ⟨k + 1, by omega, by go_num, fun j hj => by
          by_cases hjk : j = k
          · rw [hjk]; exact hn
          · exact unhide HM j (by omega), trivial⟩
        case measure => simp [intOf]; omega
      · go_wp2
        go_ret
        exact ⟨rfl, Below.refl _ _⟩
    · have hke : l = k := by omega
      subst hke
      clear hkl hk
      go_wp2
      go_loopw [8, 11, 12, 13] (fun v8 v11 v12 i wx => ∃ k : Nat, k ≤ l ∧ i = .int .i64 k ∧ Bld w P nT tv k v8 v11 v12 wx) (fun _ _ _ i _ => l - (intOf i).toNat)
      case atStart => exact ⟨0, Nat.zero_le _, rfl, bld_start w P nT tv⟩
      case round =>
        obtain ⟨k, hk, rfl, hBld⟩ := hrel
        obtain ⟨a8, c8, a11, c11, a12, c12, rfl, rfl, rfl⟩ := hBld.vals
        have HBld := hide hBld
        have hbel := hBld.bel
        clear hBld
        by_cases hkl : k < l
        · obtain ⟨b, off, rfl, hbl, hat⟩ := hI.at_ (by omega)
          obtain ⟨q0, q1, q2⟩ := hat k hkl
          clear hat
          have hp := hI.p k
          have ht := hI.t k
          have hn := unhide HM k hkl
          replace q0 := (hbel.cell (p := ⟨b, off + k * 2, none⟩) hbl).trans q0
          replace q1 := (hbel.cell (p := ⟨b, off + k * 2 + 1, none⟩) hbl).trans q1
          obtain ⟨pj, hpj⟩ : ∃ pj, pj = P k % 4 := ⟨_, rfl⟩
          have hpj4 : pj < 4 := by omega
          have hpi : (P k : Int) % 4 = (pj : Int) := by omega
          have HPJ := hide hpj
          clear hpj
          have hn12 : Calls Ybaf.prog 12 #[.int .u8 (pj : Int)] wr fun e w' => e = .returned (.string (nmB pj)) ∧ w' = wr := by
            have := name_any pj (by omega) wr
            rwa [Nat.mod_eq_of_lt hpj4] at this
          have HT := hide (And.intro q2 ht)
          clear q2 ht
          generalize aT k = aTk at q1 HT
          generalize hnT : nT k = nTk at q1 HT hn
          have HNT := hide hnT
          clear hnT
          generalize cT k = cTk at q1
          go_wp2_with (go_at_call 12; refine hn12.mono ?_; rintro e w' ⟨rfl, hw⟩; rw [hw]; clear hw w')
          rename World => wz
          obtain ⟨p, hpn⟩ : ∃ p, p = nmB pj := ⟨_, rfl⟩
          rw [← hpn]
          obtain ⟨f, hf⟩ : ∃ f : Nat → ByteArray, f = fun j => nmB (tv k j % 4) := ⟨_, rfl⟩
          have HPF := hide (And.intro hpn hf)
          clear hpn hf hn12 q0 hpi hp
          obtain ⟨i0, hi, hz0, hz1, hz2⟩ := info_parts Ybaf.info9
          go_loopw [16, 17] (fun vt qv wx => ∃ (q : Nat) (aq : Option Addr) (cq : Nat), q ≤ nTk ∧ qv = .int .i64 q ∧ vt = .slice aq (dd p f q).length cq ∧ wx.ownsRow wz.heap.size 9 1 (.slice aq (dd p f q).length cq) (dd p f q).length ((dd p f q).map .string) ∧ Below wz.heap.size wz wx) (fun _ qv _ => nTk - (intOf qv).toNat)
          case atStart => exact ⟨0, none, 0, Nat.zero_le _, rfl, rfl, World.ownsRow_nil _ _ _ _, Below.refl _ _⟩
          case round =>
            obtain ⟨q, aq, cq, hq, rfl, rfl, hown, hbx⟩ := hrel
            have hzz := hbel.size
            have q1' := (hbx.cell (p := ⟨b, off + k * 2 + 1, none⟩) (by simp only; omega)).trans q1
            by_cases hqn : q < nTk
            · obtain ⟨b1, off1, rfl, hb1, hc1⟩ := (unhide HT).1 (by omega)
              have t1 := (hbx.cell (p := ⟨b1, off1 + q, none⟩) (by simp only; omega)).trans ((hbel.cell (p := ⟨b1, off1 + q, none⟩) hb1).trans (hc1 q hqn))
              have htv := (unhide HT).2 q
              clear hc1
              have hfq : nmB (tv k q % 4) = f q := by rw [(unhide HPF).2]
              have hn12 : Calls Ybaf.prog 12 #[.int .u8 (tv k q : Int)] wr fun e w' => e = .returned (.string (f q)) ∧ w' = wr := by
                rw [← hfq]; exact name_any _ htv wr
              clear hfq
              have hdl := dd_len p f q
              have hcon : Calls Ybaf.prog 13 #[.slice aq (dd p f q).length cq, .string (f q)] wr fun e w' => ∃ t : Bool, e = .returned (.bool t) ∧ (t = true ↔ f q ∈ dd p f q) ∧ w' = wr := by
                refine contains_any aq _ cq (dd p f q) (f q) wr (by omega) rfl (fun hpos => ?_)
                rcases hown.2 with ⟨_, e⟩ | ⟨gb, cap, cur, e, _⟩
                · omega
                · simp only [Value.slice.injEq] at e
                  obtain ⟨rfl, _, rfl⟩ := e
                  refine ⟨gb, 0, rfl, fun i hi => ?_⟩
                  rw [Nat.zero_add, hown.cellAt i (by omega)]
                  simp [hi]
              have hskip : f q = p ∨ f q ∈ dd p f q → dd p f (q + 1) = dd p f q := dd_skip
              have htake : ¬ (f q = p ∨ f q ∈ dd p f q) → dd p f (q + 1) = dd p f q ++ [f q] := dd_take
              have HD := hide (And.intro hskip htake)
              clear hskip htake
              generalize tv k q = tq at t1 htv hn12
              generalize hfy : f q = y at hn12 hcon HD
              have hss := str_same' y p
              have HSS := hide hss
              clear hss
              have hbz := hbx.size
              by_cases hyp : y = p
              · have he : (y.toList == p.toList) = true := by rw [unhide HSS]; simpa using hyp
                have hd := (unhide HD).1 (.inl hyp)
                have HE := hide hd
                clear hcon hd hfy
                go_wp2_with (go_at_call 12; refine hn12.mono ?_; rintro e w' ⟨rfl, hw⟩; rw [hw]; clear hw w')
                refine ⟨⟨q + 1, aq, cq, by omega, by go_num, ?_, ?_, hbx⟩, by simp [intOf]; omega⟩
                · rw [unhide HE]
                · rw [unhide HE]; exact hown
              · have he : (y.toList == p.toList) = false := by rw [unhide HSS]; simpa using hyp
                by_cases hmem : y ∈ dd p f q
                · have hd := (unhide HD).1 (.inr hmem)
                  have HE := hide hd
                  have hcon' : Calls Ybaf.prog 13 #[.slice aq (dd p f q).length cq, .string y] wr fun e w' => e = .returned (.bool true) ∧ w' = wr := hcon.mono (fun e w' ⟨t, he, ht, hw⟩ => ⟨by rw [he, ht.2 hmem], hw⟩)
                  clear hcon hd hfy
                  go_wp2_with (first | (go_at_call 12; refine hn12.mono ?_; rintro e w' ⟨rfl, hw⟩; rw [hw]; clear hw w') | (go_at_call 13; refine hcon'.mono ?_; rintro e w' ⟨rfl, hw⟩; rw [hw]; clear hw w'))
                  refine ⟨⟨q + 1, aq, cq, by omega, by go_num, ?_, ?_, hbx⟩, by simp [intOf]; omega⟩
                  · rw [unhide HE]
                  · rw [unhide HE]; exact hown
                · have hd := (unhide HD).2 (fun h => h.elim hyp hmem)
                  have HE := hide hd
                  have hcon' : Calls Ybaf.prog 13 #[.slice aq (dd p f q).length cq, .string y] wr fun e w' => e = .returned (.bool false) ∧ w' = wr := hcon.mono (fun e w' ⟨t, he, ht, hw⟩ => ⟨by rw [he]; cases t; rfl; exact absurd (ht.1 rfl) hmem, hw⟩)
                  clear hcon hd hfy
                  go_wp2_with (first | (go_at_call 12; refine hn12.mono ?_; rintro e w' ⟨rfl, hw⟩; rw [hw]; clear hw w') | (go_at_call 13; refine hcon'.mono ?_; rintro e w' ⟨rfl, hw⟩; rw [hw]; clear hw w') | (at_builtin; refine wpList_append_own_at _ rfl _ _ 33 rfl wz.heap.size 9 i0 (.string ByteArray.empty) 1 16 Ybaf.underlying33 hi hz0 hz1 hz2 rfl (by decide) _ _ _ rfl (hown.alloc _) ⟨wr.heap.size, 0, none⟩ 1 1 [.string y] rfl rfl (cell_one_new _ _ _) (by simp [Value.oneCell']) (by unfold maxLen; omega) (by omega) (by simp; omega) ?_; intro v' w5 hown5 hgrow5 _ _))
                  obtain ⟨a5, c5, rfl⟩ := own_slice hown5
                  have hlen5 : (dd p f (q + 1)).length = (dd p f q).length + 1 := by rw [unhide HE]; simp
                  refine ⟨⟨q + 1, a5, c5, by omega, by go_num, by rw [hlen5], ?_, (hbx.alloc (by omega) _).grown hgrow5 (by simp; omega) (fun x hx => (hown.lt x hx).1)⟩, by simp [intOf]; omega⟩
                  rw [hlen5, unhide HE, List.map_append]; exact hown5
            · have hqe : nTk = q := by omega
              have hxs : tnOf P nT tv k = dd p f q := by
                unfold tnOf pnOf
                rw [unhide HNT, hqe, (unhide HPF).1, (unhide HPF).2, unhide HPJ]
              have hdl := dd_len p f q
              generalize dd p f q = xs at hxs hown hdl ⊢
              obtain ⟨xs8, la, se, G, hS0, hla, hse, h7⟩ := (unhide HBld).ex
              have hbw : Below w.heap.size w wr := hbel.trans (hbx.mono hbel.size)
              have hS := (hS0.below hbx).addTs hown hS0.hb (fun b hb => (hS0.own12.lt b hb).2)
              have hgl := hla pj hpj4
              rw [← (unhide HPF).1] at hgl
              obtain ⟨aL, cL, hL⟩ := own_slice (hS0.ts _ _ hgl).1
              have hek : ∃ ek, ek = decide (0 < (LK (pnOf P) (tnOf P nT tv) k p).length) := ⟨_, rfl⟩
              obtain ⟨ek, hek⟩ := hek
              have hns : se pj = false → (LK (pnOf P) (tnOf P nT tv) k p).length = 0 := fun hf => by
                rw [LK_none k (fun i hi e => ?_)]; rfl
                have hh : pnOf P i = nmB pj := e.trans (unhide HPF).1
                have := (hse pj hpj4).2 ⟨i, hi, nmB_inj (by omega) hpj4 hh⟩
                rw [hf] at this; cases this
              have s1 := hS.seenCell hpj4
              have l1 := hS.lastCell hpj4
              rw [hL] at l1
              have hnk : k < 512 := by omega
              have hnb : xs.length ≤ 1024 := by omega
              generalize hnL : (LK (pnOf P) (tnOf P nT tv) k p).length = nL at l1 hek hns hL
              have hnL' : nL ≤ 1024 := by
                rw [← hnL]
                refine LK_len k (fun i hi => Nat.le_trans (dd_len _ _ _) (unhide HM i (by omega)))
              obtain ⟨i4, hi4, hy0, hy1, hy2⟩ := info_parts Ybaf.info4
              obtain ⟨i7, hi7, hx0, hx1, hx2⟩ := info_parts Ybaf.info67
              have HB1 := hide (And.intro hS0 (And.intro hla (And.intro hse (And.intro h7 (And.intro hxs (And.intro hek hnL))))))
              clear hla hse h7 hxs hgl hL hnL HBld
              have hbz := hbx.size
              have hwz := hS0.hb
              clear hS0
              cases hsj : se pj with
              | false =>
                rw [hsj] at s1
                have he : ek = false := by rw [hek, hns hsj]; rfl
                subst he
                clear hek hns hsj
                go_wp2_with (at_builtin; refine wpList_append_own_at _ rfl _ _ 39 rfl (w.heap.size + 2) 4 i4 (.bool false) 1 1 Ybaf.underlying39 hi4 hy0 hy1 hy2 rfl (by decide) _ _ _ rfl (hS.own11.alloc _) ⟨wr.heap.size, 0, none⟩ 1 1 [.bool false] rfl rfl (cell_one_new _ _ _) (by simp [Value.oneCell']) (by unfold maxLen; omega) (by omega) (by simp; omega) ?_)
                intro va wa howna hga _ _
                have hSa := hS.grow11 howna hga
                have hba := (hbw.alloc hbw.size (.cells #[.bool false] 4)).grown hga (by have := hbw.size; simp; omega) (fun x hx => by have := (hS.own11.lt x hx).1; omega)
                obtain ⟨aa, ca, rfl⟩ := own_slice howna
                have hza := hSa.hb
                have HSa := hide (And.intro hba hSa.hb)
                have hOwn := hSa.own12
                have HSa' := hide hSa
                clear hS hSa howna hga hba s1 l1 hown
                go_wp2_with (at_builtin; refine wpList_append_own_at _ rfl _ _ 33 rfl (w.heap.size + 2) 9 i0 (.string ByteArray.empty) 1 16 Ybaf.underlying33 hi hz0 hz1 hz2 rfl (by decide) _ _ _ rfl (hOwn.alloc _) ⟨wa.heap.size, 0, none⟩ 1 1 [.string p] rfl rfl (cell_one_new _ _ _) (by simp [Value.oneCell']) (by unfold maxLen; omega) (by omega) (by simp; omega) ?_)
                intro vb wb hownb hgb _ hatb
                have hSb := (unhide HSa').grow12 hownb hgb hatb
                have hbb := ((unhide HSa).1.alloc (unhide HSa).1.size (.cells #[.string p] 9)).grown hgb (by have := (unhide HSa).1.size; simp; omega) (fun x hx => by have := (hOwn.lt x hx).1; omega)
                obtain ⟨ab, cb, rfl⟩ := own_slice hownb
                have hSc := hSb.setSeen hpj4 true
                have hSd := hSc.setLast hpj4 (.slice aq xs.length cq)
                have s1 := hSb.seenCell hpj4
                have s1f := frozen_of_blk hSb.bsn pj
                have l1 := hSc.lastCell hpj4
                have l1f := frozen_of_blk hSc.blt pj
                have hOwn8 := hSd.own8
                have hzb := hSb.hb
                have HSd := hide (And.intro hbb hSd)
                clear hSb hSc hSd hbb hownb hgb hatb hOwn HSa HSa' hza
                go_wp2_with (at_builtin; refine wpList_append_own_at _ rfl _ _ 49 rfl (w.heap.size + 2) 67 i7 _ 7 104 Ybaf.underlying49 hi7 hx0 hx1 hx2 rfl (by decide) _ _ _ rfl (hOwn8.alloc _) ⟨wb.heap.size, 0, none⟩ 1 1 (seven p (.slice aq xs.length cq) xs.length) rfl rfl (by have := cell_seven ((wb.setCell ⟨w.heap.size + 1, pj, none⟩ (.bool true)).setCell ⟨w.heap.size, pj, none⟩ (.slice aq xs.length cq)) p (.slice aq xs.length cq) xs.length 67; simp only [set_size] at this; exact this) (by simp [Value.oneCell']) (by unfold maxLen; omega) (by omega) (by simp; omega) ?_)
                intro vc wc hownc hgc _ _
                obtain ⟨ac, cc, rfl⟩ := own_slice hownc
                have hSf := (unhide HSd).2.grow8 hownc hgc
                have hbd := ((unhide HSd).1.setCell (p := ⟨w.heap.size + 1, pj, none⟩) (by simp only; omega) (.bool true)).setCell (p := ⟨w.heap.size, pj, none⟩) (by simp only; omega) (.slice aq xs.length cq)
                have hbf := (hbd.alloc (by rw [set_size, set_size]; omega) (.cells #[.string p, .slice aq xs.length cq, .slice none 0 0, .bool true, .int .i64 xs.length, .string ByteArray.empty, .int .i64 0] 67)).grown hgc (by simp; omega) (fun x hx => by have := (hOwn8.lt x hx).1; omega)
                have HF := hide (And.intro hSf hbf)
                clear hSf hbf hbd hownc hgc hOwn8 HSd s1 s1f l1 l1f hzb
                go_wp2
                obtain ⟨hSf, hbf⟩ := unhide HF
                obtain ⟨hS0, hla, hse, h7, hxs, hek, hnL⟩ := unhide HB1
                refine ⟨⟨k + 1, by omega, by go_num, bld_step (unhide HPJ) (unhide HPF).1 hxs (by rw [hnL]; exact hek) hS0 hla hse h7 hSf hbf⟩, by simp [intOf]; omega⟩
              | true =>
                rw [hsj] at s1
                clear hns hsj
                by_cases hn0 : nL = 0
                · subst hn0
                  have he : ek = false := by rw [hek]; rfl
                  subst he
                  clear hek
                  go_wp2_with (at_builtin; refine wpList_append_own_at _ rfl _ _ 39 rfl (w.heap.size + 2) 4 i4 (.bool false) 1 1 Ybaf.underlying39 hi4 hy0 hy1 hy2 rfl (by decide) _ _ _ rfl (hS.own11.alloc _) ⟨wr.heap.size, 0, none⟩ 1 1 [.bool false] rfl rfl (cell_one_new _ _ _) (by simp [Value.oneCell']) (by unfold maxLen; omega) (by omega) (by simp; omega) ?_)
                  intro va wa howna hga _ _
                  have hSa := hS.grow11 howna hga
                  have hba := (hbw.alloc hbw.size (.cells #[.bool false] 4)).grown hga (by have := hbw.size; simp; omega) (fun x hx => by have := (hS.own11.lt x hx).1; omega)
                  obtain ⟨aa, ca, rfl⟩ := own_slice howna
                  have hza := hSa.hb
                  have HSa := hide (And.intro hba hSa.hb)
                  have hOwn := hSa.own12
                  have HSa' := hide hSa
                  clear hS hSa howna hga hba s1 l1 hown
                  go_wp2_with (at_builtin; refine wpList_append_own_at _ rfl _ _ 33 rfl (w.heap.size + 2) 9 i0 (.string ByteArray.empty) 1 16 Ybaf.underlying33 hi hz0 hz1 hz2 rfl (by decide) _ _ _ rfl (hOwn.alloc _) ⟨wa.heap.size, 0, none⟩ 1 1 [.string p] rfl rfl (cell_one_new _ _ _) (by simp [Value.oneCell']) (by unfold maxLen; omega) (by omega) (by simp; omega) ?_)
                  intro vb wb hownb hgb _ hatb
                  have hSb := (unhide HSa').grow12 hownb hgb hatb
                  have hbb := ((unhide HSa).1.alloc (unhide HSa).1.size (.cells #[.string p] 9)).grown hgb (by have := (unhide HSa).1.size; simp; omega) (fun x hx => by have := (hOwn.lt x hx).1; omega)
                  obtain ⟨ab, cb, rfl⟩ := own_slice hownb
                  have hSc := hSb.setSeen hpj4 true
                  have hSd := hSc.setLast hpj4 (.slice aq xs.length cq)
                  have s1 := hSb.seenCell hpj4
                  have s1f := frozen_of_blk hSb.bsn pj
                  have l1 := hSc.lastCell hpj4
                  have l1f := frozen_of_blk hSc.blt pj
                  have hOwn8 := hSd.own8
                  have hzb := hSb.hb
                  have HSd := hide (And.intro hbb hSd)
                  clear hSb hSc hSd hbb hownb hgb hatb hOwn HSa HSa' hza
                  go_wp2_with (at_builtin; refine wpList_append_own_at _ rfl _ _ 49 rfl (w.heap.size + 2) 67 i7 _ 7 104 Ybaf.underlying49 hi7 hx0 hx1 hx2 rfl (by decide) _ _ _ rfl (hOwn8.alloc _) ⟨wb.heap.size, 0, none⟩ 1 1 (seven p (.slice aq xs.length cq) xs.length) rfl rfl (by have := cell_seven ((wb.setCell ⟨w.heap.size + 1, pj, none⟩ (.bool true)).setCell ⟨w.heap.size, pj, none⟩ (.slice aq xs.length cq)) p (.slice aq xs.length cq) xs.length 67; simp only [set_size] at this; exact this) (by simp [Value.oneCell']) (by unfold maxLen; omega) (by omega) (by simp; omega) ?_)
                  intro vc wc hownc hgc _ _
                  obtain ⟨ac, cc, rfl⟩ := own_slice hownc
                  have hSf := (unhide HSd).2.grow8 hownc hgc
                  have hbd := ((unhide HSd).1.setCell (p := ⟨w.heap.size + 1, pj, none⟩) (by simp only; omega) (.bool true)).setCell (p := ⟨w.heap.size, pj, none⟩) (by simp only; omega) (.slice aq xs.length cq)
                  have hbf := (hbd.alloc (by rw [set_size, set_size]; omega) (.cells #[.string p, .slice aq xs.length cq, .slice none 0 0, .bool true, .int .i64 xs.length, .string ByteArray.empty, .int .i64 0] 67)).grown hgc (by simp; omega) (fun x hx => by have := (hOwn8.lt x hx).1; omega)
                  have HF := hide (And.intro hSf hbf)
                  clear hSf hbf hbd hownc hgc hOwn8 HSd s1 s1f l1 l1f hzb
                  go_wp2
                  obtain ⟨hSf, hbf⟩ := unhide HF
                  obtain ⟨hS0, hla, hse, h7, hxs, hek, hnL⟩ := unhide HB1
                  refine ⟨⟨k + 1, by omega, by go_num, bld_step (unhide HPJ) (unhide HPF).1 hxs (by rw [hnL]; exact hek) hS0 hla hse h7 hSf hbf⟩, by simp [intOf]; omega⟩
                · have hn1 : 0 < nL := by omega
                  have he : ek = true := by rw [hek]; simpa using hn1
                  subst he
                  clear hek
                  go_wp2_with (at_builtin; refine wpList_append_own_at _ rfl _ _ 39 rfl (w.heap.size + 2) 4 i4 (.bool false) 1 1 Ybaf.underlying39 hi4 hy0 hy1 hy2 rfl (by decide) _ _ _ rfl (hS.own11.alloc _) ⟨wr.heap.size, 0, none⟩ 1 1 [.bool true] rfl rfl (cell_one_new _ _ _) (by simp [Value.oneCell']) (by unfold maxLen; omega) (by omega) (by simp; omega) ?_)
                  intro va wa howna hga _ _
                  have hSa := hS.grow11 howna hga
                  have hba := (hbw.alloc hbw.size (.cells #[.bool true] 4)).grown hga (by have := hbw.size; simp; omega) (fun x hx => by have := (hS.own11.lt x hx).1; omega)
                  obtain ⟨aa, ca, rfl⟩ := own_slice howna
                  have hza := hSa.hb
                  have HSa := hide (And.intro hba hSa.hb)
                  have hOwn := hSa.own12
                  have HSa' := hide hSa
                  clear hS hSa howna hga hba s1 l1 hown
                  go_wp2_with (at_builtin; refine wpList_append_own_at _ rfl _ _ 33 rfl (w.heap.size + 2) 9 i0 (.string ByteArray.empty) 1 16 Ybaf.underlying33 hi hz0 hz1 hz2 rfl (by decide) _ _ _ rfl (hOwn.alloc _) ⟨wa.heap.size, 0, none⟩ 1 1 [.string p] rfl rfl (cell_one_new _ _ _) (by simp [Value.oneCell']) (by unfold maxLen; omega) (by omega) (by simp; omega) ?_)
                  intro vb wb hownb hgb _ hatb
                  have hSb := (unhide HSa').grow12 hownb hgb hatb
                  have hbb := ((unhide HSa).1.alloc (unhide HSa).1.size (.cells #[.string p] 9)).grown hgb (by have := (unhide HSa).1.size; simp; omega) (fun x hx => by have := (hOwn.lt x hx).1; omega)
                  obtain ⟨ab, cb, rfl⟩ := own_slice hownb
                  have hSc := hSb.setSeen hpj4 true
                  have hSd := hSc.setLast hpj4 (.slice aq xs.length cq)
                  have s1 := hSb.seenCell hpj4
                  have s1f := frozen_of_blk hSb.bsn pj
                  have l1 := hSc.lastCell hpj4
                  have l1f := frozen_of_blk hSc.blt pj
                  have hOwn8 := hSd.own8
                  have hzb := hSb.hb
                  have HSd := hide (And.intro hbb hSd)
                  clear hSb hSc hSd hbb hownb hgb hatb hOwn HSa HSa' hza
                  go_wp2_with (at_builtin; refine wpList_append_own_at _ rfl _ _ 49 rfl (w.heap.size + 2) 67 i7 _ 7 104 Ybaf.underlying49 hi7 hx0 hx1 hx2 rfl (by decide) _ _ _ rfl (hOwn8.alloc _) ⟨wb.heap.size, 0, none⟩ 1 1 (seven p (.slice aq xs.length cq) xs.length) rfl rfl (by have := cell_seven ((wb.setCell ⟨w.heap.size + 1, pj, none⟩ (.bool true)).setCell ⟨w.heap.size, pj, none⟩ (.slice aq xs.length cq)) p (.slice aq xs.length cq) xs.length 67; simp only [set_size] at this; exact this) (by simp [Value.oneCell']) (by unfold maxLen; omega) (by omega) (by simp; omega) ?_)
                  intro vc wc hownc hgc _ _
                  obtain ⟨ac, cc, rfl⟩ := own_slice hownc
                  have hSf := (unhide HSd).2.grow8 hownc hgc
                  have hbd := ((unhide HSd).1.setCell (p := ⟨w.heap.size + 1, pj, none⟩) (by simp only; omega) (.bool true)).setCell (p := ⟨w.heap.size, pj, none⟩) (by simp only; omega) (.slice aq xs.length cq)
                  have hbf := (hbd.alloc (by rw [set_size, set_size]; omega) (.cells #[.string p, .slice aq xs.length cq, .slice none 0 0, .bool true, .int .i64 xs.length, .string ByteArray.empty, .int .i64 0] 67)).grown hgc (by simp; omega) (fun x hx => by have := (hOwn8.lt x hx).1; omega)
                  have HF := hide (And.intro hSf hbf)
                  clear hSf hbf hbd hownc hgc hOwn8 HSd s1 s1f l1 l1f hzb
                  go_wp2
                  obtain ⟨hSf, hbf⟩ := unhide HF
                  obtain ⟨hS0, hla, hse, h7, hxs, hek, hnL⟩ := unhide HB1
                  refine ⟨⟨k + 1, by omega, by go_num, bld_step (unhide HPJ) (unhide HPF).1 hxs (by rw [hnL]; exact hek) hS0 hla hse h7 hSf hbf⟩, by simp [intOf]; omega⟩
        · have hke : l = k := by omega
          subst hke
          clear hkl hk
          rename World => wv
          have hB := unhide HBld
          have hWa := hB.waits (unhide HM)
          have hAt := hB.at_
          clear hB HBld
          go_wp2_with fail
          refine (drive_any _ _ _ _ _ _ _).mono ?_
          rintro e w1 ⟨rfl, rfl⟩
          have bW : Below wv.heap.size wv ((((wv.alloc (.cells #[.pointer none] 34)).alloc (.cells #[.func (.func 14) #[] #[.pointer (some ⟨wv.heap.size, 0, none⟩)]] 42)).alloc (.cells #[.slice none 0 0] 33)).alloc (.cells #[.string ⟨#[]⟩, .slice a8 l c8, .map none, .int .i64 0, .slice none 0 0] 53)) :=
            ((((Below.refl _ _).alloc (Nat.le_refl _) _).alloc (by simp) _).alloc (by simp; omega) _).alloc (by simp; omega) _
          have hWb := hWa.below bW
          have hRW : ((((wv.alloc (.cells #[.pointer none] 34)).alloc (.cells #[.func (.func 14) #[] #[.pointer (some ⟨wv.heap.size, 0, none⟩)]] 42)).alloc (.cells #[.slice none 0 0] 33)).alloc (.cells #[.string ⟨#[]⟩, .slice a8 l c8, .map none, .int .i64 0, .slice none 0 0] 53)).heap[wv.heap.size]? = some (.cells #[.pointer none] 34) := by
            rw [blk_old _ _ (by simp; omega), blk_old _ _ (by simp; omega), blk_old _ _ (by simp)]; exact blk_new _ _
          have hgW : ((((wv.alloc (.cells #[.pointer none] 34)).alloc (.cells #[.func (.func 14) #[] #[.pointer (some ⟨wv.heap.size, 0, none⟩)]] 42)).alloc (.cells #[.slice none 0 0] 33)).alloc (.cells #[.string ⟨#[]⟩, .slice a8 l c8, .map none, .int .i64 0, .slice none 0 0] 53)).heap[wv.heap.size + 1]? = some (.cells #[.func (.func 14) #[] #[.pointer (some ⟨wv.heap.size, 0, none⟩)]] 42) := by
            rw [blk_old _ _ (by simp), blk_old _ _ (by simp)]
            have := blk_new (wv.alloc (.cells #[.pointer none] 34)) (.cells #[.func (.func 14) #[] #[.pointer (some ⟨wv.heap.size, 0, none⟩)]] 42)
            simpa only [World.size_alloc] using this
          have hkW : ((((wv.alloc (.cells #[.pointer none] 34)).alloc (.cells #[.func (.func 14) #[] #[.pointer (some ⟨wv.heap.size, 0, none⟩)]] 42)).alloc (.cells #[.slice none 0 0] 33)).alloc (.cells #[.string ⟨#[]⟩, .slice a8 l c8, .map none, .int .i64 0, .slice none 0 0] 53)).heap[wv.heap.size + 1 + 1]? = some (.cells #[.slice none 0 0] 33) := by
            rw [blk_old _ _ (by simp)]
            have := blk_new ((wv.alloc (.cells #[.pointer none] 34)).alloc (.cells #[.func (.func 14) #[] #[.pointer (some ⟨wv.heap.size, 0, none⟩)]] 42)) (.cells #[.slice none 0 0] 33)
            simpa only [World.size_alloc] using this
          have hsW : ((((wv.alloc (.cells #[.pointer none] 34)).alloc (.cells #[.func (.func 14) #[] #[.pointer (some ⟨wv.heap.size, 0, none⟩)]] 42)).alloc (.cells #[.slice none 0 0] 33)).alloc (.cells #[.string ⟨#[]⟩, .slice a8 l c8, .map none, .int .i64 0, .slice none 0 0] 53)).heap[wv.heap.size + 1 + 1 + 1]? = some (.cells #[.string ⟨#[]⟩, .slice a8 l c8, .map none, .int .i64 0, .slice none 0 0] 53) := by
            have := blk_new (((wv.alloc (.cells #[.pointer none] 34)).alloc (.cells #[.func (.func 14) #[] #[.pointer (some ⟨wv.heap.size, 0, none⟩)]] 42)).alloc (.cells #[.slice none 0 0] 33)) (.cells #[.string ⟨#[]⟩, .slice a8 l c8, .map none, .int .i64 0, .slice none 0 0] 53)
            simpa only [World.size_alloc] using this
          have HA := hide hAt
          clear hAt hWa
          go_wp2_with fail
          refine (runW_any wv.heap.size (wv.heap.size + 1 + 1 + 1) (wv.heap.size + 1) (wv.heap.size + 1 + 1) wv.heap.size a8 l c8 (pnOf P) (tnOf P nT tv) seed orw _ hl hWb (Nat.le_refl _) (by simp) (cell_of_blk hsW rfl) (cell_of_blk hsW rfl) (cell_of_blk hsW rfl) (cell_of_blk hgW rfl) (cell_of_blk hkW rfl) (cell_of_blk hRW rfl) (frozen_of_blk hRW 0) (by omega) (by omega)).mono ?_
          rintro e w2 ⟨rfl, r, d, gr, Rl, hrr, hRul, hGS, hd1, hupd⟩
          clear hRW hgW hkW hsW hWb
          have hold : ∀ b i v, b < wv.heap.size → wv.cell? ⟨b, i, none⟩ = some v → w2.cell? ⟨b, i, none⟩ = some v := fun b i v hb hv => by
            rw [hupd.cell (p := ⟨b, i, none⟩) (by simp; omega) (by simp; omega), bW.cell (p := ⟨b, i, none⟩) hb]; exact hv
          have hbw2 : Below w.heap.size w w2 := hbel.trans ((bW.mono hbel.size).trans (hupd.mono (T' := []) (by have := hbel.size; simp; omega) (fun x hx hm => by have := hbel.size; simp at hm; omega)).below)
          obtain ⟨a3, c3, a4, c4, hrow, h34⟩ := rul_at hRul
          have r0 : w2.cell? ⟨r, 0, none⟩ = some (ptr d) := hrow.cell (i := 0) (by omega)
          have r1 : w2.cell? ⟨r, 1, none⟩ = some (.slice none 0 0) := hrow.cell (i := 1) (by omega)
          have r2 : w2.cell? ⟨r, 2, none⟩ = some (.int .i64 0) := hrow.cell (i := 2) (by omega)
          have r3 : w2.cell? ⟨r, 3, none⟩ = some (.slice a3 l c3) := hrow.cell (i := 3) (by omega)
          have r4 : w2.cell? ⟨r, 4, none⟩ = some (.slice a4 l c4) := hrow.cell (i := 4) (by omega)
          have r5 : w2.cell? ⟨r, 5, none⟩ = some (.int .i64 0) := hrow.cell (i := 5) (by omega)
          have HF := hide (And.intro hbw2 (And.intro hold (And.intro h34 hGS)))
          clear hbw2 hold h34 hGS hRul hupd hrow bW hI
          have hnil : ∀ w, (binOp .neq 46 (.slice none 0 0) (.slice none 0 0)).run Ybaf.prog w = .ok (.bool false) w := fun w => by
            simp only [binOp]
            simp [Op.equal, Op.maxDepth, Lib.run_equalIn_slice_nil w 9999 46 55 none 0 0 0 0 Ybaf.underlying46]
          go_wp2
          clear hnil
          go_loopw [24] (fun i wx => ∃ k : Nat, k ≤ l ∧ i = .int .i64 k ∧ Below w2.heap.size w2 wx) (fun i _ => l - (intOf i).toNat)
          case atStart => exact ⟨0, Nat.zero_le _, rfl, Below.refl _ _⟩
          case round =>
            obtain ⟨k, hk, rfl, hbx⟩ := hrel
            have cc : ∀ {b i : Nat} {v : Value}, w2.cell? ⟨b, i, none⟩ = some v → wr.cell? ⟨b, i, none⟩ = some v := fun {b i v} hv => by
              rw [hbx.cell (p := ⟨b, i, none⟩) (cell_lt hv)]; exact hv
            have x9 := cc hrr
            have x0 := cc r0
            have x1 := cc r1
            have x2 := cc r2
            have x3 := cc r3
            have x4 := cc r4
            have x5 := cc r5
            by_cases hkl : k < l
            · obtain ⟨hbw2, hold, h34, hGS⟩ := unhide HF
              obtain ⟨b3, b4, rfl, rfl, h34i⟩ := h34 (by omega)
              obtain ⟨⟨bc, cq, y3, yc⟩, y4⟩ := h34i k hkl
              obtain ⟨b11, b12, rfl, rfl, hA⟩ := (unhide HA).1 (by omega)
              obtain ⟨_, _, z12, z11⟩ := hA k hkl
              have y12 := cc (hold _ _ _ (cell_lt z12) z12)
              have y11 := cc (hold _ _ _ (cell_lt z11) z11)
              replace y3 := cc y3
              replace yc := cc yc
              replace y4 := cc y4
              clear hbw2 hold h34 hGS h34i hA z12 z11 cc
              generalize pnOf P k = pk at yc y12
              generalize decide (0 < (LK (pnOf P) (tnOf P nT tv) k pk).length) = ek at y4 y11
              go_wp2
              go_quiet (fail)
              go_wp2
              go_quiet (fail)
              go_wp2
              refine ⟨⟨k + 1, by omega, by go_num, below_drewN hbx _⟩, by simp [intOf]; omega⟩
            · have hke : l = k := by omega
              subst hke
              clear hkl hk cc
              go_wp2
              rename World => wy
              go_loopw [25] (fun i wx => ∃ k : Nat, k ≤ 4 ∧ i = .int .i64 k ∧ Below w2.heap.size w2 wx) (fun i _ => 4 - (intOf i).toNat)
              case atStart => exact ⟨0, Nat.zero_le _, rfl, hbx⟩
              case round =>
                obtain ⟨k, hk, rfl, hbx⟩ := hrel
                have cc : ∀ {b i : Nat} {v : Value}, w2.cell? ⟨b, i, none⟩ = some v → wr.cell? ⟨b, i, none⟩ = some v := fun {b i v} hv => by
                  rw [hbx.cell (p := ⟨b, i, none⟩) (cell_lt hv)]; exact hv
                have x9 := cc hrr
                have x0 := cc r0
                have x1 := cc r1
                have x2 := cc r2
                have x5 := cc r5
                have xd := cc hd1
                by_cases hk4 : k < 4
                · obtain ⟨hbw2, hold, h34, hGS⟩ := unhide HF
                  obtain ⟨sk, z1, hKK, aL, cL, z2, hL⟩ := (unhide HA).2 k hk4
                  have y1 := cc (hold _ _ _ (cell_lt z1) z1)
                  have y2 := cc (hold _ _ _ (cell_lt z2) z2)
                  have hbz := hbx.size
                  cases sk with
                  | false =>
                    clear hbw2 hold h34 hGS z1 hKK z2 hL cc
                    go_wp2
                    refine ⟨⟨k + 1, by omega, by go_num, hbx⟩, by simp [intOf]; omega⟩
                  | true =>
                    obtain ⟨p, aT', cT', hfind, t2, htg⟩ := seen_proc hGS (hKK rfl) (nmB_size k)
                    have hfind' : ∀ n, Calls Ybaf.prog 15 #[ptr gr, .string (nmB k)] (wr.drewN n) (fun e w' => e = .returned (ptr p) ∧ w' = wr.drewN n) := fun n => hfind _ (below_drewN hbx _)
                    have hn12 : ∀ w, Calls Ybaf.prog 12 #[.int .u8 (k : Int)] w fun e w' => e = .returned (.string (nmB k)) ∧ w' = w := fun w => by
                      have := name_any k (by omega) w
                      rwa [Nat.mod_eq_of_lt hk4] at this
                    have hwrap : IntKind.u8.wrap (k : Int) = (k : Int) := by
                      unfold IntKind.wrap
                      simp [IntKind.bits, IntKind.signed]
                      omega
                    have hnL := LK_len (pn := pnOf P) (tn := tnOf P nT tv) (y := nmB k) (M := 1024) l (fun i hi => Nat.le_trans (dd_len _ _ _) (unhide HM i hi))
                    have hcells : ∀ j, j < (LK (pnOf P) (tnOf P nT tv) l (nmB k)).length → ∃ bT t bL, aT' = some ⟨bT, 0, none⟩ ∧ aL = some ⟨bL, 0, none⟩ ∧ w2.cell? ⟨bT, j, none⟩ = some (ptr t) ∧ w2.cell? ⟨t, 0, none⟩ = some (.string ((LK (pnOf P) (tnOf P nT tv) l (nmB k)).getD j ByteArray.empty)) ∧ w2.cell? ⟨bL, j, none⟩ = some (.string ((LK (pnOf P) (tnOf P nT tv) l (nmB k)).getD j ByteArray.empty)) := fun j hj => by
                      obtain ⟨bT, rfl, hT⟩ := htg (by omega)
                      obtain ⟨t, e1, e2⟩ := hT j hj
                      obtain ⟨bL, rfl, _, hLc⟩ := hL (by omega)
                      exact ⟨bT, t, bL, rfl, rfl, e1, e2, hold _ _ _ (cell_lt (hLc j hj)) (hLc j hj)⟩
                    have HC := hide hcells
                    replace t2 := cc t2
                    have y2' : w2.cell? ⟨w.heap.size, k, none⟩ = _ := hold _ _ _ (cell_lt z2) z2
                    generalize hLL : LK (pnOf P) (tnOf P nT tv) l (nmB k) = LL at HC y2 y2' t2 hnL
                    clear hLL hfind htg hL hold h34 hGS z1 z2 hKK hbw2 hcells cc
                    go_wp2
                    go_quiet (first | (go_at_call 12; exact Calls.quiet_of_same (hn12 _)) | (go_at_call 15; exact Calls.quiet_of_same (hfind' _)))
                    have t2q : (wr.drewN nq).cell? ⟨p, 2, none⟩ = some (.slice aT' LL.length cT') := t2
                    have y2q : (wr.drewN nq).cell? ⟨w.heap.size, k, none⟩ = some (.slice aL LL.length cL) := y2
                    have hbq : Below w2.heap.size w2 (wr.drewN nq) := below_drewN hbx nq
                    clear t2 y2 y1 x9 x0 x1 x2 x5 xd hbx hn12 hfind' hwrap
                    generalize wr.drewN nq = wq at t2q y2q hbq ⊢
                    go_wp2_with (go_at_call 16; refine (targetsOf_any p _ _ _ _ _ rfl t2q).mono ?_; rintro e w' ⟨rfl, hw⟩; rw [hw]; clear hw w')
                    rename World => wo
                    go_loopw [28] (fun i wx => ∃ j : Nat, j ≤ LL.length ∧ i = .int .i64 j ∧ Below w2.heap.size w2 wx) (fun i _ => LL.length - (intOf i).toNat)
                    case atStart => exact ⟨0, Nat.zero_le _, rfl, hbq⟩
                    case round =>
                      obtain ⟨j, hj, rfl, hbx⟩ := hrel
                      have cc : ∀ {b i : Nat} {v : Value}, w2.cell? ⟨b, i, none⟩ = some v → wr.cell? ⟨b, i, none⟩ = some v := fun {b i v} hv => by
                        rw [hbx.cell (p := ⟨b, i, none⟩) (cell_lt hv)]; exact hv
                      by_cases hjl : j < LL.length
                      · obtain ⟨bT, t, bL, rfl, rfl, e1, e2, e3⟩ := unhide HC j hjl
                        replace e1 := cc e1
                        replace e2 := cc e2
                        replace e3 := cc e3
                        have y3 := cc y2'
                        generalize LL.getD j ByteArray.empty = z at e2 e3
                        clear cc
                        have hn17 : ∀ n, Calls Ybaf.prog 17 #[ptr t] (wr.drewN n) (fun e w' => e = .returned (.string z) ∧ w' = wr.drewN n) := fun n => nameOf_any t z _ e2
                        go_wp2
                        go_quiet (first | (go_at_call 17; exact Calls.quiet_of_same (hn17 _)))
                        go_wp2
                        refine ⟨⟨j + 1, by omega, by go_num, below_drewN hbx _⟩, by simp [intOf]; omega⟩
                      · have hje : j = LL.length := by omega
                        clear cc
                        go_wp2
                        refine ⟨⟨k + 1, by omega, by go_num, hbx⟩, by simp [intOf]; omega⟩
                · have hke : k = 4 := by omega
                  subst hke
                  go_wp2
                  go_ret
                  exact ⟨rfl, (unhide HF).1.trans (hbx.mono (by have := (unhide HF).1.size; omega))⟩

end Go.Proofs.YbulkahtqFmt
