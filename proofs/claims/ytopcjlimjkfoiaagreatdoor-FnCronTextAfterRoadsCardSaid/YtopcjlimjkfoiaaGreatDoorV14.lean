/-
FnCronTextAfterRoads: the calendar, the schedules, their texts and the zones, part 14 of 34.
-/
import Derived.Test.YtopcjlimjkfoiaaGreatDoorV13
set_option linter.all false
namespace Go.Proofs.YtopcjlimjkfoiaaGreatDoor
open Go.RowKit
attribute [local go_sem] Ext.cell Ext.frozen Ext.lt Ext.lt_add Ext.cell2 Ext.frozen2

set_option maxRecDepth 1000000 in
set_option maxHeartbeats 9000000 in
theorem item_two (k lo hi : Nat) (hk : k < 6) (hlo : lo < 60) (hhi : hi < 60) (s : ByteArray) (w : World) (hs : s.size < 100000000000) (hne : (pieces 47 (nats s)).length = 2) :
    Calls Tryz.prog 89 #[.agg #[.int .i64 lo, .int .i64 hi, .int .i64 k], .string s] w fun e w' => SetRes (ItemFine k lo hi (nats s)) e ∧ ∃ y : Ext w, w' = y.now := by
  have hp := Lib.hid (fun W => pieces_c s 47 47 rfl (by decide) W hs)
  have hv := Lib.hid (fun (d : ByteArray) (hd : d.size < 100000000000) (W : World) => ends_any k lo hi hk (by omega) (by omega) d W hd)
  have hst := Lib.hid (fun (d : ByteArray) (hd : d.size < 100000000000) (W : World) => step_any d W hd)
  have hw := Lib.hid (fun (a b : Nat) (ha : a < 1000) (hb : b < 1000) (W : World) => worse_any a b ha hb W)
  go_enter Tryz.func89, Tryz.ntmps89
  go_wp2_with (go_at_call 88; (with_reducible refine (hp.out _).mono ?_))
  rw [← zeroSet_lit]
  rintro e w1 ⟨g, cap, ds, rfl, ⟨hds, hlen⟩, hrow, y, rfl⟩
  have hss := fun (d : ByteArray) (hd : d ∈ ds) => pieces_small hds d hd
  have hG4 : BB y.now (w.heap.size + 1) 64 := by
    have := BB.alloc (w := w.alloc (Obj.cells #[Value.int IntKind.i64 lo, Value.int IntKind.i64 hi, Value.int IntKind.i64 k] 129)) zeroSet_bs 37
    have := this.ext y
    simpa using this
  obtain ⟨d0, r, rfl⟩ : ∃ d0 r, ds = d0 :: r := by
    cases ds with
    | nil => exact absurd hds.symm (pieces_ne _ _)
    | cons d0 r => exact ⟨d0, r, rfl⟩
  have c0 := hrow.get 0 (by simp)
  rw [show ((d0 :: r).getD 0 ByteArray.empty) = d0 from rfl] at c0
  have hg := hrow.lt
  have hz := Lib.hid (hv.out d0 (by have := hss d0 (by simp); omega))
  clear hv
  rcases r with _ | ⟨d1, _ | ⟨d2, r⟩⟩
  · rw [← hds] at hne
    cases hne
  · have HD : [nats d0, nats d1] = pieces 47 (nats s) := hds
    have HDS := Lib.hid HD
    have HG4 := Lib.hid hG4
    have c1 := hrow.get 1 (by simp)
    rw [show ([d0, d1].getD 1 ByteArray.empty) = d1 from rfl] at c1
    have hz1 := Lib.hid (hst.out d1 (by have := hss d1 (by simp); omega))
    clear hds hrow hss hlen HD hne hG4 hst
    rw [show [d0, d1].length = 2 from rfl]
    go_wp2
    refine wp_region_plan 15 [(0, false), (1, false), (2, false), (3, false), (4, true), (5, false), (6, false), (7, false), (8, false), (9, false), (10, false), (11, false), (12, false), (13, false), (14, false)] (fun w' => ∃ x : Ext y.now, w' = x.now)
      (by kernel_rfl) (by kernel_rfl) (fun _ _ d _ _ h => by cases d <;> exact h) ⟨Ext.drewn _, rfl⟩ ?_
    iterate 4 (refine plan_read rfl (fun K hK => ?_); go_simp; refine hK _ ?_; clear hK K)
    refine plan_step rfl (fun K hK => ?_); go_simp
    refine (hz.out _).mono ?_; rintro e w1 ⟨⟨a, b, v, star, single, rfl, h1, h2, h3, h4⟩, z, rfl⟩
    have H4 := Lib.hid h4
    clear h4
    refine hK _ _ ⟨(Ext.drewn _).trans z, rfl⟩ ?_; clear hK K
    iterate 10 (refine plan_read rfl (fun K hK => ?_); go_simp; refine hK _ ?_; clear hK K)
    refine plan_nil ?_
    simp only [List.drop_succ_cons, List.drop_zero]
    obtain ⟨z2, hz2⟩ : ∃ q : Ext y.now, z.now = q.now := ⟨(Ext.drewn _).trans z, rfl⟩
    rw [hz2]
    clear hz2 z
    have HGz := Lib.hid (HG4.out.ext z2)
    clear HG4
    go_wp2_with (go_at_call 108; (with_reducible refine (hz1.out _).mono ?_))
    rintro e w1 ⟨⟨n, u, rfl, j1, j2, j3⟩, rfl⟩
    have HS := Lib.hid j3
    clear j3 c1
    have HWW := Lib.hid (hw.out v u (by omega) (by omega))
    have hvv : worseV v u ≤ 2 := by unfold worseV; split <;> omega
    cases single with
    | false =>
      go_wp2_with (go_at_call 26; (with_reducible refine (HWW.out _).mono ?_))
      rintro e w1 ⟨rfl, rfl⟩
      by_cases c1 : worseV v u = 1
      · have c1' : (((worseV v u : Nat) : Int) != 1) = false := by rw [c1]; rfl
        have hvu := worse_fine.1 c1
        have hsf := HS.out hvu.2
        have n0 : 0 < n := hsf.2.1
        have n1 : n < 1099511627776 := hsf.2.2
        have n2 : ((n : Int) == 0) = false := beq_eq_false_iff_ne.2 (by omega)
        have n3 : ¬ (n : Int) = 0 := by omega
        have HSF := Lib.hid hsf
        clear hsf
        by_cases c2 : a < lo
        · have c2' : (a : Int) < (lo : Int) := by omega
          go_wp2_with (with_reducible refine at_store 37 ?_; (refine wpList_store_bools rfl _ _ _ rfl (w.heap.size + 1) 64 _ rfl rfl HGz.out zeroLit_bs (by kernel_rfl) ?_); intro w2 hw2; have K4 := HGz.out.rows _ zeroLit_bs (G := w.heap.size + 1) (fun _ => rfl); rw [← hw2] at K4; obtain ⟨y2, rfl⟩ := ext_two (y.trans z2) hw2; clear hw2)
          go_wp2
          exact ret_bools2 rfl (w.heap.size + 1) 64 rfl K4 (by kernel_rfl) (by kernel_rfl) rfl (fun C hC => ⟨⟨C, 0, rfl, hC, by decide, fun h => absurd h (by decide)⟩, y2, rfl⟩)
        · have c2' : ¬ (a : Int) < (lo : Int) := by omega
          by_cases c3 : hi < b
          · have c3' : (hi : Int) < (b : Int) := by omega
            go_wp2_with (with_reducible refine at_store 37 ?_; (refine wpList_store_bools rfl _ _ _ rfl (w.heap.size + 1) 64 _ rfl rfl HGz.out zeroLit_bs (by kernel_rfl) ?_); intro w2 hw2; have K4 := HGz.out.rows _ zeroLit_bs (G := w.heap.size + 1) (fun _ => rfl); rw [← hw2] at K4; obtain ⟨y2, rfl⟩ := ext_two (y.trans z2) hw2; clear hw2)
            go_wp2
            exact ret_bools2 rfl (w.heap.size + 1) 64 rfl K4 (by kernel_rfl) (by kernel_rfl) rfl (fun C hC => ⟨⟨C, 0, rfl, hC, by decide, fun h => absurd h (by decide)⟩, y2, rfl⟩)
          · have c3' : ¬ (hi : Int) < (b : Int) := by omega
            by_cases c4 : b < a
            · have c4' : (b : Int) < (a : Int) := by omega
              go_wp2_with (with_reducible refine at_store 37 ?_; (refine wpList_store_bools rfl _ _ _ rfl (w.heap.size + 1) 64 _ rfl rfl HGz.out zeroLit_bs (by kernel_rfl) ?_); intro w2 hw2; have K4 := HGz.out.rows _ zeroLit_bs (G := w.heap.size + 1) (fun _ => rfl); rw [← hw2] at K4; obtain ⟨y2, rfl⟩ := ext_two (y.trans z2) hw2; clear hw2)
              go_wp2
              exact ret_bools2 rfl (w.heap.size + 1) 64 rfl K4 (by kernel_rfl) (by kernel_rfl) rfl (fun C hC => ⟨⟨C, 0, rfl, hC, by decide, fun h => absurd h (by decide)⟩, y2, rfl⟩)
            · have c4' : ¬ (b : Int) < (a : Int) := by omega
              have hFI : ItemFine k lo hi (nats s) := ⟨a, b, star, false, .inr ⟨nats d0, nats d1, n, HDS.out.symm, H4.out hvu.1, HSF.out, by omega, by unfold endOf; simp <;> omega, by unfold endOf; simp <;> omega⟩⟩
              have HFI := Lib.hid hFI
              clear hFI
              go_wp2_with fail
              rw [← zeroSet_lit]
              have hN := BB.alloc (w := z2.now) zeroSet_bs 37
              have hO := HGz.out.grow (.cells zeroSet 37)
              obtain ⟨x0, hx0⟩ : ∃ q : Ext w, z2.now.alloc (.cells zeroSet 37) = q.now := ⟨((((Ext.one w _).trans (Ext.one _ _)).trans y).trans z2).trans (Ext.one _ _), rfl⟩
              have hle0 : w.heap.size ≤ z2.now.heap.size := ((((Ext.one w _).trans (Ext.one _ _)).trans y).trans z2).le
              have hle4 : w.heap.size ≤ w.heap.size + 1 := Nat.le_succ _
              have hHS := Lib.hid (show ∀ (x : Ext w) G o v, w.heap.size ≤ G → ∃ y : Ext w, x.now.setCell ⟨G, o, none⟩ v = y.now from fun x G o v hG => Ext.of (x.below.setCell (p := ⟨G, o, none⟩) hG v))
              have hHR := Lib.hid (show ∀ (x : Ext w) G o vs, w.heap.size ≤ G → ∃ y : Ext w, x.now.setCells G o vs = y.now from fun x G o vs hG => Ext.rows G hG vs o x)
              rw [hx0] at hN hO ⊢
              clear hx0 HGz c0 hg HDS
              generalize z2.now.heap.size = G at *
              generalize w.heap.size + 1 = G4 at *
              clear z2
              go_loopw [16] (fun t16 wr => ∃ i : Nat, t16 = .int .i64 i ∧ a ≤ i ∧ i ≤ b + 1 ∧ BB wr G4 64 ∧ BB wr G 64 ∧ ∃ x : Ext w, wr = x.now) (fun t _ => b + 1 - (intOf t).toNat)
              case atStart => exact ⟨a, rfl, Nat.le_refl _, by omega, hO, hN, x0, rfl⟩
              case round =>
                obtain ⟨i, rfl, hai, hi2, hO2, hN2, x, rfl⟩ := hrel
                clear hO hN
                by_cases hlt : i ≤ b
                · have hlt' : (i : Int) ≤ (b : Int) := by omega
                  obtain ⟨c, hc⟩ := hN2.at_ (1 + i) (by omega)
                  have hf := hN2.fz (1 + i) (by omega)
                  have hbl := hN2.lt
                  have HO := Lib.hid hO2
                  have HN := Lib.hid hN2
                  clear hO2 hN2
                  have i1 : (0 : Int) ≤ (i : Int) - (a : Int) := by omega
                  have i2 : (i : Int) - (a : Int) < 100 := by omega
                  have i3 : (i : Int) < 62 := by omega
                  go_wp2
                  refine ⟨⟨i + 1, by simp, by omega, by omega, HO.out.set _ _ _, HN.out.set _ _ _, hHS.out _ _ _ _ hle0⟩, by simp [intOf]; omega⟩
                · have hlt' : ¬ (i : Int) ≤ (b : Int) := by omega
                  obtain ⟨c, hc⟩ := hN2.at_ 0 (by omega)
                  have hf := hN2.fz 0 (by omega)
                  have hbl := hN2.lt
                  have HO := Lib.hid hO2
                  have HN := Lib.hid hN2
                  clear hO2 hN2
                  cases star
                  · go_wp2_with (first | (with_reducible refine at_load 37 ?_; (refine wpList_load_bools rfl _ _ rfl G 0 64 64 rfl (HN.out.set _ _ _) (by decide) (by kernel_rfl) (by kernel_rfl) ?_)))
                    intro cs2 hcs2
                    obtain ⟨y3, hy3⟩ := hHS.out x G 0 (.bool false) hle0
                    have K4 := HO.out.set G 0 false
                    rw [hy3] at K4 ⊢
                    clear hy3
                    refine wpList_store_bools rfl _ _ _ rfl G4 64 cs2 rfl rfl K4 hcs2 (by kernel_rfl) ?_
                    rintro _ rfl
                    replace K4 := K4.rows cs2 hcs2 (G := G4) (fun _ => rfl)
                    obtain ⟨z4, hz4⟩ := hHR.out y3 G4 0 cs2.toList hle4
                    rw [hz4] at K4 ⊢
                    clear hz4
                    go_wp2
                    exact ret_bools2 rfl G4 64 rfl K4 (by kernel_rfl) (by kernel_rfl) rfl (fun C hC => ⟨⟨C, 1, rfl, hC, by decide, fun _ => HFI.out⟩, z4, rfl⟩)
                  · by_cases e1 : n = 1
                    · have s1 : ((n : Int) == 1) = true := beq_iff_eq.2 (by omega)
                      go_wp2_with (first | (with_reducible refine at_load 37 ?_; (refine wpList_load_bools rfl _ _ rfl G 0 64 64 rfl (HN.out.set _ _ _) (by decide) (by kernel_rfl) (by kernel_rfl) ?_)))
                      intro cs2 hcs2
                      obtain ⟨y3, hy3⟩ := hHS.out x G 0 (.bool true) hle0
                      have K4 := HO.out.set G 0 true
                      rw [hy3] at K4 ⊢
                      clear hy3
                      refine wpList_store_bools rfl _ _ _ rfl G4 64 cs2 rfl rfl K4 hcs2 (by kernel_rfl) ?_
                      rintro _ rfl
                      replace K4 := K4.rows cs2 hcs2 (G := G4) (fun _ => rfl)
                      obtain ⟨z4, hz4⟩ := hHR.out y3 G4 0 cs2.toList hle4
                      rw [hz4] at K4 ⊢
                      clear hz4
                      go_wp2
                      exact ret_bools2 rfl G4 64 rfl K4 (by kernel_rfl) (by kernel_rfl) rfl (fun C hC => ⟨⟨C, 1, rfl, hC, by decide, fun _ => HFI.out⟩, z4, rfl⟩)
                    · have s1 : ((n : Int) == 1) = false := beq_eq_false_iff_ne.2 (by omega)
                      go_wp2_with (first | (with_reducible refine at_load 37 ?_; (refine wpList_load_bools rfl _ _ rfl G 0 64 64 rfl (HN.out.set _ _ _) (by decide) (by kernel_rfl) (by kernel_rfl) ?_)))
                      intro cs2 hcs2
                      obtain ⟨y3, hy3⟩ := hHS.out x G 0 (.bool false) hle0
                      have K4 := HO.out.set G 0 false
                      rw [hy3] at K4 ⊢
                      clear hy3
                      refine wpList_store_bools rfl _ _ _ rfl G4 64 cs2 rfl rfl K4 hcs2 (by kernel_rfl) ?_
                      rintro _ rfl
                      replace K4 := K4.rows cs2 hcs2 (G := G4) (fun _ => rfl)
                      obtain ⟨z4, hz4⟩ := hHR.out y3 G4 0 cs2.toList hle4
                      rw [hz4] at K4 ⊢
                      clear hz4
                      go_wp2
                      exact ret_bools2 rfl G4 64 rfl K4 (by kernel_rfl) (by kernel_rfl) rfl (fun C hC => ⟨⟨C, 1, rfl, hC, by decide, fun _ => HFI.out⟩, z4, rfl⟩)
      · have c1' : (((worseV v u : Nat) : Int) != 1) = true := bne_iff_ne.2 (by omega)
        go_wp2_with (with_reducible refine at_store 37 ?_; (refine wpList_store_bools rfl _ _ _ rfl (w.heap.size + 1) 64 _ rfl rfl HGz.out zeroLit_bs (by kernel_rfl) ?_); intro w2 hw2; have K4 := HGz.out.rows _ zeroLit_bs (G := w.heap.size + 1) (fun _ => rfl); rw [← hw2] at K4; obtain ⟨y2, rfl⟩ := ext_two (y.trans z2) hw2; clear hw2)
        go_wp2
        exact ret_bools2 rfl (w.heap.size + 1) 64 rfl K4 (by kernel_rfl) (by kernel_rfl) rfl (fun C hC => ⟨⟨C, worseV v u, rfl, hC, by first | exact h3 | exact hvv, fun h => absurd h c1⟩, y2, rfl⟩)
    | true =>
      cases star with
      | false =>
        go_wp2_with (go_at_call 26; (with_reducible refine (HWW.out _).mono ?_))
        rintro e w1 ⟨rfl, rfl⟩
        by_cases c1 : worseV v u = 1
        · have c1' : (((worseV v u : Nat) : Int) != 1) = false := by rw [c1]; rfl
          have hvu := worse_fine.1 c1
          have hsf := HS.out hvu.2
          have n0 : 0 < n := hsf.2.1
          have n1 : n < 1099511627776 := hsf.2.2
          have n2 : ((n : Int) == 0) = false := beq_eq_false_iff_ne.2 (by omega)
          have n3 : ¬ (n : Int) = 0 := by omega
          have HSF := Lib.hid hsf
          clear hsf
          by_cases c2 : a < lo
          · have c2' : (a : Int) < (lo : Int) := by omega
            go_wp2_with (with_reducible refine at_store 37 ?_; (refine wpList_store_bools rfl _ _ _ rfl (w.heap.size + 1) 64 _ rfl rfl HGz.out zeroLit_bs (by kernel_rfl) ?_); intro w2 hw2; have K4 := HGz.out.rows _ zeroLit_bs (G := w.heap.size + 1) (fun _ => rfl); rw [← hw2] at K4; obtain ⟨y2, rfl⟩ := ext_two (y.trans z2) hw2; clear hw2)
            go_wp2
            exact ret_bools2 rfl (w.heap.size + 1) 64 rfl K4 (by kernel_rfl) (by kernel_rfl) rfl (fun C hC => ⟨⟨C, 0, rfl, hC, by decide, fun h => absurd h (by decide)⟩, y2, rfl⟩)
          · have c2' : ¬ (a : Int) < (lo : Int) := by omega
            have c3' : ¬ (hi : Int) < (hi : Int) := by omega
            by_cases c4 : hi < a
            · have c4' : (hi : Int) < (a : Int) := by omega
              go_wp2_with (with_reducible refine at_store 37 ?_; (refine wpList_store_bools rfl _ _ _ rfl (w.heap.size + 1) 64 _ rfl rfl HGz.out zeroLit_bs (by kernel_rfl) ?_); intro w2 hw2; have K4 := HGz.out.rows _ zeroLit_bs (G := w.heap.size + 1) (fun _ => rfl); rw [← hw2] at K4; obtain ⟨y2, rfl⟩ := ext_two (y.trans z2) hw2; clear hw2)
              go_wp2
              exact ret_bools2 rfl (w.heap.size + 1) 64 rfl K4 (by kernel_rfl) (by kernel_rfl) rfl (fun C hC => ⟨⟨C, 0, rfl, hC, by decide, fun h => absurd h (by decide)⟩, y2, rfl⟩)
            · have c4' : ¬ (hi : Int) < (a : Int) := by omega
              have hFI : ItemFine k lo hi (nats s) := ⟨a, b, false, true, .inr ⟨nats d0, nats d1, n, HDS.out.symm, H4.out hvu.1, HSF.out, by omega, by unfold endOf; simp <;> omega, by unfold endOf; simp <;> omega⟩⟩
              have HFI := Lib.hid hFI
              clear hFI
              go_wp2_with fail
              rw [← zeroSet_lit]
              have hN := BB.alloc (w := z2.now) zeroSet_bs 37
              have hO := HGz.out.grow (.cells zeroSet 37)
              obtain ⟨x0, hx0⟩ : ∃ q : Ext w, z2.now.alloc (.cells zeroSet 37) = q.now := ⟨((((Ext.one w _).trans (Ext.one _ _)).trans y).trans z2).trans (Ext.one _ _), rfl⟩
              have hle0 : w.heap.size ≤ z2.now.heap.size := ((((Ext.one w _).trans (Ext.one _ _)).trans y).trans z2).le
              have hle4 : w.heap.size ≤ w.heap.size + 1 := Nat.le_succ _
              have hHS := Lib.hid (show ∀ (x : Ext w) G o v, w.heap.size ≤ G → ∃ y : Ext w, x.now.setCell ⟨G, o, none⟩ v = y.now from fun x G o v hG => Ext.of (x.below.setCell (p := ⟨G, o, none⟩) hG v))
              have hHR := Lib.hid (show ∀ (x : Ext w) G o vs, w.heap.size ≤ G → ∃ y : Ext w, x.now.setCells G o vs = y.now from fun x G o vs hG => Ext.rows G hG vs o x)
              rw [hx0] at hN hO ⊢
              clear hx0 HGz c0 hg HDS
              generalize z2.now.heap.size = G at *
              generalize w.heap.size + 1 = G4 at *
              clear z2
              go_loopw [16] (fun t16 wr => ∃ i : Nat, t16 = .int .i64 i ∧ a ≤ i ∧ i ≤ hi + 1 ∧ BB wr G4 64 ∧ BB wr G 64 ∧ ∃ x : Ext w, wr = x.now) (fun t _ => hi + 1 - (intOf t).toNat)
              case atStart => exact ⟨a, rfl, Nat.le_refl _, by omega, hO, hN, x0, rfl⟩
              case round =>
                obtain ⟨i, rfl, hai, hi2, hO2, hN2, x, rfl⟩ := hrel
                clear hO hN
                by_cases hlt : i ≤ hi
                · have hlt' : (i : Int) ≤ (hi : Int) := by omega
                  obtain ⟨c, hc⟩ := hN2.at_ (1 + i) (by omega)
                  have hf := hN2.fz (1 + i) (by omega)
                  have hbl := hN2.lt
                  have HO := Lib.hid hO2
                  have HN := Lib.hid hN2
                  clear hO2 hN2
                  have i1 : (0 : Int) ≤ (i : Int) - (a : Int) := by omega
                  have i2 : (i : Int) - (a : Int) < 100 := by omega
                  have i3 : (i : Int) < 62 := by omega
                  go_wp2
                  refine ⟨⟨i + 1, by simp, by omega, by omega, HO.out.set _ _ _, HN.out.set _ _ _, hHS.out _ _ _ _ hle0⟩, by simp [intOf]; omega⟩
                · have hlt' : ¬ (i : Int) ≤ (hi : Int) := by omega
                  obtain ⟨c, hc⟩ := hN2.at_ 0 (by omega)
                  have hf := hN2.fz 0 (by omega)
                  have hbl := hN2.lt
                  have HO := Lib.hid hO2
                  have HN := Lib.hid hN2
                  clear hO2 hN2
                  go_wp2_with (first | (with_reducible refine at_load 37 ?_; (refine wpList_load_bools rfl _ _ rfl G 0 64 64 rfl (HN.out.set _ _ _) (by decide) (by kernel_rfl) (by kernel_rfl) ?_)))
                  intro cs2 hcs2
                  obtain ⟨y3, hy3⟩ := hHS.out x G 0 (.bool false) hle0
                  have K4 := HO.out.set G 0 false
                  rw [hy3] at K4 ⊢
                  clear hy3
                  refine wpList_store_bools rfl _ _ _ rfl G4 64 cs2 rfl rfl K4 hcs2 (by kernel_rfl) ?_
                  rintro _ rfl
                  replace K4 := K4.rows cs2 hcs2 (G := G4) (fun _ => rfl)
                  obtain ⟨z4, hz4⟩ := hHR.out y3 G4 0 cs2.toList hle4
                  rw [hz4] at K4 ⊢
                  clear hz4
                  go_wp2
                  exact ret_bools2 rfl G4 64 rfl K4 (by kernel_rfl) (by kernel_rfl) rfl (fun C hC => ⟨⟨C, 1, rfl, hC, by decide, fun _ => HFI.out⟩, z4, rfl⟩)
        · have c1' : (((worseV v u : Nat) : Int) != 1) = true := bne_iff_ne.2 (by omega)
          go_wp2_with (with_reducible refine at_store 37 ?_; (refine wpList_store_bools rfl _ _ _ rfl (w.heap.size + 1) 64 _ rfl rfl HGz.out zeroLit_bs (by kernel_rfl) ?_); intro w2 hw2; have K4 := HGz.out.rows _ zeroLit_bs (G := w.heap.size + 1) (fun _ => rfl); rw [← hw2] at K4; obtain ⟨y2, rfl⟩ := ext_two (y.trans z2) hw2; clear hw2)
          go_wp2
          exact ret_bools2 rfl (w.heap.size + 1) 64 rfl K4 (by kernel_rfl) (by kernel_rfl) rfl (fun C hC => ⟨⟨C, worseV v u, rfl, hC, by first | exact h3 | exact hvv, fun h => absurd h c1⟩, y2, rfl⟩)
      | true =>
        go_wp2_with (go_at_call 26; (with_reducible refine (HWW.out _).mono ?_))
        rintro e w1 ⟨rfl, rfl⟩
        by_cases c1 : worseV v u = 1
        · have c1' : (((worseV v u : Nat) : Int) != 1) = false := by rw [c1]; rfl
          have hvu := worse_fine.1 c1
          have hsf := HS.out hvu.2
          have n0 : 0 < n := hsf.2.1
          have n1 : n < 1099511627776 := hsf.2.2
          have n2 : ((n : Int) == 0) = false := beq_eq_false_iff_ne.2 (by omega)
          have n3 : ¬ (n : Int) = 0 := by omega
          have HSF := Lib.hid hsf
          clear hsf
          by_cases c2 : a < lo
          · have c2' : (a : Int) < (lo : Int) := by omega
            go_wp2_with (with_reducible refine at_store 37 ?_; (refine wpList_store_bools rfl _ _ _ rfl (w.heap.size + 1) 64 _ rfl rfl HGz.out zeroLit_bs (by kernel_rfl) ?_); intro w2 hw2; have K4 := HGz.out.rows _ zeroLit_bs (G := w.heap.size + 1) (fun _ => rfl); rw [← hw2] at K4; obtain ⟨y2, rfl⟩ := ext_two (y.trans z2) hw2; clear hw2)
            go_wp2
            exact ret_bools2 rfl (w.heap.size + 1) 64 rfl K4 (by kernel_rfl) (by kernel_rfl) rfl (fun C hC => ⟨⟨C, 0, rfl, hC, by decide, fun h => absurd h (by decide)⟩, y2, rfl⟩)
          · have c2' : ¬ (a : Int) < (lo : Int) := by omega
            by_cases c3 : hi < b
            · have c3' : (hi : Int) < (b : Int) := by omega
              go_wp2_with (with_reducible refine at_store 37 ?_; (refine wpList_store_bools rfl _ _ _ rfl (w.heap.size + 1) 64 _ rfl rfl HGz.out zeroLit_bs (by kernel_rfl) ?_); intro w2 hw2; have K4 := HGz.out.rows _ zeroLit_bs (G := w.heap.size + 1) (fun _ => rfl); rw [← hw2] at K4; obtain ⟨y2, rfl⟩ := ext_two (y.trans z2) hw2; clear hw2)
              go_wp2
              exact ret_bools2 rfl (w.heap.size + 1) 64 rfl K4 (by kernel_rfl) (by kernel_rfl) rfl (fun C hC => ⟨⟨C, 0, rfl, hC, by decide, fun h => absurd h (by decide)⟩, y2, rfl⟩)
            · have c3' : ¬ (hi : Int) < (b : Int) := by omega
              by_cases c4 : b < a
              · have c4' : (b : Int) < (a : Int) := by omega
                go_wp2_with (with_reducible refine at_store 37 ?_; (refine wpList_store_bools rfl _ _ _ rfl (w.heap.size + 1) 64 _ rfl rfl HGz.out zeroLit_bs (by kernel_rfl) ?_); intro w2 hw2; have K4 := HGz.out.rows _ zeroLit_bs (G := w.heap.size + 1) (fun _ => rfl); rw [← hw2] at K4; obtain ⟨y2, rfl⟩ := ext_two (y.trans z2) hw2; clear hw2)
                go_wp2
                exact ret_bools2 rfl (w.heap.size + 1) 64 rfl K4 (by kernel_rfl) (by kernel_rfl) rfl (fun C hC => ⟨⟨C, 0, rfl, hC, by decide, fun h => absurd h (by decide)⟩, y2, rfl⟩)
              · have c4' : ¬ (b : Int) < (a : Int) := by omega
                have hFI : ItemFine k lo hi (nats s) := ⟨a, b, true, true, .inr ⟨nats d0, nats d1, n, HDS.out.symm, H4.out hvu.1, HSF.out, by omega, by unfold endOf; simp <;> omega, by unfold endOf; simp <;> omega⟩⟩
                have HFI := Lib.hid hFI
                clear hFI
                go_wp2_with fail
                rw [← zeroSet_lit]
                have hN := BB.alloc (w := z2.now) zeroSet_bs 37
                have hO := HGz.out.grow (.cells zeroSet 37)
                obtain ⟨x0, hx0⟩ : ∃ q : Ext w, z2.now.alloc (.cells zeroSet 37) = q.now := ⟨((((Ext.one w _).trans (Ext.one _ _)).trans y).trans z2).trans (Ext.one _ _), rfl⟩
                have hle0 : w.heap.size ≤ z2.now.heap.size := ((((Ext.one w _).trans (Ext.one _ _)).trans y).trans z2).le
                have hle4 : w.heap.size ≤ w.heap.size + 1 := Nat.le_succ _
                have hHS := Lib.hid (show ∀ (x : Ext w) G o v, w.heap.size ≤ G → ∃ y : Ext w, x.now.setCell ⟨G, o, none⟩ v = y.now from fun x G o v hG => Ext.of (x.below.setCell (p := ⟨G, o, none⟩) hG v))
                have hHR := Lib.hid (show ∀ (x : Ext w) G o vs, w.heap.size ≤ G → ∃ y : Ext w, x.now.setCells G o vs = y.now from fun x G o vs hG => Ext.rows G hG vs o x)
                rw [hx0] at hN hO ⊢
                clear hx0 HGz c0 hg HDS
                generalize z2.now.heap.size = G at *
                generalize w.heap.size + 1 = G4 at *
                clear z2
                go_loopw [16] (fun t16 wr => ∃ i : Nat, t16 = .int .i64 i ∧ a ≤ i ∧ i ≤ b + 1 ∧ BB wr G4 64 ∧ BB wr G 64 ∧ ∃ x : Ext w, wr = x.now) (fun t _ => b + 1 - (intOf t).toNat)
                case atStart => exact ⟨a, rfl, Nat.le_refl _, by omega, hO, hN, x0, rfl⟩
                case round =>
                  obtain ⟨i, rfl, hai, hi2, hO2, hN2, x, rfl⟩ := hrel
                  clear hO hN
                  by_cases hlt : i ≤ b
                  · have hlt' : (i : Int) ≤ (b : Int) := by omega
                    obtain ⟨c, hc⟩ := hN2.at_ (1 + i) (by omega)
                    have hf := hN2.fz (1 + i) (by omega)
                    have hbl := hN2.lt
                    have HO := Lib.hid hO2
                    have HN := Lib.hid hN2
                    clear hO2 hN2
                    have i1 : (0 : Int) ≤ (i : Int) - (a : Int) := by omega
                    have i2 : (i : Int) - (a : Int) < 100 := by omega
                    have i3 : (i : Int) < 62 := by omega
                    go_wp2
                    refine ⟨⟨i + 1, by simp, by omega, by omega, HO.out.set _ _ _, HN.out.set _ _ _, hHS.out _ _ _ _ hle0⟩, by simp [intOf]; omega⟩
                  · have hlt' : ¬ (i : Int) ≤ (b : Int) := by omega
                    obtain ⟨c, hc⟩ := hN2.at_ 0 (by omega)
                    have hf := hN2.fz 0 (by omega)
                    have hbl := hN2.lt
                    have HO := Lib.hid hO2
                    have HN := Lib.hid hN2
                    clear hO2 hN2
                    by_cases e1 : n = 1
                    · have s1 : ((n : Int) == 1) = true := beq_iff_eq.2 (by omega)
                      go_wp2_with (first | (with_reducible refine at_load 37 ?_; (refine wpList_load_bools rfl _ _ rfl G 0 64 64 rfl (HN.out.set _ _ _) (by decide) (by kernel_rfl) (by kernel_rfl) ?_)))
                      intro cs2 hcs2
                      obtain ⟨y3, hy3⟩ := hHS.out x G 0 (.bool true) hle0
                      have K4 := HO.out.set G 0 true
                      rw [hy3] at K4 ⊢
                      clear hy3
                      refine wpList_store_bools rfl _ _ _ rfl G4 64 cs2 rfl rfl K4 hcs2 (by kernel_rfl) ?_
                      rintro _ rfl
                      replace K4 := K4.rows cs2 hcs2 (G := G4) (fun _ => rfl)
                      obtain ⟨z4, hz4⟩ := hHR.out y3 G4 0 cs2.toList hle4
                      rw [hz4] at K4 ⊢
                      clear hz4
                      go_wp2
                      exact ret_bools2 rfl G4 64 rfl K4 (by kernel_rfl) (by kernel_rfl) rfl (fun C hC => ⟨⟨C, 1, rfl, hC, by decide, fun _ => HFI.out⟩, z4, rfl⟩)
                    · have s1 : ((n : Int) == 1) = false := beq_eq_false_iff_ne.2 (by omega)
                      go_wp2_with (first | (with_reducible refine at_load 37 ?_; (refine wpList_load_bools rfl _ _ rfl G 0 64 64 rfl (HN.out.set _ _ _) (by decide) (by kernel_rfl) (by kernel_rfl) ?_)))
                      intro cs2 hcs2
                      obtain ⟨y3, hy3⟩ := hHS.out x G 0 (.bool false) hle0
                      have K4 := HO.out.set G 0 false
                      rw [hy3] at K4 ⊢
                      clear hy3
                      refine wpList_store_bools rfl _ _ _ rfl G4 64 cs2 rfl rfl K4 hcs2 (by kernel_rfl) ?_
                      rintro _ rfl
                      replace K4 := K4.rows cs2 hcs2 (G := G4) (fun _ => rfl)
                      obtain ⟨z4, hz4⟩ := hHR.out y3 G4 0 cs2.toList hle4
                      rw [hz4] at K4 ⊢
                      clear hz4
                      go_wp2
                      exact ret_bools2 rfl G4 64 rfl K4 (by kernel_rfl) (by kernel_rfl) rfl (fun C hC => ⟨⟨C, 1, rfl, hC, by decide, fun _ => HFI.out⟩, z4, rfl⟩)
        · have c1' : (((worseV v u : Nat) : Int) != 1) = true := bne_iff_ne.2 (by omega)
          go_wp2_with (with_reducible refine at_store 37 ?_; (refine wpList_store_bools rfl _ _ _ rfl (w.heap.size + 1) 64 _ rfl rfl HGz.out zeroLit_bs (by kernel_rfl) ?_); intro w2 hw2; have K4 := HGz.out.rows _ zeroLit_bs (G := w.heap.size + 1) (fun _ => rfl); rw [← hw2] at K4; obtain ⟨y2, rfl⟩ := ext_two (y.trans z2) hw2; clear hw2)
          go_wp2
          exact ret_bools2 rfl (w.heap.size + 1) 64 rfl K4 (by kernel_rfl) (by kernel_rfl) rfl (fun C hC => ⟨⟨C, worseV v u, rfl, hC, by first | exact h3 | exact hvv, fun h => absurd h c1⟩, y2, rfl⟩)
  · rw [← hds] at hne
    cases hne

theorem item_any (k lo hi : Nat) (hk : k < 6) (hlo : lo < 60) (hhi : hi < 60) (s : ByteArray) (w : World) (hs : s.size < 100000000000) :
    Calls Tryz.prog 89 #[.agg #[.int .i64 lo, .int .i64 hi, .int .i64 k], .string s] w fun e w' => SetRes (ItemFine k lo hi (nats s)) e ∧ ∃ y : Ext w, w' = y.now := by
  by_cases h : (pieces 47 (nats s)).length = 2
  · exact item_two k lo hi hk hlo hhi s w hs h
  · exact item_one k lo hi hk hlo hhi s w hs h

end Go.Proofs.YtopcjlimjkfoiaaGreatDoor
