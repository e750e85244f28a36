/-
FnCronTextAfterRoads: the calendar, the schedules, their texts and the zones, part 6 of 34.
-/
import Derived.Test.YtopcjlimjkfoiaaGreatDoorV05
set_option linter.all false
namespace Go.Proofs.YtopcjlimjkfoiaaGreatDoor
open Go.RowKit Go.Cal
attribute [local go_sem] Ext.cell Ext.frozen Ext.lt Ext.lt_add Ext.cell2 Ext.frozen2
attribute [local irreducible] wpQuiet

set_option maxRecDepth 1000000 in
set_option maxHeartbeats 4000000 in
theorem mo_yes {w : World} {S lo lc N : Nat} {f : Nat → Nat} {p q : Option Addr} {z zo : Zn} {yl t : Int} {a : Act} {w1 : World} (hB : NBk w N S lo lc f p q z zo) (hW : NW w N t p w1) (b0 : -3000000000000000 ≤ t) (b1 : t ≤ 30000000000000) {ad : Bool} (hm : (f 4).testBit (mo z t) = true) (Q : Exit → Act → World → Prop)
    (hgo : ∀ a w2, NFr S N lo lc ad yl a → NW w N t p w2 → Q (.exit 0) a w2) (hfr : NFr S N lo lc ad yl a) : (nxBody 0).wp Tryz.prog Q a w1 := by
  have hB1 := hW.base hB
  have hbnd := (nums hB1.hz t b0 b1).m1
  have HM := Lib.hid (fun (x : Ext w1) => calls_ext (x := x) (monthM_any (hB1.tp.ext x) hB1.hz 0 t (by decide) (by decide) b0 b1))
  have hbit := Lib.hid (bit_zero (mo z t) (f 4) (by omega) (hB1.sc.bd 4 (by decide)))
  rw [hm] at hbit
  have sk := hB1.sc.c4
  have sl := hB1.sc.lt
  generalize mo z t = m at HM hbit
  have c0 := hW.c0; have c1 := hW.c1; have c2 := hW.c2
  have f0 := hW.f0; have f1 := hW.f1; have f2 := hW.f2
  have wl := hW.lt
  have wl0 : N < w1.heap.size := by omega
  have HW := Lib.hid hW
  have hG := Lib.hid hgo
  clear hgo hm hB1 hB b0 b1 hW hbnd
  cases hfr
  conv => arg 2; whnf
  go_wp2
  refine wp_region_ext (by kernel_rfl) (by kernel_rfl) ?_
  iterate 3 (quiet_step ((go_at_call 164; with_reducible exact HM.out _)))
  refine quiet_shl _ _ _ _ _ rfl (by rfl) rfl rfl ?_
  repeat (quiet_step (fail))
  refine wpQuiet_nil ?_
  rintro w2 ⟨x, rfl⟩
  rw [hbit.out]
  go_wp2
  refine hG.out _ _ ?_ (HW.out.ext x)
  constructor

set_option maxRecDepth 1000000 in
set_option maxHeartbeats 4000000 in
theorem mo_no1 {w : World} {S lo lc N : Nat} {f : Nat → Nat} {p q : Option Addr} {z zo : Zn} {yl t t2 : Int} {a : Act} {w1 : World} (hB : NBk w N S lo lc f p q z zo) (hW : NW w N t p w1) (b0 : -3000000000000000 ≤ t) (b1 : t ≤ 30000000000000) (e0 : -3000000000000000 ≤ t2) (e1 : t2 ≤ 30000000000000) (hm : (f 4).testBit (mo z t) = false)
    (hA : ∀ W : World, Tpl W p z → Calls Tryz.prog 166 #[tv 0 (t + 62135596800) p, .int .i64 0, .int .i64 1, .int .i64 0] W fun e w' => e = .returned (tv 0 (t2 + 62135596800) p) ∧ ∃ y : Ext W, w' = y.now) (Q : Exit → Act → World → Prop)
    (hgo : ∀ a w2, NFr S N lo lc true yl a → NW w N t2 p w2 → Q (if mo z t2 = 1 then .goto 0 else .normal) a w2) (hfr : NFr S N lo lc true yl a) : (nxBody 0).wp Tryz.prog Q a w1 := by
  have hB1 := hW.base hB
  have hbnd := (nums hB1.hz t b0 b1).m1
  have HM := Lib.hid (fun (x : Ext w1) => calls_ext (x := x) (monthM_any (hB1.tp.ext x) hB1.hz 0 t (by decide) (by decide) b0 b1))
  have hbit := Lib.hid (bit_zero (mo z t) (f 4) (by omega) (hB1.sc.bd 4 (by decide)))
  rw [hm] at hbit
  have sk := hB1.sc.c4
  have sl := hB1.sc.lt
  generalize mo z t = m at HM hbit
  have c0 := hW.c0; have c1 := hW.c1; have c2 := hW.c2
  have f0 := hW.f0; have f1 := hW.f1; have f2 := hW.f2
  have wl := hW.lt
  have wl0 : N < w1.heap.size := by omega
  have HW := Lib.hid hW
  have HA := Lib.hid (fun (x : Ext w1) => calls_ext (x := x) (hA x.now (hB1.tp.ext x)))
  have HE := Lib.hid (fun (W : World) (h : NW w N t2 p W) => monthM_any (h.base hB).tp hB1.hz 0 t2 (by decide) (by decide) e0 e1)
  generalize mo z t2 = k at *
  have hG := Lib.hid hgo
  clear hgo hm hB1 hB b0 b1 e0 e1 hW hA hbnd
  cases hfr
  conv => arg 2; whnf
  go_wp2
  refine wp_region_ext (by kernel_rfl) (by kernel_rfl) ?_
  iterate 3 (quiet_step ((go_at_call 164; with_reducible exact HM.out _)))
  refine quiet_shl _ _ _ _ _ rfl (by rfl) rfl rfl ?_
  repeat (quiet_step (fail))
  refine wpQuiet_nil ?_
  rintro w2 ⟨x, rfl⟩
  rw [hbit.out]
  by_cases hk : k = 1
  · rw [if_pos hk] at hG
    subst hk
    go_wp2_with (first
      | (go_at_call 166; (with_reducible refine (HA.out _).mono ?_); rintro e w2 ⟨rfl, x2, rfl⟩)
      | (go_at_call 164; (with_reducible refine (HE.out _ ((HW.out.ext x2).put t2)).mono ?_); rintro e w2 ⟨rfl, x3, rfl⟩))
    refine wp_goto ?_
    show Q (.goto 0) _ _
    refine hG.out _ _ ?_ (((HW.out.ext x2).put t2).ext x3)
    constructor
  · rw [if_neg hk] at hG
    have hk2 : ¬ (k : Int) = 1 := by omega
    go_wp2_with (first
      | (go_at_call 166; (with_reducible refine (HA.out _).mono ?_); rintro e w2 ⟨rfl, x2, rfl⟩)
      | (go_at_call 164; (with_reducible refine (HE.out _ ((HW.out.ext x2).put t2)).mono ?_); rintro e w2 ⟨rfl, x3, rfl⟩))
    refine hG.out _ _ ?_ (((HW.out.ext x2).put t2).ext x3)
    constructor

set_option maxRecDepth 1000000 in
set_option maxHeartbeats 4000000 in
theorem mo_no0 {w : World} {S lo lc N : Nat} {f : Nat → Nat} {p q : Option Addr} {z zo : Zn} {yl t t1 t2 : Int} {a : Act} {w1 : World} (hB : NBk w N S lo lc f p q z zo) (hW : NW w N t p w1) (b0 : -3000000000000000 ≤ t) (b1 : t ≤ 30000000000000) (d0 : -3000000000000000 ≤ t1) (d1 : t1 ≤ 30000000000000) (e0 : -3000000000000000 ≤ t2) (e1 : t2 ≤ 30000000000000) (hm : (f 4).testBit (mo z t) = false)
    (hD : ∀ W : World, NB W S lo lc f p q z zo → Calls Tryz.prog 165 #[.int .i64 ((yr z t : Nat) - 292277022400), .int .i64 (mo z t : Nat), .int .i64 1, .int .i64 0, .int .i64 0, .int .i64 0, .int .i64 0, .pointer (some ⟨lc, 0, none⟩)] W fun e w' => e = .returned (tv 0 (t1 + 62135596800) p) ∧ ∃ y : Ext W, w' = y.now)
    (hA : ∀ W : World, Tpl W p z → Calls Tryz.prog 166 #[tv 0 (t1 + 62135596800) p, .int .i64 0, .int .i64 1, .int .i64 0] W fun e w' => e = .returned (tv 0 (t2 + 62135596800) p) ∧ ∃ y : Ext W, w' = y.now) (Q : Exit → Act → World → Prop)
    (hgo : ∀ a w2, NFr S N lo lc true yl a → NW w N t2 p w2 → Q (if mo z t2 = 1 then .goto 0 else .normal) a w2) (hfr : NFr S N lo lc false yl a) : (nxBody 0).wp Tryz.prog Q a w1 := by
  have hB1 := hW.base hB
  have hbnd := (nums hB1.hz t b0 b1).m1
  have HM := Lib.hid (fun (x : Ext w1) => calls_ext (x := x) (monthM_any (hB1.tp.ext x) hB1.hz 0 t (by decide) (by decide) b0 b1))
  have hbit := Lib.hid (bit_zero (mo z t) (f 4) (by omega) (hB1.sc.bd 4 (by decide)))
  rw [hm] at hbit
  have sk := hB1.sc.c4
  have sl := hB1.sc.lt
  have c0 := hW.c0; have c1 := hW.c1; have c2 := hW.c2
  have f0 := hW.f0; have f1 := hW.f1; have f2 := hW.f2
  have wl := hW.lt
  have wl0 : N < w1.heap.size := by omega
  have HW := Lib.hid hW
  have HYear := Lib.hid (fun (x : Ext w1) (y : Ext x.now) => calls_ext (x := y) (yearM_any ((hB1.tp.ext x).ext y) hB1.hz 0 t (by decide) (by decide) b0 b1))
  have HMonth := Lib.hid (fun (x : Ext w1) (y : Ext x.now) => calls_ext (x := y) (monthM_any ((hB1.tp.ext x).ext y) hB1.hz 0 t (by decide) (by decide) b0 b1))
  have HD := Lib.hid (fun (x : Ext w1) (y : Ext x.now) => calls_ext (x := y) (hD y.now ((hB1.ext x).ext y)))
  have HA := Lib.hid (fun (W : World) (h : NW w N t1 p W) => hA W (h.base hB).tp)
  have HE := Lib.hid (fun (W : World) (h : NW w N t2 p W) => monthM_any (h.base hB).tp hB1.hz 0 t2 (by decide) (by decide) e0 e1)
  generalize mo z t2 = k at *
  generalize mo z t = m at *
  generalize ((yr z t : Nat) : Int) - 292277022400 = Y at *
  have hG := Lib.hid hgo
  clear hgo hm hB1 hB b0 b1 d0 d1 e0 e1 hW hA hD hbnd
  cases hfr
  conv => arg 2; whnf
  go_wp2
  refine wp_region_ext (by kernel_rfl) (by kernel_rfl) ?_
  iterate 3 (quiet_step ((go_at_call 164; with_reducible exact HM.out _)))
  refine quiet_shl _ _ _ _ _ rfl (by rfl) rfl rfl ?_
  repeat (quiet_step (fail))
  refine wpQuiet_nil ?_
  rintro w2 ⟨x, rfl⟩
  rw [hbit.out]
  go_wp2
  refine wp_region_ext_tail 6 (by kernel_rfl) (by kernel_rfl) ?_
  simp only [List.take_succ_cons, List.take_zero]
  repeat (quiet_step (first | (go_at_call 163; with_reducible exact HYear.out _ _) | (go_at_call 164; with_reducible exact HMonth.out _ _) | (go_at_call 165; with_reducible exact HD.out _ _)))
  refine wpQuiet_nil ?_
  rintro w2 ⟨x1, rfl⟩
  simp only [List.drop_succ_cons, List.drop_zero]
  obtain ⟨x0, hx0⟩ := Ext.both x x1
  rw [hx0]
  clear hx0 x1
  by_cases hk : k = 1
  · rw [if_pos hk] at hG
    subst hk
    go_wp2_with (first
      | (go_at_call 166; have hN1 := (HW.out.ext x0).put t1; generalize (((x0.now.setCell ⟨N, 0, none⟩ (.int .u64 0)).setCell ⟨N, 1, none⟩ (.int .i64 (t1 + 62135596800))).setCell ⟨N, 2, none⟩ (.pointer p)) = W1 at hN1 ⊢; have k0 := hN1.c0; have k1 := hN1.c1; have k2 := hN1.c2; have j0 := hN1.f0; have j1 := hN1.f1; have j2 := hN1.f2; have kl0 := hN1.lt0; clear c0 c1 c2 f0 f1 f2; have HN1 := Lib.hid hN1; (with_reducible refine (HA.out _ hN1).mono ?_); clear hN1; rintro e w2 ⟨rfl, x2, rfl⟩)
      | (go_at_call 164; (with_reducible refine (HE.out _ ((HN1.out.ext x2).put t2)).mono ?_); rintro e w2 ⟨rfl, x3, rfl⟩))
    refine wp_goto ?_
    show Q (.goto 0) _ _
    refine hG.out _ _ ?_ (((HN1.out.ext x2).put t2).ext x3)
    constructor
  · rw [if_neg hk] at hG
    have hk2 : ¬ (k : Int) = 1 := by omega
    go_wp2_with (first
      | (go_at_call 166; have hN1 := (HW.out.ext x0).put t1; generalize (((x0.now.setCell ⟨N, 0, none⟩ (.int .u64 0)).setCell ⟨N, 1, none⟩ (.int .i64 (t1 + 62135596800))).setCell ⟨N, 2, none⟩ (.pointer p)) = W1 at hN1 ⊢; have k0 := hN1.c0; have k1 := hN1.c1; have k2 := hN1.c2; have j0 := hN1.f0; have j1 := hN1.f1; have j2 := hN1.f2; have kl0 := hN1.lt0; clear c0 c1 c2 f0 f1 f2; have HN1 := Lib.hid hN1; (with_reducible refine (HA.out _ hN1).mono ?_); clear hN1; rintro e w2 ⟨rfl, x2, rfl⟩)
      | (go_at_call 164; (with_reducible refine (HE.out _ ((HN1.out.ext x2).put t2)).mono ?_); rintro e w2 ⟨rfl, x3, rfl⟩))
    refine hG.out _ _ ?_ (((HN1.out.ext x2).put t2).ext x3)
    constructor

end Go.Proofs.YtopcjlimjkfoiaaGreatDoor
namespace Go.Proofs.YtopcjlimjkfoiaaGreatDoor
open Go.RowKit Go.Cal
attribute [local go_sem] Ext.cell Ext.frozen Ext.lt Ext.lt_add Ext.cell2 Ext.frozen2
attribute [local irreducible] wpQuiet

set_option maxRecDepth 1000000 in
set_option maxHeartbeats 4000000 in
theorem dy_yes {w : World} {S lo lc N : Nat} {f : Nat → Nat} {p q : Option Addr} {z zo : Zn} {yl t : Int} {a : Act} {w1 : World} (hB : NBk w N S lo lc f p q z zo) (hW : NW w N t p w1) (b0 : -3000000000000000 ≤ t) (b1 : t ≤ 30000000000000) {ad : Bool} (hm : dayOk f (dy z t) (wd z t) = true) (Q : Exit → Act → World → Prop)
    (hgo : ∀ a w2, NFr S N lo lc ad yl a → NW w N t p w2 → Q (.exit 2) a w2) (hfr : NFr S N lo lc ad yl a) : (nxBody 1).wp Tryz.prog Q a w1 := by
  have hB1 := hW.base hB
  have HM := Lib.hid (dayMatches_any hB1.sc hB1.tp hB1.hz t b0 b1)
  rw [hm] at HM
  have c0 := hW.c0; have c1 := hW.c1; have c2 := hW.c2
  have f0 := hW.f0; have f1 := hW.f1; have f2 := hW.f2
  have wl := hW.lt
  have wl0 : N < w1.heap.size := by omega
  have HW := Lib.hid hW
  have hG := Lib.hid hgo
  clear hgo hm hB1 hB b0 b1 hW
  cases hfr
  conv => arg 2; whnf
  go_wp2_with (go_at_call 167; (with_reducible refine HM.out.mono ?_); rintro e w2 ⟨rfl, x, rfl⟩)
  go_wp2
  refine hG.out _ _ ?_ (HW.out.ext x)
  constructor

set_option maxRecDepth 1000000 in
set_option maxHeartbeats 4000000 in
theorem dy_no1 {w : World} {S lo lc N : Nat} {f : Nat → Nat} {p q : Option Addr} {z zo : Zn} {yl t t2 : Int} {a : Act} {w1 : World} (hB : NBk w N S lo lc f p q z zo) (hW : NW w N t p w1) (b0 : -3000000000000000 ≤ t) (b1 : t ≤ 30000000000000) (e0 : -3000000000000000 ≤ t2) (e1 : t2 ≤ 30000000000000) (hh0 : hr z t2 = 0) (hm : dayOk f (dy z t) (wd z t) = false)
    (hA : ∀ W : World, Tpl W p z → Calls Tryz.prog 166 #[tv 0 (t + 62135596800) p, .int .i64 0, .int .i64 0, .int .i64 1] W fun e w' => e = .returned (tv 0 (t2 + 62135596800) p) ∧ ∃ y : Ext W, w' = y.now) (Q : Exit → Act → World → Prop)
    (hgo : ∀ a w2, NFr S N lo lc true yl a → NW w N t2 p w2 → Q (if dy z t2 = 1 then .goto 0 else .normal) a w2) (hfr : NFr S N lo lc true yl a) : (nxBody 1).wp Tryz.prog Q a w1 := by
  have hB1 := hW.base hB
  have HM := Lib.hid (dayMatches_any hB1.sc hB1.tp hB1.hz t b0 b1)
  rw [hm] at HM
  have c0 := hW.c0; have c1 := hW.c1; have c2 := hW.c2
  have f0 := hW.f0; have f1 := hW.f1; have f2 := hW.f2
  have wl := hW.lt
  have wl0 : N < w1.heap.size := by omega
  have HW := Lib.hid hW
  have HA := Lib.hid (fun (x : Ext w1) => calls_ext (x := x) (hA x.now (hB1.tp.ext x)))
  have HE := Lib.hid (fun (W : World) (h : NW w N t2 p W) => dayM_any (h.base hB).tp hB1.hz 0 t2 (by decide) (by decide) e0 e1)
  have HH := Lib.hid (fun (W : World) (h : NW w N t2 p W) => hour_any (h.base hB).tp hB1.hz 0 t2 (by decide) (by decide) e0 e1)
  rw [hh0] at HH
  generalize dy z t2 = k at *
  have hG := Lib.hid hgo
  clear hgo hm hB1 hB b0 b1 e0 e1 hW hA hh0
  cases hfr
  conv => arg 2; whnf
  go_wp2_with (go_at_call 167; (with_reducible refine HM.out.mono ?_); rintro e w2 ⟨rfl, x, rfl⟩)
  by_cases hk : k = 1
  · rw [if_pos hk] at hG
    subst hk
    go_wp2_with (first
      | (go_at_call 166; (with_reducible refine (HA.out _).mono ?_); rintro e w2 ⟨rfl, x2, rfl⟩)
      | (go_at_call 168; (with_reducible refine (HH.out _ ((HW.out.ext x2).put t2)).mono ?_); rintro e w2 ⟨rfl, xh, rfl⟩)
      | (go_at_call 159; (with_reducible refine (HE.out _ (((HW.out.ext x2).put t2).ext xh)).mono ?_); rintro e w2 ⟨rfl, x3, rfl⟩))
    refine wp_goto ?_
    show Q (.goto 0) _ _
    refine hG.out _ _ ?_ ((((HW.out.ext x2).put t2).ext xh).ext x3)
    constructor
  · rw [if_neg hk] at hG
    have hk2 : ¬ (k : Int) = 1 := by omega
    go_wp2_with (first
      | (go_at_call 166; (with_reducible refine (HA.out _).mono ?_); rintro e w2 ⟨rfl, x2, rfl⟩)
      | (go_at_call 168; (with_reducible refine (HH.out _ ((HW.out.ext x2).put t2)).mono ?_); rintro e w2 ⟨rfl, xh, rfl⟩)
      | (go_at_call 159; (with_reducible refine (HE.out _ (((HW.out.ext x2).put t2).ext xh)).mono ?_); rintro e w2 ⟨rfl, x3, rfl⟩))
    refine hG.out _ _ ?_ ((((HW.out.ext x2).put t2).ext xh).ext x3)
    constructor

set_option maxRecDepth 1000000 in
set_option maxHeartbeats 4000000 in
theorem dy_no0 {w : World} {S lo lc N : Nat} {f : Nat → Nat} {p q : Option Addr} {z zo : Zn} {yl t t1 t2 : Int} {a : Act} {w1 : World} (hB : NBk w N S lo lc f p q z zo) (hW : NW w N t p w1) (b0 : -3000000000000000 ≤ t) (b1 : t ≤ 30000000000000) (d0 : -3000000000000000 ≤ t1) (d1 : t1 ≤ 30000000000000) (e0 : -3000000000000000 ≤ t2) (e1 : t2 ≤ 30000000000000) (hh0 : hr z t2 = 0) (hm : dayOk f (dy z t) (wd z t) = false)
    (hD : ∀ W : World, NB W S lo lc f p q z zo → Calls Tryz.prog 165 #[.int .i64 ((yr z t : Nat) - 292277022400), .int .i64 (mo z t : Nat), .int .i64 (dy z t : Nat), .int .i64 0, .int .i64 0, .int .i64 0, .int .i64 0, .pointer (some ⟨lc, 0, none⟩)] W fun e w' => e = .returned (tv 0 (t1 + 62135596800) p) ∧ ∃ y : Ext W, w' = y.now)
    (hA : ∀ W : World, Tpl W p z → Calls Tryz.prog 166 #[tv 0 (t1 + 62135596800) p, .int .i64 0, .int .i64 0, .int .i64 1] W fun e w' => e = .returned (tv 0 (t2 + 62135596800) p) ∧ ∃ y : Ext W, w' = y.now) (Q : Exit → Act → World → Prop)
    (hgo : ∀ a w2, NFr S N lo lc true yl a → NW w N t2 p w2 → Q (if dy z t2 = 1 then .goto 0 else .normal) a w2) (hfr : NFr S N lo lc false yl a) : (nxBody 1).wp Tryz.prog Q a w1 := by
  have hB1 := hW.base hB
  have HM := Lib.hid (dayMatches_any hB1.sc hB1.tp hB1.hz t b0 b1)
  rw [hm] at HM
  have c0 := hW.c0; have c1 := hW.c1; have c2 := hW.c2
  have f0 := hW.f0; have f1 := hW.f1; have f2 := hW.f2
  have wl := hW.lt
  have wl0 : N < w1.heap.size := by omega
  have HW := Lib.hid hW
  have HYear := Lib.hid (fun (x : Ext w1) (y : Ext x.now) => calls_ext (x := y) (yearM_any ((hB1.tp.ext x).ext y) hB1.hz 0 t (by decide) (by decide) b0 b1))
  have HMonth := Lib.hid (fun (x : Ext w1) (y : Ext x.now) => calls_ext (x := y) (monthM_any ((hB1.tp.ext x).ext y) hB1.hz 0 t (by decide) (by decide) b0 b1))
  have HDay := Lib.hid (fun (x : Ext w1) (y : Ext x.now) => calls_ext (x := y) (dayM_any ((hB1.tp.ext x).ext y) hB1.hz 0 t (by decide) (by decide) b0 b1))
  have HD := Lib.hid (fun (x : Ext w1) (y : Ext x.now) => calls_ext (x := y) (hD y.now ((hB1.ext x).ext y)))
  have HA := Lib.hid (fun (W : World) (h : NW w N t1 p W) => hA W (h.base hB).tp)
  have HE := Lib.hid (fun (W : World) (h : NW w N t2 p W) => dayM_any (h.base hB).tp hB1.hz 0 t2 (by decide) (by decide) e0 e1)
  have HH := Lib.hid (fun (W : World) (h : NW w N t2 p W) => hour_any (h.base hB).tp hB1.hz 0 t2 (by decide) (by decide) e0 e1)
  rw [hh0] at HH
  generalize dy z t2 = k at *
  generalize ((yr z t : Nat) : Int) - 292277022400 = Y at *
  generalize mo z t = Mo at *
  generalize dy z t = Dy at *
  have hG := Lib.hid hgo
  clear hgo hm hB1 hB b0 b1 d0 d1 e0 e1 hW hA hD hh0
  cases hfr
  conv => arg 2; whnf
  go_wp2_with (go_at_call 167; (with_reducible refine HM.out.mono ?_); rintro e w2 ⟨rfl, x, rfl⟩)
  go_wp2
  refine wp_region_ext_tail 8 (by kernel_rfl) (by kernel_rfl) ?_
  simp only [List.take_succ_cons, List.take_zero]
  repeat (quiet_step (first | (go_at_call 163; with_reducible exact HYear.out _ _) | (go_at_call 164; with_reducible exact HMonth.out _ _) | (go_at_call 159; with_reducible exact HDay.out _ _) | (go_at_call 165; with_reducible exact HD.out _ _)))
  refine wpQuiet_nil ?_
  rintro w2 ⟨x1, rfl⟩
  simp only [List.drop_succ_cons, List.drop_zero]
  obtain ⟨x0, hx0⟩ := Ext.both x x1
  rw [hx0]
  clear hx0 x1
  by_cases hk : k = 1
  · rw [if_pos hk] at hG
    subst hk
    go_wp2_with (first
      | (go_at_call 166; have hN1 := (HW.out.ext x0).put t1; generalize (((x0.now.setCell ⟨N, 0, none⟩ (.int .u64 0)).setCell ⟨N, 1, none⟩ (.int .i64 (t1 + 62135596800))).setCell ⟨N, 2, none⟩ (.pointer p)) = W1 at hN1 ⊢; have k0 := hN1.c0; have k1 := hN1.c1; have k2 := hN1.c2; have j0 := hN1.f0; have j1 := hN1.f1; have j2 := hN1.f2; have kl0 := hN1.lt0; clear c0 c1 c2 f0 f1 f2; have HN1 := Lib.hid hN1; (with_reducible refine (HA.out _ hN1).mono ?_); clear hN1; rintro e w2 ⟨rfl, x2, rfl⟩)
      | (go_at_call 168; (with_reducible refine (HH.out _ ((HN1.out.ext x2).put t2)).mono ?_); rintro e w2 ⟨rfl, xh, rfl⟩)
      | (go_at_call 159; (with_reducible refine (HE.out _ (((HN1.out.ext x2).put t2).ext xh)).mono ?_); rintro e w2 ⟨rfl, x3, rfl⟩))
    refine wp_goto ?_
    show Q (.goto 0) _ _
    refine hG.out _ _ ?_ ((((HN1.out.ext x2).put t2).ext xh).ext x3)
    constructor
  · rw [if_neg hk] at hG
    have hk2 : ¬ (k : Int) = 1 := by omega
    go_wp2_with (first
      | (go_at_call 166; have hN1 := (HW.out.ext x0).put t1; generalize (((x0.now.setCell ⟨N, 0, none⟩ (.int .u64 0)).setCell ⟨N, 1, none⟩ (.int .i64 (t1 + 62135596800))).setCell ⟨N, 2, none⟩ (.pointer p)) = W1 at hN1 ⊢; have k0 := hN1.c0; have k1 := hN1.c1; have k2 := hN1.c2; have j0 := hN1.f0; have j1 := hN1.f1; have j2 := hN1.f2; have kl0 := hN1.lt0; clear c0 c1 c2 f0 f1 f2; have HN1 := Lib.hid hN1; (with_reducible refine (HA.out _ hN1).mono ?_); clear hN1; rintro e w2 ⟨rfl, x2, rfl⟩)
      | (go_at_call 168; (with_reducible refine (HH.out _ ((HN1.out.ext x2).put t2)).mono ?_); rintro e w2 ⟨rfl, xh, rfl⟩)
      | (go_at_call 159; (with_reducible refine (HE.out _ (((HN1.out.ext x2).put t2).ext xh)).mono ?_); rintro e w2 ⟨rfl, x3, rfl⟩))
    refine hG.out _ _ ?_ ((((HN1.out.ext x2).put t2).ext xh).ext x3)
    constructor

end Go.Proofs.YtopcjlimjkfoiaaGreatDoor
namespace Go.Proofs.YtopcjlimjkfoiaaGreatDoor
open Go.RowKit Go.Cal
attribute [local go_sem] Ext.cell Ext.frozen Ext.lt Ext.lt_add Ext.cell2 Ext.frozen2
attribute [local irreducible] wpQuiet

set_option maxRecDepth 1000000 in
set_option maxHeartbeats 4000000 in
theorem hr_yes {w : World} {S lo lc N : Nat} {f : Nat → Nat} {p q : Option Addr} {z zo : Zn} {yl t : Int} {a : Act} {w1 : World} (hB : NBk w N S lo lc f p q z zo) (hW : NW w N t p w1) (b0 : -3000000000000000 ≤ t) (b1 : t ≤ 30000000000000) {ad : Bool} (hm : (f 2).testBit (hr z t) = true) (Q : Exit → Act → World → Prop)
    (hgo : ∀ a w2, NFr S N lo lc ad yl a → NW w N t p w2 → Q (.exit 4) a w2) (hfr : NFr S N lo lc ad yl a) : (nxBody 2).wp Tryz.prog Q a w1 := by
  have hB1 := hW.base hB
  have hbnd := (nums hB1.hz t b0 b1).h1
  have HM := Lib.hid (fun (x : Ext w1) => calls_ext (x := x) (hour_any (hB1.tp.ext x) hB1.hz 0 t (by decide) (by decide) b0 b1))
  have hbit := Lib.hid (bit_zero (hr z t) (f 2) (by omega) (hB1.sc.bd 2 (by decide)))
  rw [hm] at hbit
  have sk := hB1.sc.c2
  have sl := hB1.sc.lt
  generalize hr z t = m at HM hbit
  have c0 := hW.c0; have c1 := hW.c1; have c2 := hW.c2
  have f0 := hW.f0; have f1 := hW.f1; have f2 := hW.f2
  have wl := hW.lt
  have wl0 : N < w1.heap.size := by omega
  have HW := Lib.hid hW
  have hG := Lib.hid hgo
  clear hgo hm hB1 hB b0 b1 hW hbnd
  cases hfr
  conv => arg 2; whnf
  go_wp2
  refine wp_region_ext (by kernel_rfl) (by kernel_rfl) ?_
  iterate 3 (quiet_step ((go_at_call 168; with_reducible exact HM.out _)))
  refine quiet_shl _ _ _ _ _ rfl (by rfl) rfl rfl ?_
  repeat (quiet_step (fail))
  refine wpQuiet_nil ?_
  rintro w2 ⟨x, rfl⟩
  rw [hbit.out]
  go_wp2
  refine hG.out _ _ ?_ (HW.out.ext x)
  constructor

set_option maxRecDepth 1000000 in
set_option maxHeartbeats 4000000 in
theorem hr_no1 {w : World} {S lo lc N : Nat} {f : Nat → Nat} {p q : Option Addr} {z zo : Zn} {yl t t2 : Int} {a : Act} {w1 : World} (hB : NBk w N S lo lc f p q z zo) (hW : NW w N t p w1) (b0 : -3000000000000000 ≤ t) (b1 : t ≤ 30000000000000) (e0 : -3000000000000000 ≤ t2) (e1 : t2 ≤ 30000000000000) (hm : (f 2).testBit (hr z t) = false)
    (hA : ∀ W : World, Tpl W p z → Calls Tryz.prog 162 #[tv 0 (t + 62135596800) p, .int .i64 3600000000000] W fun e w' => e = .returned (tv 0 (t2 + 62135596800) p) ∧ ∃ y : Ext W, w' = y.now) (Q : Exit → Act → World → Prop)
    (hgo : ∀ a w2, NFr S N lo lc true yl a → NW w N t2 p w2 → Q (if hr z t2 = 0 then .goto 0 else .normal) a w2) (hfr : NFr S N lo lc true yl a) : (nxBody 2).wp Tryz.prog Q a w1 := by
  have hB1 := hW.base hB
  have hbnd := (nums hB1.hz t b0 b1).h1
  have HM := Lib.hid (fun (x : Ext w1) => calls_ext (x := x) (hour_any (hB1.tp.ext x) hB1.hz 0 t (by decide) (by decide) b0 b1))
  have hbit := Lib.hid (bit_zero (hr z t) (f 2) (by omega) (hB1.sc.bd 2 (by decide)))
  rw [hm] at hbit
  have sk := hB1.sc.c2
  have sl := hB1.sc.lt
  generalize hr z t = m at HM hbit
  have c0 := hW.c0; have c1 := hW.c1; have c2 := hW.c2
  have f0 := hW.f0; have f1 := hW.f1; have f2 := hW.f2
  have wl := hW.lt
  have wl0 : N < w1.heap.size := by omega
  have HW := Lib.hid hW
  have HA := Lib.hid (fun (x : Ext w1) => calls_ext (x := x) (hA x.now (hB1.tp.ext x)))
  have HE := Lib.hid (fun (W : World) (h : NW w N t2 p W) => hour_any (h.base hB).tp hB1.hz 0 t2 (by decide) (by decide) e0 e1)
  generalize hr z t2 = k at *
  have hG := Lib.hid hgo
  clear hgo hm hB1 hB b0 b1 e0 e1 hW hA hbnd
  cases hfr
  conv => arg 2; whnf
  go_wp2
  refine wp_region_ext (by kernel_rfl) (by kernel_rfl) ?_
  iterate 3 (quiet_step ((go_at_call 168; with_reducible exact HM.out _)))
  refine quiet_shl _ _ _ _ _ rfl (by rfl) rfl rfl ?_
  repeat (quiet_step (fail))
  refine wpQuiet_nil ?_
  rintro w2 ⟨x, rfl⟩
  rw [hbit.out]
  by_cases hk : k = 0
  · rw [if_pos hk] at hG
    subst hk
    go_wp2_with (first
      | (go_at_call 162; (with_reducible refine (HA.out _).mono ?_); rintro e w2 ⟨rfl, x2, rfl⟩)
      | (go_at_call 168; (with_reducible refine (HE.out _ ((HW.out.ext x2).put t2)).mono ?_); rintro e w2 ⟨rfl, x3, rfl⟩))
    refine wp_goto ?_
    show Q (.goto 0) _ _
    refine hG.out _ _ ?_ (((HW.out.ext x2).put t2).ext x3)
    constructor
  · rw [if_neg hk] at hG
    have hk2 : ¬ (k : Int) = 0 := by omega
    go_wp2_with (first
      | (go_at_call 162; (with_reducible refine (HA.out _).mono ?_); rintro e w2 ⟨rfl, x2, rfl⟩)
      | (go_at_call 168; (with_reducible refine (HE.out _ ((HW.out.ext x2).put t2)).mono ?_); rintro e w2 ⟨rfl, x3, rfl⟩))
    refine hG.out _ _ ?_ (((HW.out.ext x2).put t2).ext x3)
    constructor

set_option maxRecDepth 1000000 in
set_option maxHeartbeats 4000000 in
theorem hr_no0 {w : World} {S lo lc N : Nat} {f : Nat → Nat} {p q : Option Addr} {z zo : Zn} {yl t t1 t2 : Int} {a : Act} {w1 : World} (hB : NBk w N S lo lc f p q z zo) (hW : NW w N t p w1) (b0 : -3000000000000000 ≤ t) (b1 : t ≤ 30000000000000) (d0 : -3000000000000000 ≤ t1) (d1 : t1 ≤ 30000000000000) (e0 : -3000000000000000 ≤ t2) (e1 : t2 ≤ 30000000000000) (hm : (f 2).testBit (hr z t) = false)
    (hD : ∀ W : World, NB W S lo lc f p q z zo → Calls Tryz.prog 165 #[.int .i64 ((yr z t : Nat) - 292277022400), .int .i64 (mo z t : Nat), .int .i64 (dy z t : Nat), .int .i64 (hr z t : Nat), .int .i64 0, .int .i64 0, .int .i64 0, .pointer (some ⟨lc, 0, none⟩)] W fun e w' => e = .returned (tv 0 (t1 + 62135596800) p) ∧ ∃ y : Ext W, w' = y.now)
    (hA : ∀ W : World, Tpl W p z → Calls Tryz.prog 162 #[tv 0 (t1 + 62135596800) p, .int .i64 3600000000000] W fun e w' => e = .returned (tv 0 (t2 + 62135596800) p) ∧ ∃ y : Ext W, w' = y.now) (Q : Exit → Act → World → Prop)
    (hgo : ∀ a w2, NFr S N lo lc true yl a → NW w N t2 p w2 → Q (if hr z t2 = 0 then .goto 0 else .normal) a w2) (hfr : NFr S N lo lc false yl a) : (nxBody 2).wp Tryz.prog Q a w1 := by
  have hB1 := hW.base hB
  have hbnd := (nums hB1.hz t b0 b1).h1
  have HM := Lib.hid (fun (x : Ext w1) => calls_ext (x := x) (hour_any (hB1.tp.ext x) hB1.hz 0 t (by decide) (by decide) b0 b1))
  have hbit := Lib.hid (bit_zero (hr z t) (f 2) (by omega) (hB1.sc.bd 2 (by decide)))
  rw [hm] at hbit
  have sk := hB1.sc.c2
  have sl := hB1.sc.lt
  have c0 := hW.c0; have c1 := hW.c1; have c2 := hW.c2
  have f0 := hW.f0; have f1 := hW.f1; have f2 := hW.f2
  have wl := hW.lt
  have wl0 : N < w1.heap.size := by omega
  have HW := Lib.hid hW
  have HYear := Lib.hid (fun (x : Ext w1) (y : Ext x.now) => calls_ext (x := y) (yearM_any ((hB1.tp.ext x).ext y) hB1.hz 0 t (by decide) (by decide) b0 b1))
  have HMonth := Lib.hid (fun (x : Ext w1) (y : Ext x.now) => calls_ext (x := y) (monthM_any ((hB1.tp.ext x).ext y) hB1.hz 0 t (by decide) (by decide) b0 b1))
  have HDay := Lib.hid (fun (x : Ext w1) (y : Ext x.now) => calls_ext (x := y) (dayM_any ((hB1.tp.ext x).ext y) hB1.hz 0 t (by decide) (by decide) b0 b1))
  have HHour := Lib.hid (fun (x : Ext w1) (y : Ext x.now) => calls_ext (x := y) (hour_any ((hB1.tp.ext x).ext y) hB1.hz 0 t (by decide) (by decide) b0 b1))
  have HD := Lib.hid (fun (x : Ext w1) (y : Ext x.now) => calls_ext (x := y) (hD y.now ((hB1.ext x).ext y)))
  have HA := Lib.hid (fun (W : World) (h : NW w N t1 p W) => hA W (h.base hB).tp)
  have HE := Lib.hid (fun (W : World) (h : NW w N t2 p W) => hour_any (h.base hB).tp hB1.hz 0 t2 (by decide) (by decide) e0 e1)
  generalize hr z t2 = k at *
  generalize hr z t = m at *
  generalize ((yr z t : Nat) : Int) - 292277022400 = Y at *
  generalize mo z t = Mo at *
  generalize dy z t = Dy at *
  have hG := Lib.hid hgo
  clear hgo hm hB1 hB b0 b1 d0 d1 e0 e1 hW hA hD hbnd
  cases hfr
  conv => arg 2; whnf
  go_wp2
  refine wp_region_ext (by kernel_rfl) (by kernel_rfl) ?_
  iterate 3 (quiet_step ((go_at_call 168; with_reducible exact HM.out _)))
  refine quiet_shl _ _ _ _ _ rfl (by rfl) rfl rfl ?_
  repeat (quiet_step (fail))
  refine wpQuiet_nil ?_
  rintro w2 ⟨x, rfl⟩
  rw [hbit.out]
  go_wp2
  refine wp_region_ext_tail 10 (by kernel_rfl) (by kernel_rfl) ?_
  simp only [List.take_succ_cons, List.take_zero]
  repeat (quiet_step (first | (go_at_call 163; with_reducible exact HYear.out _ _) | (go_at_call 164; with_reducible exact HMonth.out _ _) | (go_at_call 159; with_reducible exact HDay.out _ _) | (go_at_call 168; with_reducible exact HHour.out _ _) | (go_at_call 165; with_reducible exact HD.out _ _)))
  refine wpQuiet_nil ?_
  rintro w2 ⟨x1, rfl⟩
  simp only [List.drop_succ_cons, List.drop_zero]
  obtain ⟨x0, hx0⟩ := Ext.both x x1
  rw [hx0]
  clear hx0 x1
  by_cases hk : k = 0
  · rw [if_pos hk] at hG
    subst hk
    go_wp2_with (first
      | (go_at_call 162; have hN1 := (HW.out.ext x0).put t1; generalize (((x0.now.setCell ⟨N, 0, none⟩ (.int .u64 0)).setCell ⟨N, 1, none⟩ (.int .i64 (t1 + 62135596800))).setCell ⟨N, 2, none⟩ (.pointer p)) = W1 at hN1 ⊢; have k0 := hN1.c0; have k1 := hN1.c1; have k2 := hN1.c2; have j0 := hN1.f0; have j1 := hN1.f1; have j2 := hN1.f2; have kl0 := hN1.lt0; clear c0 c1 c2 f0 f1 f2; have HN1 := Lib.hid hN1; (with_reducible refine (HA.out _ hN1).mono ?_); clear hN1; rintro e w2 ⟨rfl, x2, rfl⟩)
      | (go_at_call 168; (with_reducible refine (HE.out _ ((HN1.out.ext x2).put t2)).mono ?_); rintro e w2 ⟨rfl, x3, rfl⟩))
    refine wp_goto ?_
    show Q (.goto 0) _ _
    refine hG.out _ _ ?_ (((HN1.out.ext x2).put t2).ext x3)
    constructor
  · rw [if_neg hk] at hG
    have hk2 : ¬ (k : Int) = 0 := by omega
    go_wp2_with (first
      | (go_at_call 162; have hN1 := (HW.out.ext x0).put t1; generalize (((x0.now.setCell ⟨N, 0, none⟩ (.int .u64 0)).setCell ⟨N, 1, none⟩ (.int .i64 (t1 + 62135596800))).setCell ⟨N, 2, none⟩ (.pointer p)) = W1 at hN1 ⊢; have k0 := hN1.c0; have k1 := hN1.c1; have k2 := hN1.c2; have j0 := hN1.f0; have j1 := hN1.f1; have j2 := hN1.f2; have kl0 := hN1.lt0; clear c0 c1 c2 f0 f1 f2; have HN1 := Lib.hid hN1; (with_reducible refine (HA.out _ hN1).mono ?_); clear hN1; rintro e w2 ⟨rfl, x2, rfl⟩)
      | (go_at_call 168; (with_reducible refine (HE.out _ ((HN1.out.ext x2).put t2)).mono ?_); rintro e w2 ⟨rfl, x3, rfl⟩))
    refine hG.out _ _ ?_ (((HN1.out.ext x2).put t2).ext x3)
    constructor

end Go.Proofs.YtopcjlimjkfoiaaGreatDoor
namespace Go.Proofs.YtopcjlimjkfoiaaGreatDoor
open Go.RowKit Go.Cal
attribute [local go_sem] Ext.cell Ext.frozen Ext.lt Ext.lt_add Ext.cell2 Ext.frozen2
attribute [local irreducible] wpQuiet

set_option maxRecDepth 1000000 in
set_option maxHeartbeats 4000000 in
theorem mi_yes {w : World} {S lo lc N : Nat} {f : Nat → Nat} {p q : Option Addr} {z zo : Zn} {yl t : Int} {a : Act} {w1 : World} (hB : NBk w N S lo lc f p q z zo) (hW : NW w N t p w1) (b0 : -3000000000000000 ≤ t) (b1 : t ≤ 30000000000000) {ad : Bool} (hm : (f 1).testBit (mi z t) = true) (Q : Exit → Act → World → Prop)
    (hgo : ∀ a w2, NFr S N lo lc ad yl a → NW w N t p w2 → Q (.exit 6) a w2) (hfr : NFr S N lo lc ad yl a) : (nxBody 3).wp Tryz.prog Q a w1 := by
  have hB1 := hW.base hB
  have hbnd := (nums hB1.hz t b0 b1).i1
  have HM := Lib.hid (fun (x : Ext w1) => calls_ext (x := x) (minute_any (hB1.tp.ext x) hB1.hz 0 t (by decide) (by decide) b0 b1))
  have hbit := Lib.hid (bit_zero (mi z t) (f 1) (by omega) (hB1.sc.bd 1 (by decide)))
  rw [hm] at hbit
  have sk := hB1.sc.c1
  have sl := hB1.sc.lt
  generalize mi z t = m at HM hbit
  have c0 := hW.c0; have c1 := hW.c1; have c2 := hW.c2
  have f0 := hW.f0; have f1 := hW.f1; have f2 := hW.f2
  have wl := hW.lt
  have wl0 : N < w1.heap.size := by omega
  have HW := Lib.hid hW
  have hG := Lib.hid hgo
  clear hgo hm hB1 hB b0 b1 hW hbnd
  cases hfr
  conv => arg 2; whnf
  go_wp2
  refine wp_region_ext (by kernel_rfl) (by kernel_rfl) ?_
  iterate 3 (quiet_step ((go_at_call 169; with_reducible exact HM.out _)))
  refine quiet_shl _ _ _ _ _ rfl (by rfl) rfl rfl ?_
  repeat (quiet_step (fail))
  refine wpQuiet_nil ?_
  rintro w2 ⟨x, rfl⟩
  rw [hbit.out]
  go_wp2
  refine hG.out _ _ ?_ (HW.out.ext x)
  constructor

set_option maxRecDepth 1000000 in
set_option maxHeartbeats 4000000 in
theorem mi_no1 {w : World} {S lo lc N : Nat} {f : Nat → Nat} {p q : Option Addr} {z zo : Zn} {yl t t2 : Int} {a : Act} {w1 : World} (hB : NBk w N S lo lc f p q z zo) (hW : NW w N t p w1) (b0 : -3000000000000000 ≤ t) (b1 : t ≤ 30000000000000) (e0 : -3000000000000000 ≤ t2) (e1 : t2 ≤ 30000000000000) (hm : (f 1).testBit (mi z t) = false)
    (hA : ∀ W : World, Tpl W p z → Calls Tryz.prog 162 #[tv 0 (t + 62135596800) p, .int .i64 60000000000] W fun e w' => e = .returned (tv 0 (t2 + 62135596800) p) ∧ ∃ y : Ext W, w' = y.now) (Q : Exit → Act → World → Prop)
    (hgo : ∀ a w2, NFr S N lo lc true yl a → NW w N t2 p w2 → Q (if mi z t2 = 0 then .goto 0 else .normal) a w2) (hfr : NFr S N lo lc true yl a) : (nxBody 3).wp Tryz.prog Q a w1 := by
  have hB1 := hW.base hB
  have hbnd := (nums hB1.hz t b0 b1).i1
  have HM := Lib.hid (fun (x : Ext w1) => calls_ext (x := x) (minute_any (hB1.tp.ext x) hB1.hz 0 t (by decide) (by decide) b0 b1))
  have hbit := Lib.hid (bit_zero (mi z t) (f 1) (by omega) (hB1.sc.bd 1 (by decide)))
  rw [hm] at hbit
  have sk := hB1.sc.c1
  have sl := hB1.sc.lt
  generalize mi z t = m at HM hbit
  have c0 := hW.c0; have c1 := hW.c1; have c2 := hW.c2
  have f0 := hW.f0; have f1 := hW.f1; have f2 := hW.f2
  have wl := hW.lt
  have wl0 : N < w1.heap.size := by omega
  have HW := Lib.hid hW
  have HA := Lib.hid (fun (x : Ext w1) => calls_ext (x := x) (hA x.now (hB1.tp.ext x)))
  have HE := Lib.hid (fun (W : World) (h : NW w N t2 p W) => minute_any (h.base hB).tp hB1.hz 0 t2 (by decide) (by decide) e0 e1)
  generalize mi z t2 = k at *
  have hG := Lib.hid hgo
  clear hgo hm hB1 hB b0 b1 e0 e1 hW hA hbnd
  cases hfr
  conv => arg 2; whnf
  go_wp2
  refine wp_region_ext (by kernel_rfl) (by kernel_rfl) ?_
  iterate 3 (quiet_step ((go_at_call 169; with_reducible exact HM.out _)))
  refine quiet_shl _ _ _ _ _ rfl (by rfl) rfl rfl ?_
  repeat (quiet_step (fail))
  refine wpQuiet_nil ?_
  rintro w2 ⟨x, rfl⟩
  rw [hbit.out]
  by_cases hk : k = 0
  · rw [if_pos hk] at hG
    subst hk
    go_wp2_with (first
      | (go_at_call 162; (with_reducible refine (HA.out _).mono ?_); rintro e w2 ⟨rfl, x2, rfl⟩)
      | (go_at_call 169; (with_reducible refine (HE.out _ ((HW.out.ext x2).put t2)).mono ?_); rintro e w2 ⟨rfl, x3, rfl⟩))
    refine wp_goto ?_
    show Q (.goto 0) _ _
    refine hG.out _ _ ?_ (((HW.out.ext x2).put t2).ext x3)
    constructor
  · rw [if_neg hk] at hG
    have hk2 : ¬ (k : Int) = 0 := by omega
    go_wp2_with (first
      | (go_at_call 162; (with_reducible refine (HA.out _).mono ?_); rintro e w2 ⟨rfl, x2, rfl⟩)
      | (go_at_call 169; (with_reducible refine (HE.out _ ((HW.out.ext x2).put t2)).mono ?_); rintro e w2 ⟨rfl, x3, rfl⟩))
    refine hG.out _ _ ?_ (((HW.out.ext x2).put t2).ext x3)
    constructor

set_option maxRecDepth 1000000 in
set_option maxHeartbeats 4000000 in
theorem mi_no0 {w : World} {S lo lc N : Nat} {f : Nat → Nat} {p q : Option Addr} {z zo : Zn} {yl t t1 t2 : Int} {a : Act} {w1 : World} (hB : NBk w N S lo lc f p q z zo) (hW : NW w N t p w1) (b0 : -3000000000000000 ≤ t) (b1 : t ≤ 30000000000000) (d0 : -3000000000000000 ≤ t1) (d1 : t1 ≤ 30000000000000) (e0 : -3000000000000000 ≤ t2) (e1 : t2 ≤ 30000000000000) (hm : (f 1).testBit (mi z t) = false)
    (hD : ∀ W : World, Calls Tryz.prog 170 #[tv 0 (t + 62135596800) p, .int .i64 60000000000] W fun e w' => e = .returned (tv 0 (t1 + 62135596800) p) ∧ ∃ y : Ext W, w' = y.now)
    (hA : ∀ W : World, Tpl W p z → Calls Tryz.prog 162 #[tv 0 (t1 + 62135596800) p, .int .i64 60000000000] W fun e w' => e = .returned (tv 0 (t2 + 62135596800) p) ∧ ∃ y : Ext W, w' = y.now) (Q : Exit → Act → World → Prop)
    (hgo : ∀ a w2, NFr S N lo lc true yl a → NW w N t2 p w2 → Q (if mi z t2 = 0 then .goto 0 else .normal) a w2) (hfr : NFr S N lo lc false yl a) : (nxBody 3).wp Tryz.prog Q a w1 := by
  have hB1 := hW.base hB
  have hbnd := (nums hB1.hz t b0 b1).i1
  have HM := Lib.hid (fun (x : Ext w1) => calls_ext (x := x) (minute_any (hB1.tp.ext x) hB1.hz 0 t (by decide) (by decide) b0 b1))
  have hbit := Lib.hid (bit_zero (mi z t) (f 1) (by omega) (hB1.sc.bd 1 (by decide)))
  rw [hm] at hbit
  have sk := hB1.sc.c1
  have sl := hB1.sc.lt
  have c0 := hW.c0; have c1 := hW.c1; have c2 := hW.c2
  have f0 := hW.f0; have f1 := hW.f1; have f2 := hW.f2
  have wl := hW.lt
  have wl0 : N < w1.heap.size := by omega
  have HW := Lib.hid hW
  have HD := Lib.hid (fun (x : Ext w1) => calls_ext (x := x) (hD x.now))
  have HA := Lib.hid (fun (W : World) (h : NW w N t1 p W) => hA W (h.base hB).tp)
  have HE := Lib.hid (fun (W : World) (h : NW w N t2 p W) => minute_any (h.base hB).tp hB1.hz 0 t2 (by decide) (by decide) e0 e1)
  generalize mi z t2 = k at *
  generalize mi z t = m at *
  have hG := Lib.hid hgo
  clear hgo hm hB1 hB b0 b1 d0 d1 e0 e1 hW hA hD hbnd
  cases hfr
  conv => arg 2; whnf
  go_wp2
  refine wp_region_ext (by kernel_rfl) (by kernel_rfl) ?_
  iterate 3 (quiet_step ((go_at_call 169; with_reducible exact HM.out _)))
  refine quiet_shl _ _ _ _ _ rfl (by rfl) rfl rfl ?_
  repeat (quiet_step (fail))
  refine wpQuiet_nil ?_
  rintro w2 ⟨x, rfl⟩
  rw [hbit.out]
  by_cases hk : k = 0
  · rw [if_pos hk] at hG
    subst hk
    go_wp2_with (first
      | (go_at_call 170; (with_reducible refine (HD.out _).mono ?_); rintro e w2 ⟨rfl, x0, rfl⟩)
      | (go_at_call 162; have hN1 := (HW.out.ext x0).put t1; generalize (((x0.now.setCell ⟨N, 0, none⟩ (.int .u64 0)).setCell ⟨N, 1, none⟩ (.int .i64 (t1 + 62135596800))).setCell ⟨N, 2, none⟩ (.pointer p)) = W1 at hN1 ⊢; have k0 := hN1.c0; have k1 := hN1.c1; have k2 := hN1.c2; have j0 := hN1.f0; have j1 := hN1.f1; have j2 := hN1.f2; have kl0 := hN1.lt0; clear c0 c1 c2 f0 f1 f2; have HN1 := Lib.hid hN1; (with_reducible refine (HA.out _ hN1).mono ?_); clear hN1; rintro e w2 ⟨rfl, x2, rfl⟩)
      | (go_at_call 169; (with_reducible refine (HE.out _ ((HN1.out.ext x2).put t2)).mono ?_); rintro e w2 ⟨rfl, x3, rfl⟩))
    refine wp_goto ?_
    show Q (.goto 0) _ _
    refine hG.out _ _ ?_ (((HN1.out.ext x2).put t2).ext x3)
    constructor
  · rw [if_neg hk] at hG
    have hk2 : ¬ (k : Int) = 0 := by omega
    go_wp2_with (first
      | (go_at_call 170; (with_reducible refine (HD.out _).mono ?_); rintro e w2 ⟨rfl, x0, rfl⟩)
      | (go_at_call 162; have hN1 := (HW.out.ext x0).put t1; generalize (((x0.now.setCell ⟨N, 0, none⟩ (.int .u64 0)).setCell ⟨N, 1, none⟩ (.int .i64 (t1 + 62135596800))).setCell ⟨N, 2, none⟩ (.pointer p)) = W1 at hN1 ⊢; have k0 := hN1.c0; have k1 := hN1.c1; have k2 := hN1.c2; have j0 := hN1.f0; have j1 := hN1.f1; have j2 := hN1.f2; have kl0 := hN1.lt0; clear c0 c1 c2 f0 f1 f2; have HN1 := Lib.hid hN1; (with_reducible refine (HA.out _ hN1).mono ?_); clear hN1; rintro e w2 ⟨rfl, x2, rfl⟩)
      | (go_at_call 169; (with_reducible refine (HE.out _ ((HN1.out.ext x2).put t2)).mono ?_); rintro e w2 ⟨rfl, x3, rfl⟩))
    refine hG.out _ _ ?_ (((HN1.out.ext x2).put t2).ext x3)
    constructor

end Go.Proofs.YtopcjlimjkfoiaaGreatDoor
