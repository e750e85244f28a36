/-
FnCronTextAfterRoads: the calendar, the schedules, their texts and the zones, part 7 of 34.
-/
import Derived.Test.YtopcjlimjkfoiaaGreatDoorV05
import Derived.Test.YtopcjlimjkfoiaaGreatDoorV03
import Derived.Test.YtopcjlimjkfoiaaGreatDoorV06
set_option linter.all false
namespace Go.Proofs.YtopcjlimjkfoiaaGreatDoor
open Go.RowKit Go.Cal
attribute [local go_sem] Ext.cell Ext.frozen Ext.lt Ext.lt_add Ext.cell2 Ext.frozen2
attribute [local irreducible] wpQuiet

set_option maxRecDepth 1000000 in
set_option maxHeartbeats 4000000 in
theorem sc_yes {w : World} {S lo lc N : Nat} {f : Nat → Nat} {p q : Option Addr} {z zo : Zn} {yl t : Int} {a : Act} {w1 : World} (hB : NBk w N S lo lc f p q z zo) (hW : NW w N t p w1) (b0 : -3000000000000000 ≤ t) (b1 : t ≤ 30000000000000) {ad : Bool} (hm : (f 0).testBit (sc z t) = true) (Q : Exit → Act → World → Prop)
    (hgo : ∀ a w2, NFr S N lo lc ad yl a → NW w N t p w2 → Q (.exit 8) a w2) (hfr : NFr S N lo lc ad yl a) : (nxBody 4).wp Tryz.prog Q a w1 := by
  have hB1 := hW.base hB
  have hbnd := (nums hB1.hz t b0 b1).s1
  have HM := Lib.hid (fun (x : Ext w1) => calls_ext (x := x) (second_any (hB1.tp.ext x) hB1.hz 0 t (by decide) (by decide) b0 b1))
  have hbit := Lib.hid (bit_zero (sc z t) (f 0) (by omega) (hB1.sc.bd 0 (by decide)))
  rw [hm] at hbit
  have sk := hB1.sc.c0
  have sl := hB1.sc.lt
  generalize sc z t = m at HM hbit
  have c0 := hW.c0; have c1 := hW.c1; have c2 := hW.c2
  have f0 := hW.f0; have f1 := hW.f1; have f2 := hW.f2
  have wl := hW.lt
  have wl0 : N < w1.heap.size := by omega
  have HW := Lib.hid hW
  have hG := Lib.hid hgo
  clear hgo hm hB1 hB b0 b1 hW hbnd
  cases hfr
  conv => arg 2; whnf
  go_wp2
  refine wp_region_ext (by kernel_rfl) (by kernel_rfl) ?_
  iterate 3 (quiet_step ((go_at_call 171; with_reducible exact HM.out _)))
  refine quiet_shl _ _ _ _ _ rfl (by rfl) rfl rfl ?_
  repeat (quiet_step (fail))
  refine wpQuiet_nil ?_
  rintro w2 ⟨x, rfl⟩
  rw [hbit.out]
  go_wp2
  refine hG.out _ _ ?_ (HW.out.ext x)
  constructor

set_option maxRecDepth 1000000 in
set_option maxHeartbeats 4000000 in
theorem sc_no1 {w : World} {S lo lc N : Nat} {f : Nat → Nat} {p q : Option Addr} {z zo : Zn} {yl t t2 : Int} {a : Act} {w1 : World} (hB : NBk w N S lo lc f p q z zo) (hW : NW w N t p w1) (b0 : -3000000000000000 ≤ t) (b1 : t ≤ 30000000000000) (e0 : -3000000000000000 ≤ t2) (e1 : t2 ≤ 30000000000000) (hm : (f 0).testBit (sc z t) = false)
    (hA : ∀ W : World, Tpl W p z → Calls Tryz.prog 162 #[tv 0 (t + 62135596800) p, .int .i64 1000000000] W fun e w' => e = .returned (tv 0 (t2 + 62135596800) p) ∧ ∃ y : Ext W, w' = y.now) (Q : Exit → Act → World → Prop)
    (hgo : ∀ a w2, NFr S N lo lc true yl a → NW w N t2 p w2 → Q (if sc z t2 = 0 then .goto 0 else .normal) a w2) (hfr : NFr S N lo lc true yl a) : (nxBody 4).wp Tryz.prog Q a w1 := by
  have hB1 := hW.base hB
  have hbnd := (nums hB1.hz t b0 b1).s1
  have HM := Lib.hid (fun (x : Ext w1) => calls_ext (x := x) (second_any (hB1.tp.ext x) hB1.hz 0 t (by decide) (by decide) b0 b1))
  have hbit := Lib.hid (bit_zero (sc z t) (f 0) (by omega) (hB1.sc.bd 0 (by decide)))
  rw [hm] at hbit
  have sk := hB1.sc.c0
  have sl := hB1.sc.lt
  generalize sc z t = m at HM hbit
  have c0 := hW.c0; have c1 := hW.c1; have c2 := hW.c2
  have f0 := hW.f0; have f1 := hW.f1; have f2 := hW.f2
  have wl := hW.lt
  have wl0 : N < w1.heap.size := by omega
  have HW := Lib.hid hW
  have HA := Lib.hid (fun (x : Ext w1) => calls_ext (x := x) (hA x.now (hB1.tp.ext x)))
  have HE := Lib.hid (fun (W : World) (h : NW w N t2 p W) => second_any (h.base hB).tp hB1.hz 0 t2 (by decide) (by decide) e0 e1)
  generalize sc z t2 = k at *
  have hG := Lib.hid hgo
  clear hgo hm hB1 hB b0 b1 e0 e1 hW hA hbnd
  cases hfr
  conv => arg 2; whnf
  go_wp2
  refine wp_region_ext (by kernel_rfl) (by kernel_rfl) ?_
  iterate 3 (quiet_step ((go_at_call 171; with_reducible exact HM.out _)))
  refine quiet_shl _ _ _ _ _ rfl (by rfl) rfl rfl ?_
  repeat (quiet_step (fail))
  refine wpQuiet_nil ?_
  rintro w2 ⟨x, rfl⟩
  rw [hbit.out]
  by_cases hk : k = 0
  · rw [if_pos hk] at hG
    subst hk
    go_wp2_with (first
      | (go_at_call 162; (with_reducible refine (HA.out _).mono ?_); rintro e w2 ⟨rfl, x2, rfl⟩)
      | (go_at_call 171; (with_reducible refine (HE.out _ ((HW.out.ext x2).put t2)).mono ?_); rintro e w2 ⟨rfl, x3, rfl⟩))
    refine wp_goto ?_
    show Q (.goto 0) _ _
    refine hG.out _ _ ?_ (((HW.out.ext x2).put t2).ext x3)
    constructor
  · rw [if_neg hk] at hG
    have hk2 : ¬ (k : Int) = 0 := by omega
    go_wp2_with (first
      | (go_at_call 162; (with_reducible refine (HA.out _).mono ?_); rintro e w2 ⟨rfl, x2, rfl⟩)
      | (go_at_call 171; (with_reducible refine (HE.out _ ((HW.out.ext x2).put t2)).mono ?_); rintro e w2 ⟨rfl, x3, rfl⟩))
    refine hG.out _ _ ?_ (((HW.out.ext x2).put t2).ext x3)
    constructor

set_option maxRecDepth 1000000 in
set_option maxHeartbeats 4000000 in
theorem sc_no0 {w : World} {S lo lc N : Nat} {f : Nat → Nat} {p q : Option Addr} {z zo : Zn} {yl t t1 t2 : Int} {a : Act} {w1 : World} (hB : NBk w N S lo lc f p q z zo) (hW : NW w N t p w1) (b0 : -3000000000000000 ≤ t) (b1 : t ≤ 30000000000000) (d0 : -3000000000000000 ≤ t1) (d1 : t1 ≤ 30000000000000) (e0 : -3000000000000000 ≤ t2) (e1 : t2 ≤ 30000000000000) (hm : (f 0).testBit (sc z t) = false)
    (hD : ∀ W : World, Calls Tryz.prog 170 #[tv 0 (t + 62135596800) p, .int .i64 1000000000] W fun e w' => e = .returned (tv 0 (t1 + 62135596800) p) ∧ ∃ y : Ext W, w' = y.now)
    (hA : ∀ W : World, Tpl W p z → Calls Tryz.prog 162 #[tv 0 (t1 + 62135596800) p, .int .i64 1000000000] W fun e w' => e = .returned (tv 0 (t2 + 62135596800) p) ∧ ∃ y : Ext W, w' = y.now) (Q : Exit → Act → World → Prop)
    (hgo : ∀ a w2, NFr S N lo lc true yl a → NW w N t2 p w2 → Q (if sc z t2 = 0 then .goto 0 else .normal) a w2) (hfr : NFr S N lo lc false yl a) : (nxBody 4).wp Tryz.prog Q a w1 := by
  have hB1 := hW.base hB
  have hbnd := (nums hB1.hz t b0 b1).s1
  have HM := Lib.hid (fun (x : Ext w1) => calls_ext (x := x) (second_any (hB1.tp.ext x) hB1.hz 0 t (by decide) (by decide) b0 b1))
  have hbit := Lib.hid (bit_zero (sc z t) (f 0) (by omega) (hB1.sc.bd 0 (by decide)))
  rw [hm] at hbit
  have sk := hB1.sc.c0
  have sl := hB1.sc.lt
  have c0 := hW.c0; have c1 := hW.c1; have c2 := hW.c2
  have f0 := hW.f0; have f1 := hW.f1; have f2 := hW.f2
  have wl := hW.lt
  have wl0 : N < w1.heap.size := by omega
  have HW := Lib.hid hW
  have HD := Lib.hid (fun (x : Ext w1) => calls_ext (x := x) (hD x.now))
  have HA := Lib.hid (fun (W : World) (h : NW w N t1 p W) => hA W (h.base hB).tp)
  have HE := Lib.hid (fun (W : World) (h : NW w N t2 p W) => second_any (h.base hB).tp hB1.hz 0 t2 (by decide) (by decide) e0 e1)
  generalize sc z t2 = k at *
  generalize sc z t = m at *
  have hG := Lib.hid hgo
  clear hgo hm hB1 hB b0 b1 d0 d1 e0 e1 hW hA hD hbnd
  cases hfr
  conv => arg 2; whnf
  go_wp2
  refine wp_region_ext (by kernel_rfl) (by kernel_rfl) ?_
  iterate 3 (quiet_step ((go_at_call 171; with_reducible exact HM.out _)))
  refine quiet_shl _ _ _ _ _ rfl (by rfl) rfl rfl ?_
  repeat (quiet_step (fail))
  refine wpQuiet_nil ?_
  rintro w2 ⟨x, rfl⟩
  rw [hbit.out]
  by_cases hk : k = 0
  · rw [if_pos hk] at hG
    subst hk
    go_wp2_with (first
      | (go_at_call 170; (with_reducible refine (HD.out _).mono ?_); rintro e w2 ⟨rfl, x0, rfl⟩)
      | (go_at_call 162; have hN1 := (HW.out.ext x0).put t1; generalize (((x0.now.setCell ⟨N, 0, none⟩ (.int .u64 0)).setCell ⟨N, 1, none⟩ (.int .i64 (t1 + 62135596800))).setCell ⟨N, 2, none⟩ (.pointer p)) = W1 at hN1 ⊢; have k0 := hN1.c0; have k1 := hN1.c1; have k2 := hN1.c2; have j0 := hN1.f0; have j1 := hN1.f1; have j2 := hN1.f2; have kl0 := hN1.lt0; clear c0 c1 c2 f0 f1 f2; have HN1 := Lib.hid hN1; (with_reducible refine (HA.out _ hN1).mono ?_); clear hN1; rintro e w2 ⟨rfl, x2, rfl⟩)
      | (go_at_call 171; (with_reducible refine (HE.out _ ((HN1.out.ext x2).put t2)).mono ?_); rintro e w2 ⟨rfl, x3, rfl⟩))
    refine wp_goto ?_
    show Q (.goto 0) _ _
    refine hG.out _ _ ?_ (((HN1.out.ext x2).put t2).ext x3)
    constructor
  · rw [if_neg hk] at hG
    have hk2 : ¬ (k : Int) = 0 := by omega
    go_wp2_with (first
      | (go_at_call 170; (with_reducible refine (HD.out _).mono ?_); rintro e w2 ⟨rfl, x0, rfl⟩)
      | (go_at_call 162; have hN1 := (HW.out.ext x0).put t1; generalize (((x0.now.setCell ⟨N, 0, none⟩ (.int .u64 0)).setCell ⟨N, 1, none⟩ (.int .i64 (t1 + 62135596800))).setCell ⟨N, 2, none⟩ (.pointer p)) = W1 at hN1 ⊢; have k0 := hN1.c0; have k1 := hN1.c1; have k2 := hN1.c2; have j0 := hN1.f0; have j1 := hN1.f1; have j2 := hN1.f2; have kl0 := hN1.lt0; clear c0 c1 c2 f0 f1 f2; have HN1 := Lib.hid hN1; (with_reducible refine (HA.out _ hN1).mono ?_); clear hN1; rintro e w2 ⟨rfl, x2, rfl⟩)
      | (go_at_call 171; (with_reducible refine (HE.out _ ((HN1.out.ext x2).put t2)).mono ?_); rintro e w2 ⟨rfl, x3, rfl⟩))
    refine hG.out _ _ ?_ (((HN1.out.ext x2).put t2).ext x3)
    constructor

end Go.Proofs.YtopcjlimjkfoiaaGreatDoor
namespace Go.Cal

theorem Par.Run.bds {p : Par} {B : Int} {k : Nat} {s : St} {r : Option Int} (h : p.Run B k s r) : -2000000000000000 ≤ s.t ∧ s.t ≤ B := by
  cases h with
  | fin lo hi h => exact ⟨lo, hi⟩
  | on lo hi x h e => exact ⟨lo, hi⟩

theorem Par.Run.at_wr {p : Par} {B : Int} {k : Nat} {t : Int} {ad : Bool} {r : Option Int} (h : p.Run B k ⟨.wr, t, ad⟩ r) :
    (p.lim < yr p.z t ∧ r = none) ∨ (¬ p.lim < yr p.z t ∧ ∃ k', k = k' + 1 ∧ p.Run B k' ⟨.mo, t, ad⟩ r) := by
  by_cases c : p.lim < yr p.z t
  · have e : p.step ⟨.wr, t, ad⟩ = .inr none := by unfold Par.step; simp only [if_pos c]
    cases h with
    | fin lo hi h => rw [e] at h; exact .inl ⟨c, by cases h; rfl⟩
    | on lo hi x h e2 => rw [e] at h; cases h
  · have e : p.step ⟨.wr, t, ad⟩ = .inl ⟨.mo, t, ad⟩ := by unfold Par.step; simp only [if_neg c]
    cases h with
    | fin lo hi h => rw [e] at h; cases h
    | on lo hi x h e2 => rw [e] at h; cases h; exact .inr ⟨c, _, rfl, e2⟩

theorem Par.Run.at_mo {p : Par} {B : Int} {k : Nat} {t : Int} {ad : Bool} {r : Option Int} (h : p.Run B k ⟨.mo, t, ad⟩ r) :
    ∃ k', k = k' + 1 ∧ ((p.hMo (mo p.z t) = true ∧ p.Run B k' ⟨.dy, t, ad⟩ r) ∨ (p.hMo (mo p.z t) = false ∧ ∃ t2, t2 = p.addMonth (if ad then t else p.first t) ∧ p.Run B k' ⟨if mo p.z t2 = 1 then .wr else .mo, t2, true⟩ r)) := by
  cases c : p.hMo (mo p.z t) with
  | true =>
    have e : p.step ⟨.mo, t, ad⟩ = .inl ⟨.dy, t, ad⟩ := by unfold Par.step; simp only [c, if_true]
    cases h with
    | fin lo hi h => rw [e] at h; cases h
    | on lo hi x h e2 => rw [e] at h; cases h; exact ⟨_, rfl, .inl ⟨rfl, e2⟩⟩
  | false =>
    have e : p.step ⟨.mo, t, ad⟩ = .inl ⟨if mo p.z (p.addMonth (if ad then t else p.first t)) = 1 then .wr else .mo, p.addMonth (if ad then t else p.first t), true⟩ := by unfold Par.step; simp only [c]; rfl
    cases h with
    | fin lo hi h => rw [e] at h; cases h
    | on lo hi x h e2 => rw [e] at h; cases h; exact ⟨_, rfl, .inr ⟨rfl, _, rfl, e2⟩⟩

theorem Par.Run.at_dy {p : Par} {B : Int} {k : Nat} {t : Int} {ad : Bool} {r : Option Int} (h : p.Run B k ⟨.dy, t, ad⟩ r) :
    ∃ k', k = k' + 1 ∧ ((p.hDy (dy p.z t) (wd p.z t) = true ∧ p.Run B k' ⟨.hr, t, ad⟩ r) ∨ (p.hDy (dy p.z t) (wd p.z t) = false ∧ ∃ t2, t2 = p.addDay (if ad then t else p.mid t) ∧ hr p.z t2 = 0 ∧ p.Run B k' ⟨if dy p.z t2 = 1 then .wr else .dy, t2, true⟩ r)) := by
  cases c : p.hDy (dy p.z t) (wd p.z t) with
  | true =>
    have e : p.step ⟨.dy, t, ad⟩ = .inl ⟨.hr, t, ad⟩ := by unfold Par.step; simp only [c, if_true]
    cases h with
    | fin lo hi h => rw [e] at h; cases h
    | on lo hi x h e2 => rw [e] at h; cases h; exact ⟨_, rfl, .inl ⟨rfl, e2⟩⟩
  | false =>
    have e : p.step ⟨.dy, t, ad⟩ = .inl ⟨if dy p.z (p.addDay (if ad then t else p.mid t)) = 1 then .wr else .dy, p.addDay (if ad then t else p.mid t), true⟩ := by unfold Par.step; simp only [c]; rfl
    cases h with
    | fin lo hi h => rw [e] at h; cases h
    | on lo hi x h e2 => rw [e] at h; cases h; exact ⟨_, rfl, .inr ⟨rfl, _, rfl, x c, e2⟩⟩

theorem Par.Run.at_hr {p : Par} {B : Int} {k : Nat} {t : Int} {ad : Bool} {r : Option Int} (h : p.Run B k ⟨.hr, t, ad⟩ r) :
    ∃ k', k = k' + 1 ∧ ((p.hHr (hr p.z t) = true ∧ p.Run B k' ⟨.mi, t, ad⟩ r) ∨ (p.hHr (hr p.z t) = false ∧ ∃ t2, t2 = (if ad then t else p.hour t) + 3600 ∧ p.Run B k' ⟨if Cal.hr p.z t2 = 0 then .wr else .hr, t2, true⟩ r)) := by
  cases c : p.hHr (Cal.hr p.z t) with
  | true =>
    have e : p.step ⟨.hr, t, ad⟩ = .inl ⟨.mi, t, ad⟩ := by unfold Par.step; simp only [c, if_true]
    cases h with
    | fin lo hi h => rw [e] at h; cases h
    | on lo hi x h e2 => rw [e] at h; cases h; exact ⟨_, rfl, .inl ⟨rfl, e2⟩⟩
  | false =>
    have e : p.step ⟨.hr, t, ad⟩ = .inl ⟨if Cal.hr p.z ((if ad then t else p.hour t) + 3600) = 0 then .wr else .hr, (if ad then t else p.hour t) + 3600, true⟩ := by unfold Par.step; simp only [c]; rfl
    cases h with
    | fin lo hi h => rw [e] at h; cases h
    | on lo hi x h e2 => rw [e] at h; cases h; exact ⟨_, rfl, .inr ⟨rfl, _, rfl, e2⟩⟩

theorem Par.Run.at_mi {p : Par} {B : Int} {k : Nat} {t : Int} {ad : Bool} {r : Option Int} (h : p.Run B k ⟨.mi, t, ad⟩ r) :
    ∃ k', k = k' + 1 ∧ ((p.hMi (mi p.z t) = true ∧ p.Run B k' ⟨.sc, t, ad⟩ r) ∨ (p.hMi (mi p.z t) = false ∧ ∃ t2, t2 = (if ad then t else t - t % 60) + 60 ∧ p.Run B k' ⟨if Cal.mi p.z t2 = 0 then .wr else .mi, t2, true⟩ r)) := by
  cases c : p.hMi (Cal.mi p.z t) with
  | true =>
    have e : p.step ⟨.mi, t, ad⟩ = .inl ⟨.sc, t, ad⟩ := by unfold Par.step; simp only [c, if_true]
    cases h with
    | fin lo hi h => rw [e] at h; cases h
    | on lo hi x h e2 => rw [e] at h; cases h; exact ⟨_, rfl, .inl ⟨rfl, e2⟩⟩
  | false =>
    have e : p.step ⟨.mi, t, ad⟩ = .inl ⟨if Cal.mi p.z ((if ad then t else t - t % 60) + 60) = 0 then .wr else .mi, (if ad then t else t - t % 60) + 60, true⟩ := by unfold Par.step; simp only [c]; rfl
    cases h with
    | fin lo hi h => rw [e] at h; cases h
    | on lo hi x h e2 => rw [e] at h; cases h; exact ⟨_, rfl, .inr ⟨rfl, _, rfl, e2⟩⟩

theorem Par.Run.at_sc {p : Par} {B : Int} {k : Nat} {t : Int} {ad : Bool} {r : Option Int} (h : p.Run B k ⟨.sc, t, ad⟩ r) :
    (p.hSc (sc p.z t) = true ∧ r = some t) ∨ (p.hSc (sc p.z t) = false ∧ ∃ k' t2, k = k' + 1 ∧ t2 = t + 1 ∧ p.Run B k' ⟨if Cal.sc p.z t2 = 0 then .wr else .sc, t2, true⟩ r) := by
  cases c : p.hSc (Cal.sc p.z t) with
  | true =>
    have e : p.step ⟨.sc, t, ad⟩ = .inr (some t) := by unfold Par.step; simp only [c, if_true]
    cases h with
    | fin lo hi h => rw [e] at h; cases h; exact .inl ⟨rfl, rfl⟩
    | on lo hi x h e2 => rw [e] at h; cases h
  | false =>
    have e : p.step ⟨.sc, t, ad⟩ = .inl ⟨if Cal.sc p.z (t + 1) = 0 then .wr else .sc, t + 1, true⟩ := by unfold Par.step; simp only [c]; rfl
    cases h with
    | fin lo hi h => rw [e] at h; cases h
    | on lo hi x h e2 => rw [e] at h; cases h; exact .inr ⟨rfl, _, _, rfl, rfl, e2⟩

end Go.Cal
namespace Go.Proofs.YtopcjlimjkfoiaaGreatDoor
open Go.RowKit Go.Cal

def nxPar (z : Zn) (lim : Nat) (f : Nat → Nat) : Par :=
  ⟨z, lim, fun m => (f 4).testBit m, dayOk f, fun h => (f 2).testBit h, fun i => (f 1).testBit i, fun s => (f 0).testBit s⟩

theorem day_parts {z : Zn} (hp : Plain z) (t : Int) (b0 : -3000000000000000 ≤ t) (b1 : t ≤ 30000000000000) :
    86400 * (((firstD (yr z t) (mo z t) : Nat) : Int) + ((dy z t : Nat) - 1)) + sod z t - C0 = z.loc t := by
  obtain ⟨A, D, q⟩ := shw hp t b0 b1
  have hf := first_day D
  have ey : yr z t = yearD D := by unfold yr; rw [q.day]
  have em : mo z t = monD D := by unfold mo; rw [q.day]
  have ed : dy z t = dayD D := by unfold dy; rw [q.day]
  have hd1 : 1 ≤ dayD D := by unfold dayD; omega
  have := q.a; have := q.d; have := q.so; have := q.d0
  rw [ey, em, ed]
  omega

section
variable {z : Zn} (hp : Plain z) (lim : Nat) (f : Nat → Nat) (t : Int) (b0 : -2000000000000000 ≤ t) (b1 : t ≤ 20000000000000)
include hp b0 b1

theorem first_bd : -2000000100000000 ≤ (nxPar z lim f).first t ∧ (nxPar z lim f).first t ≤ 20000000200000 := by
  have h := day_parts hp t (by omega) (by omega)
  have q := nums hp t (by omega) (by omega)
  have l := hp.bd' t
  have e : z.loc t = t + z.off t := rfl
  have := find_bd hp (86400 * ((firstD (yr z t) (mo z t) : Nat) : Int) + 0 - C0)
  have e2 : (nxPar z lim f).first t = z.find (86400 * ((firstD (yr z t) (mo z t) : Nat) : Int) + 0 - C0) := rfl
  have := q.d0; have := q.d1; have := q.so; have := q.h1; have := q.i1; have := q.s1
  omega

theorem mid_bd : -2000000100000000 ≤ (nxPar z lim f).mid t ∧ (nxPar z lim f).mid t ≤ 20000000200000 := by
  have h := day_parts hp t (by omega) (by omega)
  have q := nums hp t (by omega) (by omega)
  have l := hp.bd' t
  have e : z.loc t = t + z.off t := rfl
  have := find_bd hp (86400 * (((firstD (yr z t) (mo z t) : Nat) : Int) + ((dy z t - 1 : Nat) : Int)) + 0 - C0)
  have e2 : (nxPar z lim f).mid t = z.find (86400 * (((firstD (yr z t) (mo z t) : Nat) : Int) + ((dy z t - 1 : Nat) : Int)) + 0 - C0) := rfl
  have := q.d0; have := q.d1; have := q.so; have := q.h1; have := q.i1; have := q.s1
  omega

theorem hour_bd : -2000000100000000 ≤ (nxPar z lim f).hour t ∧ (nxPar z lim f).hour t ≤ 20000000200000 := by
  have h := day_parts hp t (by omega) (by omega)
  have q := nums hp t (by omega) (by omega)
  have l := hp.bd' t
  have e : z.loc t = t + z.off t := rfl
  have := find_bd hp (86400 * (((firstD (yr z t) (mo z t) : Nat) : Int) + ((dy z t - 1 : Nat) : Int)) + 3600 * (sod z t / 3600) - C0)
  have e2 : (nxPar z lim f).hour t = z.find (86400 * (((firstD (yr z t) (mo z t) : Nat) : Int) + ((dy z t - 1 : Nat) : Int)) + 3600 * (sod z t / 3600) - C0) := rfl
  have := q.d0; have := q.d1; have := q.so; have := q.h1; have := q.i1; have := q.s1
  omega

theorem first_date {W : World} {l : Nat} {p : Option Addr} (h : Lpl W l p z) :
    Calls Tryz.prog 165 #[.int .i64 ((yr z t : Nat) - 292277022400), .int .i64 (mo z t : Nat), .int .i64 1, .int .i64 0, .int .i64 0, .int .i64 0, .int .i64 0, .pointer (some ⟨l, 0, none⟩)] W fun e w' => e = .returned (tv 0 ((nxPar z lim f).first t + 62135596800) p) ∧ ∃ y : Ext W, w' = y.now := by
  have hd := day_parts hp t (by omega) (by omega)
  have q := nums hp t (by omega) (by omega)
  have lb := hp.bd' t
  have e : z.loc t = t + z.off t := rfl
  have := q.d0; have := q.d1; have := q.so; have := q.h1; have := q.i1; have := q.s1; have := q.y0; have := q.y1; have := q.m0; have := q.m1
  refine date_ym h hp _ _ _ _ 1 0 0 0 0 (86400 * ((firstD (yr z t) (mo z t) : Nat) : Int) + 0 - C0) (norm_same _ _ (by omega) (by omega) (by omega)) (by omega) (by omega) (by omega) (by omega) (by omega) (by omega) (by decide) (by decide) (by decide) (by decide) (by decide) (by decide) (by decide) (by decide) (by decide) (by decide) (by omega) (by omega) (by omega)

theorem mid_date {W : World} {l : Nat} {p : Option Addr} (h : Lpl W l p z) :
    Calls Tryz.prog 165 #[.int .i64 ((yr z t : Nat) - 292277022400), .int .i64 (mo z t : Nat), .int .i64 (dy z t : Nat), .int .i64 0, .int .i64 0, .int .i64 0, .int .i64 0, .pointer (some ⟨l, 0, none⟩)] W fun e w' => e = .returned (tv 0 ((nxPar z lim f).mid t + 62135596800) p) ∧ ∃ y : Ext W, w' = y.now := by
  have hd := day_parts hp t (by omega) (by omega)
  have q := nums hp t (by omega) (by omega)
  have lb := hp.bd' t
  have e : z.loc t = t + z.off t := rfl
  have := q.d0; have := q.d1; have := q.so; have := q.h1; have := q.i1; have := q.s1; have := q.y0; have := q.y1; have := q.m0; have := q.m1
  refine date_ym h hp _ _ _ _ _ 0 0 0 0 (86400 * (((firstD (yr z t) (mo z t) : Nat) : Int) + ((dy z t - 1 : Nat) : Int)) + 0 - C0) (norm_same _ _ (by omega) (by omega) (by omega)) (by omega) (by omega) (by omega) (by omega) (by omega) (by omega) (by omega) (by omega) (by decide) (by decide) (by decide) (by decide) (by decide) (by decide) (by decide) (by decide) (by omega) (by omega) (by omega)

theorem hour_date {W : World} {l : Nat} {p : Option Addr} (h : Lpl W l p z) :
    Calls Tryz.prog 165 #[.int .i64 ((yr z t : Nat) - 292277022400), .int .i64 (mo z t : Nat), .int .i64 (dy z t : Nat), .int .i64 (hr z t : Nat), .int .i64 0, .int .i64 0, .int .i64 0, .pointer (some ⟨l, 0, none⟩)] W fun e w' => e = .returned (tv 0 ((nxPar z lim f).hour t + 62135596800) p) ∧ ∃ y : Ext W, w' = y.now := by
  have hd := day_parts hp t (by omega) (by omega)
  have q := nums hp t (by omega) (by omega)
  have lb := hp.bd' t
  have e : z.loc t = t + z.off t := rfl
  have := q.d0; have := q.d1; have := q.so; have := q.h1; have := q.i1; have := q.s1; have := q.y0; have := q.y1; have := q.m0; have := q.m1
  have e3 : sod z t / 3600 = (hr z t : Int) := by omega
  refine date_ym h hp _ _ _ _ _ _ 0 0 0 (86400 * (((firstD (yr z t) (mo z t) : Nat) : Int) + ((dy z t - 1 : Nat) : Int)) + 3600 * (sod z t / 3600) - C0) (norm_same _ _ (by omega) (by omega) (by omega)) (by omega) (by omega) (by omega) (by omega) (by omega) (by omega) (by omega) (by omega) (by omega) (by omega) (by decide) (by decide) (by decide) (by decide) (by decide) (by decide) (by omega) (by omega) (by omega)

omit b0 b1 in
theorem addMonth_code (b0 : -2500000000000000 ≤ t) (b1 : t ≤ 25000000000000) {W : World} {p : Option Addr} (h : Tpl W p z) (t2 : Int) (e2 : t2 = (nxPar z lim f).addMonth t) (c0 : -2000000000000000 ≤ t2) (c1 : t2 ≤ 20000000000000) :
    Calls Tryz.prog 166 #[tv 0 (t + 62135596800) p, .int .i64 0, .int .i64 1, .int .i64 0] W fun e w' => e = .returned (tv 0 (t2 + 62135596800) p) ∧ ∃ y : Ext W, w' = y.now := by
  have q := nums hp t (by omega) (by omega)
  have := q.d0
  obtain ⟨T, hT⟩ : ∃ T, T = 86400 * (((firstD (nextY (yr z t) (mo z t)) (nextM (mo z t)) : Nat) : Int) + ((dy z t - 1 : Nat) : Int)) + sod z t - C0 := ⟨_, rfl⟩
  have e : t2 = z.find T := by rw [e2, hT]; rfl
  have := find_bd hp T
  rw [e]
  exact addDate_any h hp t 1 0 T _ _ (by omega) (by omega) (.inr ⟨rfl, rfl, rfl, rfl⟩) (by rw [hT]; omega) (by omega) (by omega)

omit b0 b1 in
theorem addDay_code (b0 : -2500000000000000 ≤ t) (b1 : t ≤ 25000000000000) {W : World} {p : Option Addr} (h : Tpl W p z) (t2 : Int) (e2 : t2 = (nxPar z lim f).addDay t) (c0 : -2000000000000000 ≤ t2) (c1 : t2 ≤ 20000000000000) :
    Calls Tryz.prog 166 #[tv 0 (t + 62135596800) p, .int .i64 0, .int .i64 0, .int .i64 1] W fun e w' => e = .returned (tv 0 (t2 + 62135596800) p) ∧ ∃ y : Ext W, w' = y.now := by
  obtain ⟨T, hT⟩ : ∃ T, T = 86400 * (((firstD (yr z t) (mo z t) : Nat) : Int) + ((dy z t : Nat) : Int)) + sod z t - C0 := ⟨_, rfl⟩
  have e : t2 = z.find T := by rw [e2, hT]; rfl
  have := find_bd hp T
  rw [e]
  exact addDate_any h hp t 0 1 T _ _ (by omega) (by omega) (.inl ⟨rfl, rfl, rfl, rfl⟩) (by rw [hT]; omega) (by omega) (by omega)
end

theorem add_code (t q d t2 : Int) (p : Option Addr) (W : World) (b0 : -2500000000000000 ≤ t) (b1 : t ≤ 25000000000000) (hd : q * 1000000000 = d) (q0 : 0 ≤ q) (q1 : q ≤ 3600) (e2 : t2 = t + q) :
    Calls Tryz.prog 162 #[tv 0 (t + 62135596800) p, .int .i64 d] W fun e w' => e = .returned (tv 0 (t2 + 62135596800) p) ∧ ∃ y : Ext W, w' = y.now := by
  have := add_sec (t + 62135596800) q p W (by omega) (by omega) (by omega) (by omega)
  rw [hd, show t + 62135596800 + q = t2 + 62135596800 by omega] at this
  exact this

theorem trunc_60 (t t1 : Int) (p : Option Addr) (W : World) (b0 : -62135596800 ≤ t) (b1 : t ≤ 25000000000000) (e1 : t1 = t - t % 60) :
    Calls Tryz.prog 170 #[tv 0 (t + 62135596800) p, .int .i64 60000000000] W fun e w' => e = .returned (tv 0 (t1 + 62135596800) p) ∧ ∃ y : Ext W, w' = y.now := by
  have := truncate_60 (t + 62135596800) p W (by omega) (by omega)
  rw [show t + 62135596800 - (t + 62135596800) % 60 = t1 + 62135596800 by omega] at this
  exact this

theorem trunc_1 (t : Int) (p : Option Addr) (W : World) (b0 : -62135596800 ≤ t) (b1 : t ≤ 25000000000000) :
    Calls Tryz.prog 170 #[tv 0 (t + 62135596800) p, .int .i64 1000000000] W fun e w' => e = .returned (tv 0 (t + 62135596800) p) ∧ ∃ y : Ext W, w' = y.now := by
  have := truncate_1 (t + 62135596800) p W (by omega) (by omega)
  rw [show t + 62135596800 - (t + 62135596800) % 1 = t + 62135596800 by omega] at this
  exact this

end Go.Proofs.YtopcjlimjkfoiaaGreatDoor
namespace Go.Proofs.YtopcjlimjkfoiaaGreatDoor
open Go.RowKit Go.Cal

section
variable {w : World} {S lo lc N : Nat} {f : Nat → Nat} {p q : Option Addr} {z zo : Zn} {yl t0 Bd : Int} {lim K : Nat} {r : Option Int} (hB : NBk w N S lo lc f p q z zo) (hBd : Bd ≤ 20000000000000) (ht0 : -62135596800 ≤ t0)
include hB hBd ht0

set_option maxRecDepth 1000000 in
theorem mo_loop (Q : Exit → Act → World → Prop) (hx : ∀ k t ad a w2, k < K → (nxPar z lim f).Run Bd k ⟨.dy, t, ad⟩ r → (ad = false → t = t0) → NFr S N lo lc ad yl a → NW w N t p w2 → Q (.exit 0) a w2)
    (hw : ∀ k t a w2, k < K → (nxPar z lim f).Run Bd k ⟨.wr, t, true⟩ r → NFr S N lo lc true yl a → NW w N t p w2 → Q (.goto 0) a w2)
    {k : Nat} {t : Int} {ad : Bool} {a : Act} {w1 : World} (hk : k < K) (hR : (nxPar z lim f).Run Bd k ⟨.mo, t, ad⟩ r) (had : ad = false → t = t0) (hf : NFr S N lo lc ad yl a) (hW : NW w N t p w1) : (Code.loop (nxBody 0)).wp Tryz.prog Q a w1 := by
  refine wp_loop_nat (fun k a w1 => k < K ∧ ∃ t ad, (nxPar z lim f).Run Bd k ⟨.mo, t, ad⟩ r ∧ (ad = false → t = t0) ∧ NFr S N lo lc ad yl a ∧ NW w N t p w1) k ⟨hk, t, ad, hR, had, hf, hW⟩ ?_
  clear hk hR had hf hW
  rintro k a w1 ⟨hk, t, ad, hR, had, hf, hW⟩
  have hb := hR.bds
  simp only at hb
  obtain ⟨k', rfl, ⟨h1, h2⟩ | ⟨h1, t2, e2, h3⟩⟩ := hR.at_mo
  · exact mo_yes hB hW (by omega) (by omega) h1 _ (fun a w2 hf hW => hx k' t ad a w2 (by omega) h2 had hf hW) hf
  · rw [show (nxPar z lim f).z = z from rfl] at h3
    have hb2 := h3.bds
    simp only at hb2
    cases ad with
    | true =>
      exact mo_no1 hB hW (by omega) (by omega) (by omega) (by omega) h1 (fun W h => addMonth_code hB.hz lim f t (by omega) (by omega) h t2 e2 hb2.1 (by omega)) _ (fun a w2 hf hW => by
        by_cases c : mo z t2 = 1
        · rw [if_pos c] at h3 ⊢
          exact hw k' t2 a w2 (by omega) h3 hf hW
        · rw [if_neg c] at h3 ⊢
          exact ⟨k', by omega, by omega, t2, true, h3, fun q => Bool.noConfusion q, hf, hW⟩) hf
    | false =>
      obtain rfl := had rfl
      have hb1 := first_bd hB.hz lim f t hb.1 (by omega)
      exact mo_no0 (t1 := (nxPar z lim f).first t) hB hW (by omega) (by omega) (by omega) (by omega) (by omega) (by omega) h1 (fun W h => first_date hB.hz lim f t hb.1 (by omega) h.lp) (fun W h => addMonth_code hB.hz lim f _ (by omega) (by omega) h t2 e2 hb2.1 (by omega)) _ (fun a w2 hf hW => by
        by_cases c : mo z t2 = 1
        · rw [if_pos c] at h3 ⊢
          exact hw k' t2 a w2 (by omega) h3 hf hW
        · rw [if_neg c] at h3 ⊢
          exact ⟨k', by omega, by omega, t2, true, h3, fun q => Bool.noConfusion q, hf, hW⟩) hf

set_option maxRecDepth 1000000 in
theorem dy_loop (Q : Exit → Act → World → Prop) (hx : ∀ k t ad a w2, k < K → (nxPar z lim f).Run Bd k ⟨.hr, t, ad⟩ r → (ad = false → t = t0) → NFr S N lo lc ad yl a → NW w N t p w2 → Q (.exit 2) a w2)
    (hw : ∀ k t a w2, k < K → (nxPar z lim f).Run Bd k ⟨.wr, t, true⟩ r → NFr S N lo lc true yl a → NW w N t p w2 → Q (.goto 0) a w2)
    {k : Nat} {t : Int} {ad : Bool} {a : Act} {w1 : World} (hk : k < K) (hR : (nxPar z lim f).Run Bd k ⟨.dy, t, ad⟩ r) (had : ad = false → t = t0) (hf : NFr S N lo lc ad yl a) (hW : NW w N t p w1) : (Code.loop (nxBody 1)).wp Tryz.prog Q a w1 := by
  refine wp_loop_nat (fun k a w1 => k < K ∧ ∃ t ad, (nxPar z lim f).Run Bd k ⟨.dy, t, ad⟩ r ∧ (ad = false → t = t0) ∧ NFr S N lo lc ad yl a ∧ NW w N t p w1) k ⟨hk, t, ad, hR, had, hf, hW⟩ ?_
  clear hk hR had hf hW
  rintro k a w1 ⟨hk, t, ad, hR, had, hf, hW⟩
  have hb := hR.bds
  simp only at hb
  obtain ⟨k', rfl, ⟨h1, h2⟩ | ⟨h1, t2, e2, hh0, h3⟩⟩ := hR.at_dy
  · exact dy_yes hB hW (by omega) (by omega) h1 _ (fun a w2 hf hW => hx k' t ad a w2 (by omega) h2 had hf hW) hf
  · rw [show (nxPar z lim f).z = z from rfl] at h3
    have hb2 := h3.bds
    simp only at hb2
    cases ad with
    | true =>
      exact dy_no1 hB hW (by omega) (by omega) (by omega) (by omega) hh0 h1 (fun W h => addDay_code hB.hz lim f t (by omega) (by omega) h t2 e2 hb2.1 (by omega)) _ (fun a w2 hf hW => by
        by_cases c : dy z t2 = 1
        · rw [if_pos c] at h3 ⊢
          exact hw k' t2 a w2 (by omega) h3 hf hW
        · rw [if_neg c] at h3 ⊢
          exact ⟨k', by omega, by omega, t2, true, h3, fun q => Bool.noConfusion q, hf, hW⟩) hf
    | false =>
      obtain rfl := had rfl
      have hb1 := mid_bd hB.hz lim f t hb.1 (by omega)
      exact dy_no0 (t1 := (nxPar z lim f).mid t) hB hW (by omega) (by omega) (by omega) (by omega) (by omega) (by omega) hh0 h1 (fun W h => mid_date hB.hz lim f t hb.1 (by omega) h.lp) (fun W h => addDay_code hB.hz lim f _ (by omega) (by omega) h t2 e2 hb2.1 (by omega)) _ (fun a w2 hf hW => by
        by_cases c : dy z t2 = 1
        · rw [if_pos c] at h3 ⊢
          exact hw k' t2 a w2 (by omega) h3 hf hW
        · rw [if_neg c] at h3 ⊢
          exact ⟨k', by omega, by omega, t2, true, h3, fun q => Bool.noConfusion q, hf, hW⟩) hf

set_option maxRecDepth 1000000 in
theorem hr_loop (Q : Exit → Act → World → Prop) (hx : ∀ k t ad a w2, k < K → (nxPar z lim f).Run Bd k ⟨.mi, t, ad⟩ r → (ad = false → t = t0) → NFr S N lo lc ad yl a → NW w N t p w2 → Q (.exit 4) a w2)
    (hw : ∀ k t a w2, k < K → (nxPar z lim f).Run Bd k ⟨.wr, t, true⟩ r → NFr S N lo lc true yl a → NW w N t p w2 → Q (.goto 0) a w2)
    {k : Nat} {t : Int} {ad : Bool} {a : Act} {w1 : World} (hk : k < K) (hR : (nxPar z lim f).Run Bd k ⟨.hr, t, ad⟩ r) (had : ad = false → t = t0) (hf : NFr S N lo lc ad yl a) (hW : NW w N t p w1) : (Code.loop (nxBody 2)).wp Tryz.prog Q a w1 := by
  refine wp_loop_nat (fun k a w1 => k < K ∧ ∃ t ad, (nxPar z lim f).Run Bd k ⟨.hr, t, ad⟩ r ∧ (ad = false → t = t0) ∧ NFr S N lo lc ad yl a ∧ NW w N t p w1) k ⟨hk, t, ad, hR, had, hf, hW⟩ ?_
  clear hk hR had hf hW
  rintro k a w1 ⟨hk, t, ad, hR, had, hf, hW⟩
  have hb := hR.bds
  simp only at hb
  obtain ⟨k', rfl, ⟨h1, h2⟩ | ⟨h1, t2, e2, h3⟩⟩ := hR.at_hr
  · exact hr_yes hB hW (by omega) (by omega) h1 _ (fun a w2 hf hW => hx k' t ad a w2 (by omega) h2 had hf hW) hf
  · rw [show (nxPar z lim f).z = z from rfl] at h3
    have hb2 := h3.bds
    simp only at hb2
    cases ad with
    | true =>
      exact hr_no1 hB hW (by omega) (by omega) (by omega) (by omega) h1 (fun W _ => add_code t 3600 _ t2 p W (by omega) (by omega) (by decide) (by decide) (by decide) e2) _ (fun a w2 hf hW => by
        by_cases c : hr z t2 = 0
        · rw [if_pos c] at h3 ⊢
          exact hw k' t2 a w2 (by omega) h3 hf hW
        · rw [if_neg c] at h3 ⊢
          exact ⟨k', by omega, by omega, t2, true, h3, fun q => Bool.noConfusion q, hf, hW⟩) hf
    | false =>
      obtain rfl := had rfl
      have hb1 := hour_bd hB.hz lim f t hb.1 (by omega)
      exact hr_no0 (t1 := (nxPar z lim f).hour t) hB hW (by omega) (by omega) (by omega) (by omega) (by omega) (by omega) h1 (fun W h => hour_date hB.hz lim f t hb.1 (by omega) h.lp) (fun W _ => add_code _ 3600 _ t2 p W (by omega) (by omega) (by decide) (by decide) (by decide) e2) _ (fun a w2 hf hW => by
        by_cases c : hr z t2 = 0
        · rw [if_pos c] at h3 ⊢
          exact hw k' t2 a w2 (by omega) h3 hf hW
        · rw [if_neg c] at h3 ⊢
          exact ⟨k', by omega, by omega, t2, true, h3, fun q => Bool.noConfusion q, hf, hW⟩) hf

set_option maxRecDepth 1000000 in
theorem mi_loop (Q : Exit → Act → World → Prop) (hx : ∀ k t ad a w2, k < K → (nxPar z lim f).Run Bd k ⟨.sc, t, ad⟩ r → (ad = false → t = t0) → NFr S N lo lc ad yl a → NW w N t p w2 → Q (.exit 6) a w2)
    (hw : ∀ k t a w2, k < K → (nxPar z lim f).Run Bd k ⟨.wr, t, true⟩ r → NFr S N lo lc true yl a → NW w N t p w2 → Q (.goto 0) a w2)
    {k : Nat} {t : Int} {ad : Bool} {a : Act} {w1 : World} (hk : k < K) (hR : (nxPar z lim f).Run Bd k ⟨.mi, t, ad⟩ r) (had : ad = false → t = t0) (hf : NFr S N lo lc ad yl a) (hW : NW w N t p w1) : (Code.loop (nxBody 3)).wp Tryz.prog Q a w1 := by
  refine wp_loop_nat (fun k a w1 => k < K ∧ ∃ t ad, (nxPar z lim f).Run Bd k ⟨.mi, t, ad⟩ r ∧ (ad = false → t = t0) ∧ NFr S N lo lc ad yl a ∧ NW w N t p w1) k ⟨hk, t, ad, hR, had, hf, hW⟩ ?_
  clear hk hR had hf hW
  rintro k a w1 ⟨hk, t, ad, hR, had, hf, hW⟩
  have hb := hR.bds
  simp only at hb
  obtain ⟨k', rfl, ⟨h1, h2⟩ | ⟨h1, t2, e2, h3⟩⟩ := hR.at_mi
  · exact mi_yes hB hW (by omega) (by omega) h1 _ (fun a w2 hf hW => hx k' t ad a w2 (by omega) h2 had hf hW) hf
  · rw [show (nxPar z lim f).z = z from rfl] at h3
    have hb2 := h3.bds
    simp only at hb2
    cases ad with
    | true =>
      exact mi_no1 hB hW (by omega) (by omega) (by omega) (by omega) h1 (fun W _ => add_code t 60 _ t2 p W (by omega) (by omega) (by decide) (by decide) (by decide) e2) _ (fun a w2 hf hW => by
        by_cases c : mi z t2 = 0
        · rw [if_pos c] at h3 ⊢
          exact hw k' t2 a w2 (by omega) h3 hf hW
        · rw [if_neg c] at h3 ⊢
          exact ⟨k', by omega, by omega, t2, true, h3, fun q => Bool.noConfusion q, hf, hW⟩) hf
    | false =>
      obtain rfl := had rfl
      exact mi_no0 (t1 := (t - t % 60)) hB hW (by omega) (by omega) (by omega) (by omega) (by omega) (by omega) h1 (fun W => trunc_60 t _ p W (by omega) (by omega) rfl) (fun W _ => add_code _ 60 _ t2 p W (by omega) (by omega) (by decide) (by decide) (by decide) e2) _ (fun a w2 hf hW => by
        by_cases c : mi z t2 = 0
        · rw [if_pos c] at h3 ⊢
          exact hw k' t2 a w2 (by omega) h3 hf hW
        · rw [if_neg c] at h3 ⊢
          exact ⟨k', by omega, by omega, t2, true, h3, fun q => Bool.noConfusion q, hf, hW⟩) hf

set_option maxRecDepth 1000000 in
theorem sc_loop (Q : Exit → Act → World → Prop) (hx : ∀ t ad a w2, r = some t → NFr S N lo lc ad yl a → NW w N t p w2 → Q (.exit 8) a w2)
    (hw : ∀ k t a w2, k < K → (nxPar z lim f).Run Bd k ⟨.wr, t, true⟩ r → NFr S N lo lc true yl a → NW w N t p w2 → Q (.goto 0) a w2)
    {k : Nat} {t : Int} {ad : Bool} {a : Act} {w1 : World} (hk : k < K) (hR : (nxPar z lim f).Run Bd k ⟨.sc, t, ad⟩ r) (had : ad = false → t = t0) (hf : NFr S N lo lc ad yl a) (hW : NW w N t p w1) : (Code.loop (nxBody 4)).wp Tryz.prog Q a w1 := by
  refine wp_loop_nat (fun k a w1 => k < K ∧ ∃ t ad, (nxPar z lim f).Run Bd k ⟨.sc, t, ad⟩ r ∧ (ad = false → t = t0) ∧ NFr S N lo lc ad yl a ∧ NW w N t p w1) k ⟨hk, t, ad, hR, had, hf, hW⟩ ?_
  clear hk hR had hf hW
  rintro k a w1 ⟨hk, t, ad, hR, had, hf, hW⟩
  have hb := hR.bds
  simp only at hb
  obtain ⟨h1, h2⟩ | ⟨h1, k', t2, rfl, e2, h3⟩ := hR.at_sc
  · exact sc_yes hB hW (by omega) (by omega) h1 _ (fun a w2 hf hW => hx t ad a w2 h2 hf hW) hf
  · rw [show (nxPar z lim f).z = z from rfl] at h3
    have hb2 := h3.bds
    simp only at hb2
    cases ad with
    | true =>
      exact sc_no1 hB hW (by omega) (by omega) (by omega) (by omega) h1 (fun W _ => add_code t 1 _ t2 p W (by omega) (by omega) (by decide) (by decide) (by decide) e2) _ (fun a w2 hf hW => by
        by_cases c : sc z t2 = 0
        · rw [if_pos c] at h3 ⊢
          exact hw k' t2 a w2 (by omega) h3 hf hW
        · rw [if_neg c] at h3 ⊢
          exact ⟨k', by omega, by omega, t2, true, h3, fun q => Bool.noConfusion q, hf, hW⟩) hf
    | false =>
      obtain rfl := had rfl
      exact sc_no0 (t1 := t) hB hW (by omega) (by omega) (by omega) (by omega) (by omega) (by omega) h1 (fun W => trunc_1 t p W (by omega) (by omega)) (fun W _ => add_code t 1 _ t2 p W (by omega) (by omega) (by decide) (by decide) (by decide) e2) _ (fun a w2 hf hW => by
        by_cases c : sc z t2 = 0
        · rw [if_pos c] at h3 ⊢
          exact hw k' t2 a w2 (by omega) h3 hf hW
        · rw [if_neg c] at h3 ⊢
          exact ⟨k', by omega, by omega, t2, true, h3, fun q => Bool.noConfusion q, hf, hW⟩) hf

end
end Go.Proofs.YtopcjlimjkfoiaaGreatDoor
namespace Go.Proofs.YtopcjlimjkfoiaaGreatDoor
open Go.RowKit Go.Cal
attribute [local go_sem] Ext.cell Ext.frozen Ext.lt Ext.lt_add Ext.cell2 Ext.frozen2

structure NEnd (w : World) (S N lo lc : Nat) (q : Option Addr) (r : Option Int) (a : Act) (w2 : World) : Prop where
  fr : ∃ ad yl, NFr S N lo lc ad yl a
  y : Kp w N w2
  c0 : w2.cell? ⟨N + 1, 0, none⟩ = some (.int .u64 0)
  c1 : w2.cell? ⟨N + 1, 1, none⟩ = some (.int .i64 (match r with | none => 0 | some t => t + 62135596800))
  c2 : w2.cell? ⟨N + 1, 2, none⟩ = some (.pointer (match r with | none => none | some _ => q))

set_option maxRecDepth 1000000 in
set_option maxHeartbeats 4000000 in
theorem tail_ok {w : World} {S lo lc N : Nat} {f : Nat → Nat} {p q : Option Addr} {z zo : Zn} {t0 Bd : Int} {lim K : Nat} {r : Option Int} (hB : NBk w N S lo lc f p q z zo) (hBd : Bd ≤ 20000000000000) (ht0 : -62135596800 ≤ t0)
    {t : Int} {ad : Bool} {a : Act} {w1 : World} (hR : (nxPar z lim f).Run Bd K ⟨.wr, t, ad⟩ r) (had : ad = false → t = t0) (hf : NFr S N lo lc ad ((lim : Int) - 292277022400) a) (hW : NW w N t p w1)
    (Q : Exit → Act → World → Prop) (hret : ∀ a w2, NEnd w S N lo lc q r a w2 → Q .ret a w2)
    (hw : ∀ k t a w2, k < K → (nxPar z lim f).Run Bd k ⟨.wr, t, true⟩ r → NFr S N lo lc true ((lim : Int) - 292277022400) a → NW w N t p w2 → Q (.goto 0) a w2) : nxTail.wp Tryz.prog Q a w1 := by
  have hb := hR.bds
  simp only at hb
  have hB1 := hW.base hB
  have hbn := nums hB.hz t (by omega) (by omega)
  have y1 := hbn.y1
  have HY := Lib.hid (yearM_any hB1.tp hB1.hz 0 t (by decide) (by decide) (by omega) (by omega))
  have c0 := hW.c0; have c1 := hW.c1; have c2 := hW.c2
  have g0 := hW.g0; have g1 := hW.g1; have g2 := hW.g2
  obtain ⟨v0, r0⟩ := hW.r0; obtain ⟨v1, r1⟩ := hW.r1; obtain ⟨v2, r2⟩ := hW.r2
  have wl := hW.lt
  have wl0 := hW.lt0
  have HG := Lib.hid hret
  rcases hR.at_wr with ⟨h1, rfl⟩ | ⟨h1, k', rfl, h2⟩
  · have h1 : lim < yr z t := h1
    generalize yr z t = y at *
    have k1 : (lim : Int) - 292277022400 < (y : Int) - 292277022400 := by omega
    clear hret hw hR hbn
    cases hf
    conv => arg 2; whnf
    go_wp2_with (go_at_call 163; (with_reducible refine HY.out.mono ?_); rintro e w2 ⟨rfl, x, rfl⟩)
    obtain ⟨e1, e2, e3, e4⟩ := (hW.ext x).res 0 none _ rfl
    exact HG.out _ _ ⟨⟨_, _, .mk ..⟩, e1, e2, e3, e4⟩
  · have h1 : ¬ lim < yr z t := h1
    generalize yr z t = y at *
    have k1 : ¬ (lim : Int) - 292277022400 < (y : Int) - 292277022400 := by omega
    have HWR := Lib.hid hw
    clear hret hw hR hbn
    cases hf
    conv => arg 2; whnf
    go_wp2_with (go_at_call 163; (with_reducible refine HY.out.mono ?_); rintro e w2 ⟨rfl, x, rfl⟩)
    refine mo_loop (K := k' + 1) hB hBd ht0 _ ?_ ?_ (Nat.lt_succ_self _) h2 had (.mk ..) (hW.ext x)
    case refine_2 => exact fun k t a w2 hk hR hf hW => HWR.out k t a w2 hk hR hf hW
    clear hW had h1 h2 k1 c0 c1 c2 g0 g1 g2 r0 r1 r2 wl wl0 HY hB1 hb x
    intro k1 t1 ad1 a1 w3 hk1 hR1 had1 hf1 hW1
    cases hf1
    go_wp2
    refine dy_loop (K := k' + 1) hB hBd ht0 _ ?_ ?_ hk1 hR1 had1 (.mk ..) hW1
    case refine_2 => exact fun k t a w2 hk hR hf hW => HWR.out k t a w2 hk hR hf hW
    clear hW1 had1 hR1 hk1 t1 ad1
    intro k2 t2 ad2 a2 w4 hk2 hR2 had2 hf2 hW2
    cases hf2
    go_wp2
    refine hr_loop (K := k' + 1) hB hBd ht0 _ ?_ ?_ hk2 hR2 had2 (.mk ..) hW2
    case refine_2 => exact fun k t a w2 hk hR hf hW => HWR.out k t a w2 hk hR hf hW
    clear hW2 had2 hR2 hk2 t2 ad2
    intro k3 t3 ad3 a3 w5 hk3 hR3 had3 hf3 hW3
    cases hf3
    go_wp2
    refine mi_loop (K := k' + 1) hB hBd ht0 _ ?_ ?_ hk3 hR3 had3 (.mk ..) hW3
    case refine_2 => exact fun k t a w2 hk hR hf hW => HWR.out k t a w2 hk hR hf hW
    clear hW3 had3 hR3 hk3 t3 ad3
    intro k4 t4 ad4 a4 w6 hk4 hR4 had4 hf4 hW4
    cases hf4
    go_wp2
    refine sc_loop (K := k' + 1) hB hBd ht0 _ ?_ ?_ hk4 hR4 had4 (.mk ..) hW4
    case refine_2 => exact fun k t a w2 hk hR hf hW => HWR.out k t a w2 hk hR hf hW
    clear hW4 had4 hR4 hk4 t4 ad4 HWR
    rintro t5 ad5 a5 w7 rfl hf5 hW5
    have HI := Lib.hid (in_l (hW5.base hB).lq 0 (t5 + 62135596800) p (by decide) (by decide))
    have c0 := hW5.c0; have c1 := hW5.c1; have c2 := hW5.c2
    have g0 := hW5.g0; have g1 := hW5.g1; have g2 := hW5.g2
    obtain ⟨v0, r0⟩ := hW5.r0; obtain ⟨v1, r1⟩ := hW5.r1; obtain ⟨v2, r2⟩ := hW5.r2
    have wl := hW5.lt
    have wl0 := hW5.lt0
    cases hf5
    go_wp2_with (go_at_call 60; (with_reducible refine HI.out.mono ?_); rintro e w2 ⟨rfl, x, rfl⟩)
    obtain ⟨e1, e2, e3, e4⟩ := (hW5.ext x).res (t5 + 62135596800) q _ rfl
    exact HG.out _ _ ⟨⟨_, _, .mk ..⟩, e1, e2, e3, e4⟩

end Go.Proofs.YtopcjlimjkfoiaaGreatDoor
