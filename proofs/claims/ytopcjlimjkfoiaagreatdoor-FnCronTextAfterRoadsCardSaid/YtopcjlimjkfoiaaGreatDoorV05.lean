/-
FnCronTextAfterRoads: the calendar, the schedules, their texts and the zones, part 5 of 34.
-/
import Derived.Test.YtopcjlimjkfoiaaGreatDoorV04
import Derived.Test.YtopcjlimjkfoiaaGreatDoorV01
import Derived.Laws.Shifts
set_option linter.all false
namespace Go.Proofs.YtopcjlimjkfoiaaGreatDoor
open Go.RowKit Go.Cal
attribute [local go_sem] Ext.cell Ext.frozen Ext.lt Ext.lt_add Ext.cell2 Ext.frozen2

theorem norm_same (Y M : Nat) (y1 : Y < 1000000000000) (m0 : 1 ≤ M) (m1 : M ≤ 12) (w : World) :
    Calls Tryz.prog 180 #[.int .i64 ((Y : Int) - 292277022400), .int .i64 ((M : Int) - 1), .int .i64 12] w fun e w' => e = .returned (.tuple #[.int .i64 ((Y : Int) - 292277022400), .int .i64 ((M : Int) - 1)]) ∧ w' = w :=
  norm_in _ _ 12 w (by omega) (by omega) (by omega) (by omega) (by omega)

theorem norm_next (Y M : Nat) (y1 : Y < 999999999999) (m0 : 1 ≤ M) (m1 : M ≤ 12) (w : World) :
    Calls Tryz.prog 180 #[.int .i64 ((Y : Int) - 292277022400), .int .i64 (((M + 1 : Nat) : Int) - 1), .int .i64 12] w fun e w' => e = .returned (.tuple #[.int .i64 ((nextY Y M : Nat) - 292277022400 : Int), .int .i64 ((nextM M : Nat) - 1 : Int)]) ∧ w' = w := by
  by_cases h : M = 12
  · subst h
    have := norm_12 ((Y : Int) - 292277022400) w (by omega) (by omega)
    have e1 : ((nextY Y 12 : Nat) : Int) - 292277022400 = (Y : Int) - 292277022400 + 1 := by
      show ((Y + 1 : Nat) : Int) - 292277022400 = _
      omega
    have e2 : ((nextM 12 : Nat) : Int) - 1 = 0 := by decide
    rw [e1, e2]
    exact this
  · have e1 : nextY Y M = Y := by unfold nextY; rw [if_neg h]
    have e2 : nextM M = M + 1 := by unfold nextM; rw [if_neg h]
    rw [e1, e2]
    exact norm_in _ _ 12 w (by omega) (by omega) (by omega) (by omega) (by omega)

structure Nums (z : Zn) (s : Int) : Prop where
  y0 : 2 ≤ yr z s
  y1 : yr z s < 999999999999
  m0 : 1 ≤ mo z s
  m1 : mo z s ≤ 12
  d0 : 1 ≤ dy z s
  d1 : dy z s ≤ 31
  h1 : hr z s < 24
  i1 : mi z s < 60
  s1 : sc z s < 60
  so : sod z s = 3600 * (hr z s : Int) + 60 * (mi z s : Int) + (sc z s : Int)

theorem nums {z : Zn} (hp : Plain z) (s : Int) (g0 : -3000000000000000 ≤ s) (g1 : s ≤ 30000000000000) : Nums z s := by
  obtain ⟨A, D, q⟩ := shw hp s g0 g1
  have d0 := q.d0; have d1 := q.d1
  have ey : yr z s = yearD D := by unfold yr; rw [q.day]
  have em : mo z s = monD D := by unfold mo; rw [q.day]
  have ed : dy z s = dayD D := by unfold dy; rw [q.day]
  obtain ⟨k, hp2⟩ := parts D
  have hj := jf_le D
  have hcy := hp2.hcy
  have e1 : yearD D = (4 * D + 3) / 146097 * 100 + cyr D + jfb D := rfl
  obtain ⟨m1, m2, _⟩ := mon_range D
  have hs : sod z s = A % 86400 := q.so
  have eh : hr z s = (sod z s / 3600).toNat := rfl
  have ei : mi z s = (sod z s % 3600 / 60).toNat := rfl
  have es : sc z s = (sod z s % 60).toNat := rfl
  refine ⟨by omega, by omega, by omega, by omega, ?_, ?_, by omega, by omega, by omega, by omega⟩
  · rw [ed]; unfold dayD; omega
  · rw [ed]; exact day_le D

theorem tw (q : Int) : (q * 1000000000).tdiv 1000000000 = q ∧ (q * 1000000000).tmod 1000000000 = 0 := by
  rw [Int.mul_tdiv_cancel _ (by decide), Int.mul_tmod_left]
  exact ⟨rfl, rfl⟩

theorem add_sec (x q : Int) (p : Option Addr) (w : World) (g0 : -10000000000000000 ≤ x) (g1 : x ≤ 1000000000000000) (q0 : -10000000000 < q) (q1 : q < 10000000000) :
    Calls Tryz.prog 162 #[tv 0 x p, .int .i64 (q * 1000000000)] w fun e w' => e = .returned (tv 0 (x + q) p) ∧ ∃ y : Ext w, w' = y.now :=
  to_ext (add_qr 0 x (q * 1000000000) q 0 p w (by decide) (by decide) g0 g1 (tw q).1 (tw q).2 (by decide) (by decide) q0 q1 0 (x + q) (by decide) (by omega))

theorem add_start (n x : Int) (p : Option Addr) (w : World) (h0 : 0 ≤ n) (h1 : n < 1000000000) (g0 : -10000000000000000 ≤ x) (g1 : x ≤ 1000000000000000) :
    Calls Tryz.prog 162 #[tv n x p, .int .i64 (1000000000 - n)] w fun e w' => e = .returned (tv 0 (x + 1) p) ∧ ∃ y : Ext w, w' = y.now := by
  by_cases h : n = 0
  · subst h
    exact add_sec x 1 p w g0 g1 (by decide) (by decide)
  · refine to_ext (add_qr n x (1000000000 - n) 0 (1000000000 - n) p w h0 h1 g0 g1 ?_ ?_ (by omega) (by omega) (by decide) (by decide) 0 (x + 1) (by omega) (by omega))
    · rw [Int.tdiv_eq_ediv_of_nonneg (by omega)]; omega
    · rw [Int.tmod_eq_emod_of_nonneg (by omega)]; omega

theorem isZero_any (n x : Int) (p : Option Addr) (w : World) :
    Calls Tryz.prog 57 #[tv n x p] w fun e w' => e = .returned (.bool (n == 0 && x == 0)) ∧ ∃ y : Ext w, w' = y.now := by
  go_enter Tryz.func57, Tryz.ntmps57
  go_wp2
  all_goals (go_ret; exact ⟨by simp_all, Ext.alloc1 _ _⟩)

theorem Ext.fin3 {w : World} {o o2 : Obj} {a b c : Addr} {v1 v2 v3 : Value} (x : Ext ((w.alloc o).alloc o2)) (ha : w.heap.size ≤ a.block) (hb : w.heap.size ≤ b.block) (hc : w.heap.size ≤ c.block) :
    ∃ y : Ext w, ((x.now.setCell a v1).setCell b v2).setCell c v3 = y.now :=
  ⟨⟨_, ((((((Ext.one w o).trans (Ext.one _ o2)).trans x).below.setCell ha v1).setCell hb v2).setCell hc v3)⟩, rfl⟩

theorem wrap_i64 {n : Int} (h0 : -1000000000000 ≤ n) (h1 : n ≤ 2000000000000) : IntKind.i64.wrap n = n := by
  simp [IntKind.wrap, IntKind.bits, IntKind.signed]
  omega

theorem Tpl.alloc {w : World} {p : Option Addr} {z : Zn} (h : Tpl w p z) (o : Obj) : Tpl (w.alloc o) p z := h.ext (Ext.one w o)

theorem location_ex {w : World} {x : Ext w} {p : Option Addr} {z : Zn} (h : Tpl x.now p z) (n s : Int) :
    Calls Tryz.prog 161 #[tv n s p] x.now fun e w' => ∃ l, e = .returned (.pointer (some ⟨l, 0, none⟩)) ∧ ∃ y : Ext w, w' = y.now ∧ Lpl y.now l p z :=
  (location_any h n s).mono fun _ _ ⟨l, he, hl, y, hy⟩ => ⟨l, he, x.trans y, hy, by rw [hy] at hl; exact hl⟩

set_option maxRecDepth 100000 in
set_option maxHeartbeats 2000000 in
theorem addDate_any {w : World} {p : Option Addr} {z : Zn} (h : Tpl w p z) (hp : Plain z) (s dm dd T : Int) (Y2 M2 : Nat) (b0 : -3000000000000000 ≤ s) (b1 : s ≤ 30000000000000)
    (hdm : (dm = 0 ∧ dd = 1 ∧ Y2 = yr z s ∧ M2 = mo z s) ∨ (dm = 1 ∧ dd = 0 ∧ Y2 = nextY (yr z s) (mo z s) ∧ M2 = nextM (mo z s)))
    (hT : T = 86400 * ((firstD Y2 M2 : Nat) + ((dy z s : Nat) + dd - 1)) + sod z s - C0) (g0 : -3000000000000000 ≤ T) (g1 : T ≤ 30000000000000) :
    Calls Tryz.prog 166 #[tv 0 (s + 62135596800) p, .int .i64 0, .int .i64 dm, .int .i64 dd] w fun e w' => e = .returned (tv 0 (z.find T + 62135596800) p) ∧ ∃ y : Ext w, w' = y.now := by
  have q := nums hp s b0 b1
  have HF : ∀ (W : World) (l : Nat), Lpl W l p z → Calls Tryz.prog 165 #[.int .i64 ((yr z s : Nat) - 292277022400), .int .i64 ((mo z s : Nat) + dm), .int .i64 ((dy z s : Nat) + dd), .int .i64 (hr z s : Nat), .int .i64 (mi z s : Nat), .int .i64 (sc z s : Nat), .int .i64 0, .pointer (some ⟨l, 0, none⟩)] W fun e w' => e = .returned (tv 0 (z.find T + 62135596800) p) ∧ ∃ y : Ext W, w' = y.now := by
    intro W l hl
    obtain ⟨y0, y1, m0, m1, d0, d1, h1, i1, s1, so⟩ := q
    rcases hdm with ⟨rfl, rfl, rfl, rfl⟩ | ⟨rfl, rfl, rfl, rfl⟩
    · rw [Int.add_zero]
      exact date_ym hl hp _ _ _ _ _ _ _ _ 0 T (norm_same _ _ (by omega) m0 m1) y0 (by omega) m0 m1 m0 (by omega) (by omega) (by omega) (by omega) (by omega) (by omega) (by omega) (by omega) (by omega) (by decide) (by decide) (by rw [hT, so]) g0 g1
    · have e : ((mo z s : Nat) : Int) + 1 = ((mo z s + 1 : Nat) : Int) := by omega
      rw [e]
      exact date_ym hl hp _ _ _ _ _ _ _ _ 0 T (norm_next _ _ y1 m0 m1) (by unfold nextY; split <;> omega) (by unfold nextY; split <;> omega) (by unfold nextM; split <;> omega) (by unfold nextM; split <;> omega) (by omega) (by omega) (by omega) (by omega) (by omega) (by omega) (by omega) (by omega) (by omega) (by omega) (by decide) (by decide) (by rw [hT, so]) g0 g1
  have HD := Lib.hid (fun o o2 => dateM_any ((h.alloc o).alloc o2) hp 0 s (by decide) (by decide) b0 b1)
  have HC := Lib.hid (fun o o2 (y : Ext ((w.alloc o).alloc o2)) => calls_ext (x := y) (clockM_any (((h.alloc o).alloc o2).ext y) hp 0 s (by decide) (by decide) b0 b1))
  have HF := Lib.hid HF
  have dm0 : 0 ≤ dm ∧ dm ≤ 1 ∧ 0 ≤ dd ∧ dd ≤ 1 := by omega
  obtain ⟨y0, y1, m0, m1, d0, d1, h1, i1, s1, so⟩ := q
  have y2 : -300000000000 ≤ ((yr z s : Nat) : Int) - 292277022400 := by omega
  have y3 : ((yr z s : Nat) : Int) - 292277022400 ≤ 1000000000000 := by omega
  generalize ((yr z s : Nat) : Int) - 292277022400 = Y at *
  generalize mo z s = M at *
  generalize dy z s = d at *
  generalize hr z s = hh at *
  generalize mi z s = mm at *
  generalize sc z s = ss at *
  have HW1 := Lib.hid (show IntKind.i64.wrap Y = Y from wrap_i64 (by omega) (by omega))
  have HW2 := Lib.hid (show IntKind.i64.wrap ((M : Int) + dm) = (M : Int) + dm from wrap_i64 (by omega) (by omega))
  have HW3 := Lib.hid (show IntKind.i64.wrap ((d : Int) + dd) = (d : Int) + dd from wrap_i64 (by omega) (by omega))
  have HW4 := Lib.hid (show IntKind.i64.wrap 0 = 0 from rfl)
  clear hdm hT so
  obtain ⟨dm1, dm2, dd1, dd2⟩ := dm0
  go_enter Tryz.func166, Tryz.ntmps166
  go_wp2_with (first
    | (go_at_call 183; (with_reducible refine (HD.out _ _).mono ?_); rintro e w1 ⟨rfl, x1, rfl⟩)
    | (go_at_call 184; (with_reducible refine (HC.out _ _ _).mono ?_); rintro e w1 ⟨rfl, x2, rfl⟩))
  refine wp_region_plan 17 [(0, false), (1, false), (2, false), (3, false), (4, false), (5, false), (6, false), (7, false), (8, false), (9, false), (10, false), (11, false), (14, false), (12, true), (13, false), (15, true), (16, true)] (fun w' => ∃ x : Ext ((w.alloc (Obj.cells #[Value.int IntKind.u64 0, Value.int IntKind.i64 (s + 62135596800), Value.pointer p] 79)).alloc (Obj.cells #[Value.int IntKind.u64 0, Value.int IntKind.i64 0, Value.pointer none] 79)), w' = x.now)
    (by kernel_rfl) (by kernel_rfl) (fun _ _ d _ _ h => by cases d <;> exact h) ⟨x2.trans (Ext.drewn _), rfl⟩ ?_
  refine plan_read rfl (fun K hK => ?_); go_simp; refine hK _ ?_; clear hK K
  refine plan_read rfl (fun K hK => ?_); go_simp; refine hK _ ?_; clear hK K
  refine plan_read rfl (fun K hK => ?_); go_simp; refine hK _ ?_; clear hK K
  refine plan_read rfl (fun K hK => ?_); go_simp; refine hK _ ?_; clear hK K
  refine plan_read rfl (fun K hK => ?_); go_simp; refine hK _ ?_; clear hK K
  refine plan_read rfl (fun K hK => ?_); go_simp; refine hK _ ?_; clear hK K
  refine plan_read rfl (fun K hK => ?_); go_simp; refine hK _ ?_; clear hK K
  refine plan_read rfl (fun K hK => ?_); go_simp; refine hK _ ?_; clear hK K
  refine plan_read rfl (fun K hK => ?_); go_simp; refine hK _ ?_; clear hK K
  refine plan_read rfl (fun K hK => ?_); go_simp; refine hK _ ?_; clear hK K
  refine plan_read rfl (fun K hK => ?_); go_simp; refine hK _ ?_; clear hK K
  refine plan_read rfl (fun K hK => ?_); go_simp; refine hK _ ?_; clear hK K
  refine plan_read rfl (fun K hK => ?_); go_simp; refine hK _ ?_; clear hK K
  obtain ⟨x3, hx3⟩ : ∃ x3 : Ext ((w.alloc (Obj.cells #[Value.int IntKind.u64 0, Value.int IntKind.i64 (s + 62135596800), Value.pointer p] 79)).alloc (Obj.cells #[Value.int IntKind.u64 0, Value.int IntKind.i64 0, Value.pointer none] 79)), x2.now.drew = x3.now := ⟨x2.trans (Ext.drewn _), rfl⟩
  rw [hx3]
  clear hx3 x2
  refine plan_step rfl (fun K hK => ?_); go_simp
  refine (nsec_any _ _ 0 _ (by decide) (by decide) (by simp [go_sem])).mono ?_; rintro e w1 ⟨rfl, rfl⟩
  refine hK _ _ ⟨x3, rfl⟩ ?_; clear hK K
  refine plan_read rfl (fun K hK => ?_); go_simp; refine hK _ ?_; clear hK K
  refine plan_step rfl (fun K hK => ?_); go_simp
  refine (location_ex (((h.alloc _).alloc _).ext x3) _ _).mono ?_; rintro e w1 ⟨l, rfl, x4, rfl, hl⟩
  refine hK _ _ ⟨x4, rfl⟩ ?_; clear hK K
  refine plan_step rfl (fun K hK => ?_); go_simp
  rw [HW1.out, HW2.out, HW3.out, HW4.out]
  refine (HF.out _ l hl).mono ?_; rintro e w1 ⟨rfl, x5, rfl⟩
  obtain ⟨x6, hx6⟩ := Ext.both x4 x5
  rw [hx6]
  refine hK _ _ ⟨x6, rfl⟩ ?_; clear hK K
  refine plan_nil ?_
  simp only [List.drop_succ_cons, List.drop_zero]
  go_wp2
  exact bodyPost_ret (v := tv 0 (z.find T + 62135596800) p) (by simp [results, Tryz.results166, go_sem]) rfl
    ⟨rfl, x6.fin3 (Nat.le_succ _) (Nat.le_succ _) (Nat.le_succ _)⟩

set_option maxRecDepth 100000 in
theorem div_60 (x : Int) (p : Option Addr) (w : World) (h0 : 0 ≤ x) (h1 : x ≤ 1000000000000000) :
    Calls Tryz.prog 186 #[tv 0 x p, .int .i64 60000000000] w fun e w' => (∃ q, e = .returned (.tuple #[q, .int .i64 (x % 60 * 1000000000)])) ∧ ∃ y : Ext w, w' = y.now := by
  have k0 : ¬ x < 0 := by omega
  go_enter Tryz.func186, Tryz.ntmps186
  go_wp2_with (first
    | (go_at_call 103; refine (nsec_any _ _ 0 _ (by decide) (by decide) (by simp [go_sem])).mono ?_; rintro e w1 ⟨rfl, rfl⟩)
    | (go_at_call 111; refine (sec_any _ _ 0 x _ (by decide) (by decide) (by simp [go_sem]) (by simp [go_sem])).mono ?_; rintro e w1 ⟨rfl, rfl⟩))
  exact bodyPost_ret (v := .tuple #[.int .i64 (bits BinOp.and IntKind.i64 (x / 60) 1), .int .i64 (x % 60 * 1000000000)]) (by simp [results, Tryz.results186, go_sem]) rfl ⟨⟨_, rfl⟩, Ext.alloc1 _ _⟩

set_option maxRecDepth 100000 in
theorem div_1 (x : Int) (p : Option Addr) (w : World) (h0 : 0 ≤ x) (h1 : x ≤ 1000000000000000) :
    Calls Tryz.prog 186 #[tv 0 x p, .int .i64 1000000000] w fun e w' => (∃ q, e = .returned (.tuple #[q, .int .i64 (x % 1 * 1000000000)])) ∧ ∃ y : Ext w, w' = y.now := by
  have k0 : ¬ x < 0 := by omega
  go_enter Tryz.func186, Tryz.ntmps186
  go_wp2_with (first
    | (go_at_call 103; refine (nsec_any _ _ 0 _ (by decide) (by decide) (by simp [go_sem])).mono ?_; rintro e w1 ⟨rfl, rfl⟩)
    | (go_at_call 111; refine (sec_any _ _ 0 x _ (by decide) (by decide) (by simp [go_sem]) (by simp [go_sem])).mono ?_; rintro e w1 ⟨rfl, rfl⟩))
  exact bodyPost_ret (v := .tuple #[.int .i64 (bits BinOp.and IntKind.i64 (x / 1) 1), .int .i64 (x % 1 * 1000000000)]) (by simp [results, Tryz.results186, go_sem]) rfl ⟨⟨_, rfl⟩, Ext.alloc1 _ _⟩

set_option maxRecDepth 100000 in
theorem truncate_60 (x : Int) (p : Option Addr) (w : World) (h0 : 0 ≤ x) (h1 : x ≤ 1000000000000000) :
    Calls Tryz.prog 170 #[tv 0 x p, .int .i64 60000000000] w fun e w' => e = .returned (tv 0 (x - x % 60) p) ∧ ∃ y : Ext w, w' = y.now := by
  have HD := Lib.hid (fun (o o2 : Obj) => div_60 x p ((w.alloc o).alloc o2) h0 h1)
  have HA := Lib.hid (fun (o o2 : Obj) (y : Ext ((w.alloc o).alloc o2)) => calls_ext (x := y) (add_sec x (-(x % 60)) p y.now (by omega) (by omega) (by omega) (by omega)))
  have e1 : -(x % 60) * 1000000000 = -(x % 60 * 1000000000) := by omega
  have e2 : x + -(x % 60) = x - x % 60 := by omega
  rw [e1, e2] at HA
  obtain ⟨r, hr⟩ : ∃ r, r = x % 60 * 1000000000 := ⟨_, rfl⟩
  rw [← hr] at HD HA
  have r0 : 0 ≤ r := by omega
  have r1 : r < 60000000000 := by omega
  generalize x - x % 60 = m at *
  clear e1 e2 hr
  go_enter Tryz.func170, Tryz.ntmps170
  go_wp2_with (first
    | (go_at_call 104; refine (strip_any _ _ 0 _ (by decide) (by decide) (by simp [go_sem])).mono ?_; rintro e w' ⟨rfl, rfl⟩)
    | (go_at_call 186; (with_reducible refine (HD.out _ _).mono ?_); rintro e w1 ⟨⟨q, rfl⟩, x1, rfl⟩)
    | (go_at_call 162; (with_reducible refine (HA.out _ _ _).mono ?_); rintro e w1 ⟨rfl, x2, rfl⟩))
  exact bodyPost_ret (v := tv 0 m p) (by simp [results, Tryz.results170, go_sem]) rfl
    ⟨rfl, x2.fin3 (Nat.le_succ _) (Nat.le_succ _) (Nat.le_succ _)⟩

set_option maxRecDepth 100000 in
theorem truncate_1 (x : Int) (p : Option Addr) (w : World) (h0 : 0 ≤ x) (h1 : x ≤ 1000000000000000) :
    Calls Tryz.prog 170 #[tv 0 x p, .int .i64 1000000000] w fun e w' => e = .returned (tv 0 (x - x % 1) p) ∧ ∃ y : Ext w, w' = y.now := by
  have HD := Lib.hid (fun (o o2 : Obj) => div_1 x p ((w.alloc o).alloc o2) h0 h1)
  have HA := Lib.hid (fun (o o2 : Obj) (y : Ext ((w.alloc o).alloc o2)) => calls_ext (x := y) (add_sec x (-(x % 1)) p y.now (by omega) (by omega) (by omega) (by omega)))
  have e1 : -(x % 1) * 1000000000 = -(x % 1 * 1000000000) := by omega
  have e2 : x + -(x % 1) = x - x % 1 := by omega
  rw [e1, e2] at HA
  obtain ⟨r, hr⟩ : ∃ r, r = x % 1 * 1000000000 := ⟨_, rfl⟩
  rw [← hr] at HD HA
  have r0 : 0 ≤ r := by omega
  have r1 : r < 1000000000 := by omega
  generalize x - x % 1 = m at *
  clear e1 e2 hr
  go_enter Tryz.func170, Tryz.ntmps170
  go_wp2_with (first
    | (go_at_call 104; refine (strip_any _ _ 0 _ (by decide) (by decide) (by simp [go_sem])).mono ?_; rintro e w' ⟨rfl, rfl⟩)
    | (go_at_call 186; (with_reducible refine (HD.out _ _).mono ?_); rintro e w1 ⟨⟨q, rfl⟩, x1, rfl⟩)
    | (go_at_call 162; (with_reducible refine (HA.out _ _ _).mono ?_); rintro e w1 ⟨rfl, x2, rfl⟩))
  exact bodyPost_ret (v := tv 0 m p) (by simp [results, Tryz.results170, go_sem]) rfl
    ⟨rfl, x2.fin3 (Nat.le_succ _) (Nat.le_succ _) (Nat.le_succ _)⟩

end Go.Proofs.YtopcjlimjkfoiaaGreatDoor
namespace Go.Proofs.YtopcjlimjkfoiaaGreatDoor
open Go.RowKit

theorem one_shl (i : Nat) (h : i < 64) : IntKind.u64.wrap (2 ^ min (IntKind.u64.wrap (i : Int)).toNat 64) = ((2 ^ i : Nat) : Int) := by
  have e : (IntKind.u64.wrap (i : Int)).toNat = i := by
    rw [wraps_u64 _ (by omega) (by omega)]; omega
  have h2 : (2 : Nat) ^ i < 2 ^ 64 := Nat.pow_lt_pow_right (by decide) h
  rw [e, show min i 64 = i by omega]
  have e2 : ((2 : Int) ^ i) = ((2 ^ i : Nat) : Int) := by simp
  rw [e2]
  generalize 2 ^ i = m at *
  exact wraps_u64 _ (by omega) (by omega)

theorem pow_and (i b : Nat) : 2 ^ i &&& b = if b.testBit i then 2 ^ i else 0 := by
  apply Nat.eq_of_testBit_eq
  intro j
  rw [Nat.testBit_and, Nat.testBit_two_pow]
  by_cases e : i = j
  · subst e
    cases h : b.testBit i <;> simp
  · cases h : b.testBit i <;> simp [e]

theorem and_pow (i b : Nat) (h : i < 64) (hb : b < 18446744073709551616) : bits .and .u64 ((2 ^ i : Nat) : Int) (b : Int) = if b.testBit i then ((2 ^ i : Nat) : Int) else 0 := by
  rw [(bits_nat .u64 64 (by decide) wraps_u64 (2 ^ i) b (Nat.pow_lt_pow_right (by decide) h) hb).1, pow_and]
  cases b.testBit i <;> rfl

def sh1 (i : Int) : Int := IntKind.u64.wrap (2 ^ min (IntKind.u64.wrap i).toNat 64)

theorem shl_one (i : Int) : Op.shift .shl .u64 1 .u64 (IntKind.u64.wrap i) = pure (.int .u64 (sh1 i)) := by
  rw [shift_shl_any _ _ _ _ (wrap_u64_nonneg i), Int.one_mul]
  rfl

theorem bit_eq (i b : Nat) (h : i < 64) (hb : b < 18446744073709551616) : bits .and .u64 (sh1 i) (b : Int) = if b.testBit i then ((2 ^ i : Nat) : Int) else 0 := by
  unfold sh1
  rw [one_shl i h, and_pow i b h hb]

theorem bit_gt (i b : Nat) (h : i < 64) (hb : b < 18446744073709551616) : decide (0 < bits .and .u64 (sh1 i) (b : Int)) = b.testBit i := by
  rw [bit_eq i b h hb]
  have : 0 < 2 ^ i := Nat.pow_pos (by decide)
  cases b.testBit i
  · simp
  · simp only [if_true]; exact decide_eq_true (by omega)

theorem bit_zero (i b : Nat) (h : i < 64) (hb : b < 18446744073709551616) : (bits .and .u64 (sh1 i) (b : Int) == 0) = !b.testBit i := by
  rw [bit_eq i b h hb]
  have : 0 < 2 ^ i := Nat.pow_pos (by decide)
  cases b.testBit i
  · rfl
  · simp only [if_true, Bool.not_true, beq_eq_false_iff_ne]; omega

theorem star_gt (b : Nat) (hb : b < 18446744073709551616) : (0 < bits .and .u64 (b : Int) 9223372036854775808) ↔ b.testBit 63 = true := by
  have h := (bits_nat .u64 64 (by decide) wraps_u64 b (2 ^ 63) hb (by decide)).1
  rw [show ((2 ^ 63 : Nat) : Int) = 9223372036854775808 by decide] at h
  rw [h, Nat.and_comm, pow_and]
  cases b.testBit 63
  · simp
  · simp

end Go.Proofs.YtopcjlimjkfoiaaGreatDoor
namespace Go.Proofs.YtopcjlimjkfoiaaGreatDoor
open Go Go.RowKit
attribute [local go_sem high] shl_one

section
variable {P : Program} {ops : Array Oper} {C : World → Prop} {L : Act → Prop} {o : Oper} {rest : List Oper} {a : Act}

theorem exec_shl {ρ : Operand → Value} {o : Oper} (t tt : TypeId) (x y : Operand) (i : Int) (w : World) (ho : o.op = .binOp .shl t x y tt) (hx : ρ x = .int .u64 1) (hy : ρ y = .int .u64 (IntKind.u64.wrap i)) :
    (execOp ρ o).run P w = .ok (.value (.int .u64 (sh1 i))) w := by
  simp only [execOp, ho]
  simp [hx, hy, go_sem]

theorem quiet_shl (t tt : TypeId) (x y : Operand) (i : Int) (ho : o.op = .binOp .shl t x y tt) (hw : Region.wanted o (yielded ops a.tmps) = true) (hx : a.eval x = .int .u64 1) (hy : a.eval y = .int .u64 (IntKind.u64.wrap i))
    (h : wpQuiet P ops C L rest (a.put o.dst (.int .u64 (sh1 i)))) : wpQuiet P ops C L (o :: rest) a := by
  unfold wpQuiet
  rw [hw]
  refine ⟨.int .u64 (sh1 i), fun w _ => ?_, h⟩
  simp only [Oper.quietAt, exec_shl t tt x y i w ho hx hy]
  simp [Oper.quietUpon, go_sem]
end
end Go.Proofs.YtopcjlimjkfoiaaGreatDoor
namespace Go.Proofs.YtopcjlimjkfoiaaGreatDoor
open Go.RowKit Go.Cal
attribute [local go_sem] Ext.cell Ext.frozen Ext.lt Ext.lt_add Ext.cell2 Ext.frozen2
attribute [local irreducible] wpQuiet

structure Sch (w : World) (S : Nat) (f : Nat → Nat) : Prop where
  c0 : w.cell? ⟨S, 0, none⟩ = some (.int .u64 (f 0))
  c1 : w.cell? ⟨S, 1, none⟩ = some (.int .u64 (f 1))
  c2 : w.cell? ⟨S, 2, none⟩ = some (.int .u64 (f 2))
  c3 : w.cell? ⟨S, 3, none⟩ = some (.int .u64 (f 3))
  c4 : w.cell? ⟨S, 4, none⟩ = some (.int .u64 (f 4))
  c5 : w.cell? ⟨S, 5, none⟩ = some (.int .u64 (f 5))
  lt : S < w.heap.size
  bd : ∀ i, i < 6 → f i < 18446744073709551616

theorem Sch.ext {w : World} {S : Nat} {f : Nat → Nat} (h : Sch w S f) (x : Ext w) : Sch x.now S f := by
  refine ⟨?_, ?_, ?_, ?_, ?_, ?_, x.lt _ h.lt, h.bd⟩
  · rw [x.cell _ _ h.lt]; exact h.c0
  · rw [x.cell _ _ h.lt]; exact h.c1
  · rw [x.cell _ _ h.lt]; exact h.c2
  · rw [x.cell _ _ h.lt]; exact h.c3
  · rw [x.cell _ _ h.lt]; exact h.c4
  · rw [x.cell _ _ h.lt]; exact h.c5

def dayOk (f : Nat → Nat) (d k : Nat) : Bool := if (f 3).testBit 63 || (f 5).testBit 63 then (f 3).testBit d && (f 5).testBit k else (f 3).testBit d || (f 5).testBit k

set_option maxRecDepth 100000 in
set_option maxHeartbeats 1000000 in
theorem dayMatches_any {w : World} {S : Nat} {f : Nat → Nat} (hS : Sch w S f) {p : Option Addr} {z : Zn} (h : Tpl w p z) (hp : Plain z) (s : Int) (b0 : -3000000000000000 ≤ s) (b1 : s ≤ 30000000000000) :
    Calls Tryz.prog 167 #[.pointer (some ⟨S, 0, none⟩), tv 0 (s + 62135596800) p] w fun e w' => e = .returned (.bool (dayOk f (dy z s) (wd z s))) ∧ ∃ y : Ext w, w' = y.now := by
  have q := nums hp s b0 b1
  have HD := Lib.hid (fun o (x : Ext (w.alloc o)) => calls_ext (x := x) (dayM_any ((h.alloc o).ext x) hp 0 s (by decide) (by decide) b0 b1))
  have HD2 := Lib.hid (fun o (x : Ext (w.alloc o)) (y : Ext x.now) => calls_ext (x := y) (dayM_any (((h.alloc o).ext x).ext y) hp 0 s (by decide) (by decide) b0 b1))
  have HW2 := Lib.hid (fun o (x : Ext (w.alloc o)) (y : Ext x.now) => calls_ext (x := y) (weekdayM_any (((h.alloc o).ext x).ext y) hp 0 s (by decide) (by decide) b0 b1))
  have HW := Lib.hid (fun o (x : Ext (w.alloc o)) => calls_ext (x := x) (weekdayM_any ((h.alloc o).ext x) hp 0 s (by decide) (by decide) b0 b1))
  obtain ⟨c0, c1, c2, c3, c4, c5, lt, bd⟩ := hS
  have d1 := q.d1
  have d0 := q.d0
  have wd7 : wd z s < 7 := by unfold wd; omega
  clear q
  obtain ⟨r, hr⟩ : ∃ r, r = dayOk f (dy z s) (wd z s) := ⟨_, rfl⟩
  rw [← hr]
  unfold dayOk at hr
  have HR := Lib.hid hr
  clear hr
  generalize dy z s = d at *
  generalize wd z s = k at *
  go_enter Tryz.func167, Tryz.ntmps167
  go_wp2
  refine wp_region_ext (by kernel_rfl) (by kernel_rfl) ?_
  quiet_step (first | (go_at_call 159; with_reducible exact HD.out _ _) | (go_at_call 185; with_reducible exact HW.out _ _))
  quiet_step (first | (go_at_call 159; with_reducible exact HD.out _ _) | (go_at_call 185; with_reducible exact HW.out _ _))
  quiet_step (first | (go_at_call 159; with_reducible exact HD.out _ _) | (go_at_call 185; with_reducible exact HW.out _ _))
  refine quiet_shl _ _ _ _ _ rfl (by rfl) rfl rfl ?_
  repeat (quiet_step (first | (go_at_call 159; with_reducible exact HD.out _ _) | (go_at_call 185; with_reducible exact HW.out _ _)))
  refine wpQuiet_nil ?_
  rintro w1 ⟨y1, rfl⟩
  rw [bit_gt d (f 3) (by omega) (bd 3 (by decide))]
  go_wp2
  refine wp_region_ext (by kernel_rfl) (by kernel_rfl) ?_
  quiet_step (first | (go_at_call 159; with_reducible exact HD2.out _ _ _) | (go_at_call 185; with_reducible exact HW2.out _ _ _))
  quiet_step (first | (go_at_call 159; with_reducible exact HD2.out _ _ _) | (go_at_call 185; with_reducible exact HW2.out _ _ _))
  quiet_step (first | (go_at_call 159; with_reducible exact HD2.out _ _ _) | (go_at_call 185; with_reducible exact HW2.out _ _ _))
  refine quiet_shl _ _ _ _ _ rfl (by rfl) rfl rfl ?_
  repeat (quiet_step (fail))
  refine wpQuiet_nil ?_
  rintro w1 ⟨y2, rfl⟩
  rw [bit_gt k (f 5) (by omega) (bd 5 (by decide))]
  obtain ⟨y3, hy3⟩ := Ext.both y1 y2
  rw [hy3]
  clear hy3 y2 y1
  have s3 := star_gt (f 3) (bd 3 (by decide))
  have s5 := star_gt (f 5) (bd 5 (by decide))
  generalize (f 3).testBit d = dm at *
  generalize (f 5).testBit k = dw at *
  generalize (f 3).testBit 63 = t3 at *
  generalize (f 5).testBit 63 = t5 at *
  clear HD HW HD2 HW2
  cases t3 with
  | true =>
    replace s3 := s3.2 rfl
    cases dm <;> cases dw <;> go_wp2
    all_goals (go_ret; exact ⟨by rw [HR.out]; rfl, y3.via⟩)
  | false =>
    replace s3 : ¬ 0 < bits .and .u64 (f 3 : Int) 9223372036854775808 := fun h => Bool.noConfusion (s3.1 h)
    cases t5 with
    | true =>
      replace s5 := s5.2 rfl
      cases dm <;> cases dw <;> go_wp2
      all_goals (go_ret; exact ⟨by rw [HR.out]; rfl, y3.via⟩)
    | false =>
      replace s5 : ¬ 0 < bits .and .u64 (f 5 : Int) 9223372036854775808 := fun h => Bool.noConfusion (s5.1 h)
      cases dm <;> cases dw <;> go_wp2
      all_goals (go_ret; exact ⟨by rw [HR.out]; rfl, y3.via⟩)

end Go.Proofs.YtopcjlimjkfoiaaGreatDoor
namespace Go.Proofs.YtopcjlimjkfoiaaGreatDoor
open Go.RowKit Go.Cal

set_option maxRecDepth 100000 in
inductive NFr (S N lo lc : Nat) (ad : Bool) (yl : Int) : Act → Prop
  | mk (u1 u2 u9 u10 u11 u12 u13 u14 u15 u16 u17 u18 u19 u20 u21 u22 u23 u24 u25 u26 u27 u28 u29 u30 u31 u32 u33 u34 u35 u36 u37 u38 u39 u40 u41 u42 u43 u44 u45 u46 u47 u48 u49 u50 u51 u52 u53 u54 u55 u56 u57 u58 u59 u60 u61 u62 u63 u64 u65 u66 u67 u68 u69 u70 u71 u72 u73 u74 u75 u76 u77 u78 u79 u80 u81 u82 u83 u84 u85 u86 u87 u88 u89 u90 u91 u92 u93 u94 u95 u96 u97 u98 u99 u100 u101 u102 u103 u104 u105 u106 u107 u108 u109 u110 u111 u112 u113 u114 u115 u116 u117 u118 u119 u120 u121 u122 u123 u124 u125 u126 u127 u128 u129 u130 u131 u132 u133 u134 u135 u136 u137 u138 u139 u140 u141 u142 u143 u144 u145 u146 u147 u148 u149 u150 u151 u152 u153 u154 u155 u156 u157 u158 u159 u160 u161 u162 u163 u164 u165 u166 u167 u168 u169 u170 u171 : Value) : NFr S N lo lc ad yl ⟨#[.pointer (some ⟨S, 0, none⟩), u1, u2, .pointer (some ⟨N, 0, none⟩), .pointer (some ⟨N + 1, 0, none⟩), .pointer (some ⟨lo, 0, none⟩), .pointer (some ⟨lc, 0, none⟩), .bool ad, .int .i64 yl, u9, u10, u11, u12, u13, u14, u15, u16, u17, u18, u19, u20, u21, u22, u23, u24, u25, u26, u27, u28, u29, u30, u31, u32, u33, u34, u35, u36, u37, u38, u39, u40, u41, u42, u43, u44, u45, u46, u47, u48, u49, u50, u51, u52, u53, u54, u55, u56, u57, u58, u59, u60, u61, u62, u63, u64, u65, u66, u67, u68, u69, u70, u71, u72, u73, u74, u75, u76, u77, u78, u79, u80, u81, u82, u83, u84, u85, u86, u87, u88, u89, u90, u91, u92, u93, u94, u95, u96, u97, u98, u99, u100, u101, u102, u103, u104, u105, u106, u107, u108, u109, u110, u111, u112, u113, u114, u115, u116, u117, u118, u119, u120, u121, u122, u123, u124, u125, u126, u127, u128, u129, u130, u131, u132, u133, u134, u135, u136, u137, u138, u139, u140, u141, u142, u143, u144, u145, u146, u147, u148, u149, u150, u151, u152, u153, u154, u155, u156, u157, u158, u159, u160, u161, u162, u163, u164, u165, u166, u167, u168, u169, u170, u171], []⟩

structure Kp (w : World) (N : Nat) (w' : World) : Prop where
  os : w'.os = w.os
  tape : w'.tape = w.tape
  output : w'.output = w.output
  size : w.heap.size ≤ w'.heap.size
  block : ∀ k, k < w.heap.size → k ≠ N → k ≠ N + 1 → w'.heap[k]? = w.heap[k]?

theorem Kp.refl (w : World) (N : Nat) : Kp w N w := ⟨rfl, rfl, rfl, Nat.le_refl _, fun _ _ _ _ => rfl⟩
theorem Kp.ext {w : World} {N : Nat} {w' : World} (h : Kp w N w') (x : Ext w') : Kp w N x.now :=
  ⟨x.below.os.trans h.os, x.below.tape.trans h.tape, x.below.output.trans h.output, Nat.le_trans h.size x.le, fun k hk a b => (x.block k (Nat.lt_of_lt_of_le hk h.size)).trans (h.block k hk a b)⟩
theorem Kp.set {w : World} {N : Nat} {w' : World} (h : Kp w N w') (b i : Nat) (v : Value) (hb : b = N ∨ b = N + 1) : Kp w N (w'.setCell ⟨b, i, none⟩ v) :=
  ⟨h.os, h.tape, h.output, by rw [show (w'.setCell ⟨b, i, none⟩ v).heap.size = w'.heap.size by simp [World.setCell]]; exact h.size, fun k hk a c => (Below.heap_setCell w' _ v k (by rcases hb with rfl | rfl <;> assumption)).trans (h.block k hk a c)⟩
theorem Kp.cell {w : World} {N : Nat} {w' : World} (h : Kp w N w') (b o : Nat) (hb : b < w.heap.size) (h1 : b ≠ N) (h2 : b ≠ N + 1) : w'.cell? ⟨b, o, none⟩ = w.cell? ⟨b, o, none⟩ := World.cell?_of_block (w := w) (h.block b hb h1 h2)
theorem Kp.below {w0 : World} {N : Nat} {w w' : World} (h : Kp w N w') (x : ∃ y : Ext w0, w = y.now) (hN : N = w0.heap.size) : ∃ y : Ext w0, w' = y.now := by
  obtain ⟨y, rfl⟩ := x
  have hy := y.below
  exact ⟨⟨w', h.os.trans hy.os, h.tape.trans hy.tape, h.output.trans hy.output, Nat.le_trans hy.size h.size, fun k hk => (h.block k (Nat.lt_of_lt_of_le hk hy.size) (by omega) (by omega)).trans (hy.block k hk)⟩, rfl⟩

structure NW (w : World) (N : Nat) (t : Int) (p : Option Addr) (w' : World) : Prop where
  y : Kp w N w'
  c0 : w'.cell? ⟨N, 0, none⟩ = some (.int .u64 0)
  c1 : w'.cell? ⟨N, 1, none⟩ = some (.int .i64 (t + 62135596800))
  c2 : w'.cell? ⟨N, 2, none⟩ = some (.pointer p)
  f0 : w'.frozen? ⟨N, 0, none⟩ = false
  f1 : w'.frozen? ⟨N, 1, none⟩ = false
  f2 : w'.frozen? ⟨N, 2, none⟩ = false
  r0 : ∃ v, w'.cell? ⟨N + 1, 0, none⟩ = some v
  r1 : ∃ v, w'.cell? ⟨N + 1, 1, none⟩ = some v
  r2 : ∃ v, w'.cell? ⟨N + 1, 2, none⟩ = some v
  g0 : w'.frozen? ⟨N + 1, 0, none⟩ = false
  g1 : w'.frozen? ⟨N + 1, 1, none⟩ = false
  g2 : w'.frozen? ⟨N + 1, 2, none⟩ = false
  lt : N + 1 < w'.heap.size

theorem NW.ext {w : World} {N : Nat} {t : Int} {p : Option Addr} {w' : World} (h : NW w N t p w') (x : Ext w') : NW w N t p x.now := by
  have l1 := h.lt
  have l0 : N < w'.heap.size := by omega
  refine ⟨h.y.ext x, ?_, ?_, ?_, ?_, ?_, ?_, ?_, ?_, ?_, ?_, ?_, ?_, x.lt _ l1⟩
  · rw [x.cell _ _ l0]; exact h.c0
  · rw [x.cell _ _ l0]; exact h.c1
  · rw [x.cell _ _ l0]; exact h.c2
  · rw [x.frozen _ _ l0]; exact h.f0
  · rw [x.frozen _ _ l0]; exact h.f1
  · rw [x.frozen _ _ l0]; exact h.f2
  · rw [x.cell _ _ l1]; exact h.r0
  · rw [x.cell _ _ l1]; exact h.r1
  · rw [x.cell _ _ l1]; exact h.r2
  · rw [x.frozen _ _ l1]; exact h.g0
  · rw [x.frozen _ _ l1]; exact h.g1
  · rw [x.frozen _ _ l1]; exact h.g2

theorem NW.put {w : World} {N : Nat} {t : Int} {p : Option Addr} {w' : World} (h : NW w N t p w') (t2 : Int) : NW w N t2 p (((w'.setCell ⟨N, 0, none⟩ (.int .u64 0)).setCell ⟨N, 1, none⟩ (.int .i64 (t2 + 62135596800))).setCell ⟨N, 2, none⟩ (.pointer p)) := by
  obtain ⟨hy, c0, c1, c2, f0, f1, f2, ⟨v0, r0⟩, ⟨v1, r1⟩, ⟨v2, r2⟩, g0, g1, g2, lt⟩ := h
  refine ⟨((hy.set _ _ _ (.inl rfl)).set _ _ _ (.inl rfl)).set _ _ _ (.inl rfl), ?_, ?_, ?_, ?_, ?_, ?_, ⟨v0, ?_⟩, ⟨v1, ?_⟩, ⟨v2, ?_⟩, ?_, ?_, ?_, ?_⟩
  all_goals (clear hy; simp [go_sem, c0, c1, c2, f0, f1, f2, r0, r1, r2, g0, g1, g2, lt])

theorem NW.res {w : World} {N : Nat} {t : Int} {p : Option Addr} {w' : World} (h : NW w N t p w') (v : Int) (q : Option Addr) (w2 : World) (h2 : w2 = ((w'.setCell ⟨N + 1, 0, none⟩ (.int .u64 0)).setCell ⟨N + 1, 1, none⟩ (.int .i64 v)).setCell ⟨N + 1, 2, none⟩ (.pointer q)) :
    Kp w N w2 ∧ w2.cell? ⟨N + 1, 0, none⟩ = some (.int .u64 0) ∧ w2.cell? ⟨N + 1, 1, none⟩ = some (.int .i64 v) ∧ w2.cell? ⟨N + 1, 2, none⟩ = some (.pointer q) := by
  obtain ⟨hy, c0, c1, c2, f0, f1, f2, ⟨v0, r0⟩, ⟨v1, r1⟩, ⟨v2, r2⟩, g0, g1, g2, lt⟩ := h
  subst h2
  refine ⟨((hy.set _ _ _ (.inr rfl)).set _ _ _ (.inr rfl)).set _ _ _ (.inr rfl), ?_, ?_, ?_⟩
  all_goals (clear hy; simp [go_sem, r0, r1, r2])

structure NB (w : World) (S lo lc : Nat) (f : Nat → Nat) (p q : Option Addr) (z zo : Zn) : Prop where
  hz : Plain z
  tp : Tpl w p z
  lp : Lpl w lc p z
  lq : Lpl w lo q zo
  sc : Sch w S f

theorem NB.ext {w : World} {S lo lc : Nat} {f : Nat → Nat} {p q : Option Addr} {z zo : Zn} (h : NB w S lo lc f p q z zo) (x : Ext w) : NB x.now S lo lc f p q z zo :=
  ⟨h.hz, h.tp.ext x, h.lp.ext x, h.lq.ext x, h.sc.ext x⟩

structure NBk (w : World) (N S lo lc : Nat) (f : Nat → Nat) (p q : Option Addr) (z zo : Zn) : Prop where
  all : ∀ w', Kp w N w' → NB w' S lo lc f p q z zo

theorem NBk.hz {w : World} {N S lo lc : Nat} {f : Nat → Nat} {p q : Option Addr} {z zo : Zn} (h : NBk w N S lo lc f p q z zo) : Plain z := (h.all w (Kp.refl _ _)).hz

theorem NW.base {w : World} {N : Nat} {t : Int} {p' : Option Addr} {w' : World} {S lo lc : Nat} {f : Nat → Nat} {p q : Option Addr} {z zo : Zn} (h : NW w N t p' w') (hB : NBk w N S lo lc f p q z zo) : NB w' S lo lc f p q z zo := hB.all _ h.y

theorem NW.lt0 {w : World} {N : Nat} {t : Int} {p : Option Addr} {w' : World} (h : NW w N t p w') : N < w'.heap.size := by have := h.lt; omega

def loopsOf : Code → List Code
  | .loop c => [c]
  | .seq a b => loopsOf a ++ loopsOf b
  | .block _ c => loopsOf c
  | .scope c => loopsOf c
  | _ => []

def scopeOf : Code → Option Code
  | .scope c => some c
  | .seq a b => (scopeOf a).or (scopeOf b)
  | _ => none

noncomputable def nxScope : Code := (Tryz.f160.body.bind scopeOf).getD .skip
noncomputable def nxBody (i : Nat) : Code := ((loopsOf nxScope)[i]?).getD .skip
noncomputable def nxRest : Code := (findLabel nxScope 0).getD .skip
theorem nx_label : findLabel nxScope 0 = some nxRest := by kernel_rfl
noncomputable def nxTail : Code := match nxRest with
  | .seq _ c => c
  | c => c
theorem nx_tail : nxRest = Code.skip.seq nxTail := by kernel_rfl

end Go.Proofs.YtopcjlimjkfoiaaGreatDoor
