/-
FnCronTextAfterRoads: the calendar, the schedules, their texts and the zones, part 31 of 34.
-/
import Derived.Test.YtopcjlimjkfoiaaGreatDoorV30
import Derived.Test.YtopcjlimjkfoiaaGreatDoorV19
import Derived.Test.YtopcjlimjkfoiaaGreatDoorV04
import Derived.Test.YtopcjlimjkfoiaaGreatDoorV29
import Derived.Test.YtopcjlimjkfoiaaGreatDoorV25
set_option linter.all false
namespace Go.Proofs.YtopcjlimjkfoiaaGreatDoor
open Go.RowKit Go.Cal
attribute [local go_sem] Ext.cell Ext.frozen Ext.lt Ext.lt_add Ext.cell2 Ext.frozen2

theorem next_spec (S : Nat) (w : World) : (method 375 93 (.pointer (some ⟨S, 0, none⟩)) "Next").run Tryz.prog w = .ok (160, .pointer (some ⟨S, 0, none⟩)) w := by kernel_rfl
theorem next_delay (d : Int) (w : World) : (method 375 98 (.agg #[.int .i64 d]) "Next").run Tryz.prog w = .ok (193, .agg #[.int .i64 d]) w := by kernel_rfl

theorem ahead_spec (S : Nat) (w : World) : (nilAhead 375 93 (.pointer (some ⟨S, 0, none⟩)) "Next").run Tryz.prog w = .ok (some false) w := by kernel_rfl
theorem ahead_delay (d : Int) (w : World) : (nilAhead 375 98 (.agg #[.int .i64 d]) "Next").run Tryz.prog w = .ok (some false) w := by kernel_rfl

theorem ansOf_form (m x : Int) : ∃ s n b, ansOf m x = .tuple #[.agg #[.int .i64 s, .int .i64 n], .bool b] := by
  unfold ansOf
  split
  · exact ⟨_, _, _, rfl⟩
  · exact ⟨_, _, _, rfl⟩

structure ZoneIn (wm : World) (vo vd vw vi : Value) (O W I : List Int) (nd : Nat) : Prop where
  o : IRow wm vo O
  d : BRow wm vd nd
  w : IRow wm vw W
  i : IRow wm vi I
  g : GoodZ O W I nd

theorem ZoneIn.ext {w : World} {vo vd vw vi : Value} {O W I : List Int} {nd : Nat} (h : ZoneIn w vo vd vw vi O W I nd) (x : Ext w) : ZoneIn x.now vo vd vw vi O W I nd := ⟨h.o.ext x, h.d.ext x, h.w.ext x, h.i.ext x, h.g⟩

theorem ZoneIn.loc {w : World} {vo vd vw vi : Value} {O W I : List Int} {nd : Nat} (h : ZoneIn w vo vd vw vi O W I nd) :
    Calls Tryz.prog 32 #[.agg #[vo, vd, vw, vi]] w fun e w' => (∃ L p, e = .returned (.pointer (some ⟨L, 0, none⟩)) ∧ Lpl w' L p (zoneOf O W I)) ∧ ∃ y : Ext w, w' = y.now := location_z h.o h.d h.w h.i h.g

theorem nil_zone (w : World) : ZoneIn w nilV nilV nilV nilV [] [] [] 0 := ⟨⟨none, 0, rfl, fun h => absurd rfl h⟩, ⟨none, 0, rfl, fun h => absurd h (by decide)⟩, ⟨none, 0, rfl, fun h => absurd rfl h⟩, ⟨none, 0, rfl, fun h => absurd rfl h⟩, .inl ⟨rfl, rfl, rfl⟩⟩

set_option maxRecDepth 1000000 in
set_option maxHeartbeats 4000000 in
theorem implNext_sets {w : World} {f : Nat → Nat} (hK : (Kd.sets f).Ok) {vo vd vw vi : Value} {O W I : List Int} {nd : Nat} (hZ : ZoneIn w vo vd vw vi O W I nd) (hz : Plain (zoneOf O W I)) {s n m x : Int} (hN : NextIs (.sets f) (zoneOf O W I) s n m x)
    (n0 : 0 ≤ n) (n1 : n < 1000000000) (s0 : -62135596800 ≤ s) (s1 : s ≤ 253402300799) (m0 : 0 ≤ m) (m1 : m < 1000000000) (x0 : -9223372036854775808 ≤ x - 62135596800) (x1 : x ≤ 9223372036854775807) :
    Calls Tryz.prog 14 #[schV (.sets f), .agg #[.int .i64 s, .int .i64 n], .agg #[vo, vd, vw, vi]] w fun e w' => e = .returned (ansOf m x) ∧ ∃ y : Ext w, w' = y.now := by
  have hmf : ∀ (fn : Fn) (first cap : Array Value) (w : World), (Instr.makeFunc fn first cap).run Tryz.prog w = .ok (.func fn first cap) w := fun _ _ _ _ => rfl
  have HS := Lib.hid (fun (W : World) => schedule_any (.sets f) hK none W)
  have HZ := Lib.hid (fun (x : Ext w) => (hZ.ext x).loc)
  have HM := Lib.hid (fun (w9 : World) (l : Nat) (p : Option Addr) (h : Lpl w9 l p (zoneOf O W I)) => moment_l h s n (by omega) (by omega) n0 n1)
  have HA := Lib.hid (fun (W : World) (q : Option Addr) => answer_any m x q W m0 (by omega) x0 x1)
  obtain ⟨sa, na, ba, hans⟩ := ansOf_form m x
  rw [hans] at HA ⊢
  have HNX := Lib.hid (fun (w9 : World) (S : Nat) (q : Option Addr) (hS : Sch w9 S f) (h6 : w9.cell? ⟨S, 6, none⟩ = some (.pointer none)) (hT : Tpl w9 q (zoneOf O W I)) => specNext_any hS h6 .nil hz hT hN n0 n1 s0 s1)
  simp only [schV] at HS ⊢
  obtain ⟨a0, h0⟩ : ∃ a : Int, a = f 0 := ⟨_, rfl⟩
  obtain ⟨a1, h1⟩ : ∃ a : Int, a = f 1 := ⟨_, rfl⟩
  obtain ⟨a2, h2⟩ : ∃ a : Int, a = f 2 := ⟨_, rfl⟩
  obtain ⟨a3, h3⟩ : ∃ a : Int, a = f 3 := ⟨_, rfl⟩
  obtain ⟨a4, h4⟩ : ∃ a : Int, a = f 4 := ⟨_, rfl⟩
  obtain ⟨a5, h5⟩ : ∃ a : Int, a = f 5 := ⟨_, rfl⟩
  rw [← h0, ← h1, ← h2, ← h3, ← h4, ← h5] at HS ⊢
  clear h0 h1 h2 h3 h4 h5 hans hN hZ hK hz
  obtain ⟨t, ht⟩ : ∃ t : Int, t = s + 62135596800 := ⟨_, rfl⟩
  rw [← ht] at HM HNX
  clear ht s0 s1 x0 x1
  go_enter Tryz.func14, Tryz.ntmps14
  go_upto_region 1 with fail
  obtain ⟨W0, hW0⟩ : ∃ W0 : Ext w, ((((w.alloc (.cells #[.bool false, .int .i64 0, .int .u64 a0, .int .u64 a1, .int .u64 a2, .int .u64 a3, .int .u64 a4, .int .u64 a5] 46)).alloc (.cells #[.int .i64 s, .int .i64 n] 23)).alloc (.cells #[vo, vd, vw, vi] 28)).alloc (.cells #[.int .i64 0, .int .i64 0] 23)) = W0.now :=
    ⟨(((Ext.one w _).trans (Ext.one _ _)).trans (Ext.one _ _)).trans (Ext.one _ _), rfl⟩
  have e0 : W0.now.cell? ⟨w.heap.size, 0, none⟩ = some (.bool false) := by rw [← hW0]; simp [go_sem]
  have e1 : W0.now.cell? ⟨w.heap.size, 1, none⟩ = some (.int .i64 0) := by rw [← hW0]; simp [go_sem]
  have e2 : W0.now.cell? ⟨w.heap.size, 2, none⟩ = some (.int .u64 a0) := by rw [← hW0]; simp [go_sem]
  have e3 : W0.now.cell? ⟨w.heap.size, 3, none⟩ = some (.int .u64 a1) := by rw [← hW0]; simp [go_sem]
  have e4 : W0.now.cell? ⟨w.heap.size, 4, none⟩ = some (.int .u64 a2) := by rw [← hW0]; simp [go_sem]
  have e5 : W0.now.cell? ⟨w.heap.size, 5, none⟩ = some (.int .u64 a3) := by rw [← hW0]; simp [go_sem]
  have e6 : W0.now.cell? ⟨w.heap.size, 6, none⟩ = some (.int .u64 a4) := by rw [← hW0]; simp [go_sem]
  have e7 : W0.now.cell? ⟨w.heap.size, 7, none⟩ = some (.int .u64 a5) := by rw [← hW0]; simp [go_sem]
  have e8 : W0.now.cell? ⟨w.heap.size + 1, 0, none⟩ = some (.int .i64 s) := by rw [← hW0]; simp [go_sem]
  have e9 : W0.now.cell? ⟨w.heap.size + 1, 1, none⟩ = some (.int .i64 n) := by rw [← hW0]; simp [go_sem]
  have e10 : W0.now.cell? ⟨w.heap.size + 1 + 1, 0, none⟩ = some (vo) := by rw [← hW0]; simp [go_sem]
  have e11 : W0.now.cell? ⟨w.heap.size + 1 + 1, 1, none⟩ = some (vd) := by rw [← hW0]; simp [go_sem]
  have e12 : W0.now.cell? ⟨w.heap.size + 1 + 1, 2, none⟩ = some (vw) := by rw [← hW0]; simp [go_sem]
  have e13 : W0.now.cell? ⟨w.heap.size + 1 + 1, 3, none⟩ = some (vi) := by rw [← hW0]; simp [go_sem]
  have l0 : w.heap.size < W0.now.heap.size := by rw [← hW0]; simp; omega
  have l1 : w.heap.size + 1 < W0.now.heap.size := by rw [← hW0]; simp
  have l2 : w.heap.size + 1 + 1 < W0.now.heap.size := by rw [← hW0]; simp
  have l3 : w.heap.size + 1 + 1 + 1 < W0.now.heap.size := by rw [← hW0]; simp
  have g0 : W0.now.cell? ⟨w.heap.size + 1 + 1 + 1, 0, none⟩ = some (.int .i64 0) := by rw [← hW0]; simp [go_sem]
  have g1 : W0.now.cell? ⟨w.heap.size + 1 + 1 + 1, 1, none⟩ = some (.int .i64 0) := by rw [← hW0]; simp [go_sem]
  have z0 : W0.now.frozen? ⟨w.heap.size + 1 + 1 + 1, 0, none⟩ = false := by rw [← hW0]; simp [go_sem]
  have z1 : W0.now.frozen? ⟨w.heap.size + 1 + 1 + 1, 1, none⟩ = false := by rw [← hW0]; simp [go_sem]
  rw [hW0]
  clear hW0
  generalize hB : w.heap.size = B at *
  have HB := Lib.hid hB
  clear hB
  refine wp_region_plan 13 [(0, false), (2, false), (3, false), (1, true), (6, false), (7, false), (8, false), (4, true), (5, true), (9, true), (10, true), (11, false), (12, false)] (fun w' => ∃ x : Ext W0.now, w' = x.now)
    (by kernel_rfl) (by kernel_rfl) (fun _ _ d _ _ h => by cases d <;> exact h) ⟨Ext.drewn _, rfl⟩ ?_
  iterate 3 (refine plan_read rfl (fun K hK => ?_); go_simp; refine hK _ ?_; clear hK K)
  refine plan_step rfl (fun K hK => ?_); go_simp
  refine (HS.out _).mono ?_
  rintro e9 w9 ⟨⟨v, rfl, S, rfl, hSch, hS6⟩, y1, rfl⟩
  refine hK _ _ ⟨(Ext.drewn _).trans y1, rfl⟩ ?_; clear hK K
  have hmm := next_spec S
  have hna := ahead_spec S
  iterate 3 (refine plan_read rfl (fun K hK => ?_); go_simp; refine hK _ ?_; clear hK K)
  refine plan_step rfl (fun K hK => ?_); go_simp
  refine (HZ.out (W0.trans ((Ext.drewn _).trans y1))).mono ?_
  rintro e9 w9 ⟨⟨L, p, rfl, hL⟩, y2, rfl⟩
  refine hK _ _ ⟨((Ext.drewn _).trans y1).trans y2, rfl⟩ ?_; clear hK K
  refine plan_step rfl (fun K hK => ?_); go_simp
  refine (HM.out _ _ _ hL).mono ?_
  rintro e9 w9 ⟨rfl, y3, rfl⟩
  refine hK _ _ ⟨(((Ext.drewn _).trans y1).trans y2).trans y3, rfl⟩ ?_; clear hK K
  refine plan_step rfl (fun K hK => ?_); go_simp
  refine (HNX.out _ S p ((hSch.ext y2).ext y3) (by rw [y3.cell _ _ (hSch.ext y2).lt, y2.cell _ _ hSch.lt]; exact hS6) (hL.ext y3).tpl).mono ?_
  rintro e9 w9 ⟨⟨q', rfl⟩, y4, rfl⟩
  refine hK _ _ ⟨((((Ext.drewn _).trans y1).trans y2).trans y3).trans y4, rfl⟩ ?_; clear hK K
  refine plan_step rfl (fun K hK => ?_); go_simp
  refine (HA.out _ q').mono ?_
  rintro e9 w9 ⟨rfl, y5, rfl⟩
  obtain ⟨z, hz⟩ : ∃ z : Ext W0.now, y5.now = z.now := ⟨(((((Ext.drewn _).trans y1).trans y2).trans y3).trans y4).trans y5, rfl⟩
  refine hK _ _ ⟨z, hz⟩ ?_; clear hK K
  rw [hz]
  clear hz hSch hS6 hL
  iterate 2 (refine plan_read rfl (fun K hK => ?_); go_simp; refine hK _ ?_; clear hK K)
  refine plan_nil ?_
  simp only [List.drop_succ_cons, List.drop_zero]
  go_wp2
  have q0 := (z.cell _ _ l3).trans g0
  have q1 := (z.cell _ _ l3).trans g1
  exact bodyPost_ret (v := .tuple #[.agg #[.int .i64 sa, .int .i64 na], .bool ba]) (by simp [results, Tryz.results14, go_sem, q0, q1]) rfl
    ⟨rfl, Ext.of (((W0.trans z).below.setCell (by have := HB.out; simp; omega) _).setCell (by have := HB.out; simp; omega) _)⟩

set_option maxRecDepth 1000000 in
set_option maxHeartbeats 4000000 in
theorem implNext_every {w : World} {d : Int} (hK : (Kd.every d).Ok) {vo vd vw vi : Value} {O W I : List Int} {nd : Nat} (hZ : ZoneIn w vo vd vw vi O W I nd) (hz : Plain (zoneOf O W I)) {s n m x : Int} (hN : NextIs (.every d) (zoneOf O W I) s n m x)
    (n0 : 0 ≤ n) (n1 : n < 1000000000) (s0 : -62135596800 ≤ s) (s1 : s ≤ 253402300799) (m0 : 0 ≤ m) (m1 : m < 1000000000) (x0 : -9223372036854775808 ≤ x - 62135596800) (x1 : x ≤ 9223372036854775807) :
    Calls Tryz.prog 14 #[schV (.every d), .agg #[.int .i64 s, .int .i64 n], .agg #[vo, vd, vw, vi]] w fun e w' => e = .returned (ansOf m x) ∧ ∃ y : Ext w, w' = y.now := by
  have hmf : ∀ (fn : Fn) (first cap : Array Value) (w : World), (Instr.makeFunc fn first cap).run Tryz.prog w = .ok (.func fn first cap) w := fun _ _ _ _ => rfl
  have HS := Lib.hid (fun (W : World) => schedule_any (.every d) hK none W)
  have HZ := Lib.hid (fun (x : Ext w) => (hZ.ext x).loc)
  have HM := Lib.hid (fun (w9 : World) (l : Nat) (p : Option Addr) (h : Lpl w9 l p (zoneOf O W I)) => moment_l h s n (by omega) (by omega) n0 n1)
  have HA := Lib.hid (fun (W : World) (q : Option Addr) => answer_any m x q W m0 (by omega) x0 x1)
  obtain ⟨sa, na, ba, hans⟩ := ansOf_form m x
  rw [hans] at HA ⊢
  have HNX := Lib.hid (fun (w9 : World) (q : Option Addr) => delayNext_is hK hN q w9 n0 n1 s0 s1)
  simp only [schV] at HS ⊢
  clear hans hN hZ hK hz
  obtain ⟨t, ht⟩ : ∃ t : Int, t = s + 62135596800 := ⟨_, rfl⟩
  rw [← ht] at HM HNX
  clear ht s0 s1 x0 x1
  go_enter Tryz.func14, Tryz.ntmps14
  go_upto_region 1 with fail
  obtain ⟨W0, hW0⟩ : ∃ W0 : Ext w, ((((w.alloc (.cells #[.bool true, .int .i64 d, .int .u64 0, .int .u64 0, .int .u64 0, .int .u64 0, .int .u64 0, .int .u64 0] 46)).alloc (.cells #[.int .i64 s, .int .i64 n] 23)).alloc (.cells #[vo, vd, vw, vi] 28)).alloc (.cells #[.int .i64 0, .int .i64 0] 23)) = W0.now :=
    ⟨(((Ext.one w _).trans (Ext.one _ _)).trans (Ext.one _ _)).trans (Ext.one _ _), rfl⟩
  have e0 : W0.now.cell? ⟨w.heap.size, 0, none⟩ = some (.bool true) := by rw [← hW0]; simp [go_sem]
  have e1 : W0.now.cell? ⟨w.heap.size, 1, none⟩ = some (.int .i64 d) := by rw [← hW0]; simp [go_sem]
  have e2 : W0.now.cell? ⟨w.heap.size, 2, none⟩ = some (.int .u64 0) := by rw [← hW0]; simp [go_sem]
  have e3 : W0.now.cell? ⟨w.heap.size, 3, none⟩ = some (.int .u64 0) := by rw [← hW0]; simp [go_sem]
  have e4 : W0.now.cell? ⟨w.heap.size, 4, none⟩ = some (.int .u64 0) := by rw [← hW0]; simp [go_sem]
  have e5 : W0.now.cell? ⟨w.heap.size, 5, none⟩ = some (.int .u64 0) := by rw [← hW0]; simp [go_sem]
  have e6 : W0.now.cell? ⟨w.heap.size, 6, none⟩ = some (.int .u64 0) := by rw [← hW0]; simp [go_sem]
  have e7 : W0.now.cell? ⟨w.heap.size, 7, none⟩ = some (.int .u64 0) := by rw [← hW0]; simp [go_sem]
  have e8 : W0.now.cell? ⟨w.heap.size + 1, 0, none⟩ = some (.int .i64 s) := by rw [← hW0]; simp [go_sem]
  have e9 : W0.now.cell? ⟨w.heap.size + 1, 1, none⟩ = some (.int .i64 n) := by rw [← hW0]; simp [go_sem]
  have e10 : W0.now.cell? ⟨w.heap.size + 1 + 1, 0, none⟩ = some (vo) := by rw [← hW0]; simp [go_sem]
  have e11 : W0.now.cell? ⟨w.heap.size + 1 + 1, 1, none⟩ = some (vd) := by rw [← hW0]; simp [go_sem]
  have e12 : W0.now.cell? ⟨w.heap.size + 1 + 1, 2, none⟩ = some (vw) := by rw [← hW0]; simp [go_sem]
  have e13 : W0.now.cell? ⟨w.heap.size + 1 + 1, 3, none⟩ = some (vi) := by rw [← hW0]; simp [go_sem]
  have l0 : w.heap.size < W0.now.heap.size := by rw [← hW0]; simp; omega
  have l1 : w.heap.size + 1 < W0.now.heap.size := by rw [← hW0]; simp
  have l2 : w.heap.size + 1 + 1 < W0.now.heap.size := by rw [← hW0]; simp
  have l3 : w.heap.size + 1 + 1 + 1 < W0.now.heap.size := by rw [← hW0]; simp
  have g0 : W0.now.cell? ⟨w.heap.size + 1 + 1 + 1, 0, none⟩ = some (.int .i64 0) := by rw [← hW0]; simp [go_sem]
  have g1 : W0.now.cell? ⟨w.heap.size + 1 + 1 + 1, 1, none⟩ = some (.int .i64 0) := by rw [← hW0]; simp [go_sem]
  have z0 : W0.now.frozen? ⟨w.heap.size + 1 + 1 + 1, 0, none⟩ = false := by rw [← hW0]; simp [go_sem]
  have z1 : W0.now.frozen? ⟨w.heap.size + 1 + 1 + 1, 1, none⟩ = false := by rw [← hW0]; simp [go_sem]
  rw [hW0]
  clear hW0
  generalize hB : w.heap.size = B at *
  have HB := Lib.hid hB
  clear hB
  refine wp_region_plan 13 [(0, false), (2, false), (3, false), (1, true), (6, false), (7, false), (8, false), (4, true), (5, true), (9, true), (10, true), (11, false), (12, false)] (fun w' => ∃ x : Ext W0.now, w' = x.now)
    (by kernel_rfl) (by kernel_rfl) (fun _ _ d _ _ h => by cases d <;> exact h) ⟨Ext.drewn _, rfl⟩ ?_
  iterate 3 (refine plan_read rfl (fun K hK => ?_); go_simp; refine hK _ ?_; clear hK K)
  refine plan_step rfl (fun K hK => ?_); go_simp
  refine (HS.out _).mono ?_
  rintro e9 w9 ⟨⟨v, rfl, rfl⟩, y1, rfl⟩
  refine hK _ _ ⟨(Ext.drewn _).trans y1, rfl⟩ ?_; clear hK K
  have hmm := next_delay d
  have hna := ahead_delay d
  iterate 3 (refine plan_read rfl (fun K hK => ?_); go_simp; refine hK _ ?_; clear hK K)
  refine plan_step rfl (fun K hK => ?_); go_simp
  refine (HZ.out (W0.trans ((Ext.drewn _).trans y1))).mono ?_
  rintro e9 w9 ⟨⟨L, p, rfl, hL⟩, y2, rfl⟩
  refine hK _ _ ⟨((Ext.drewn _).trans y1).trans y2, rfl⟩ ?_; clear hK K
  refine plan_step rfl (fun K hK => ?_); go_simp
  refine (HM.out _ _ _ hL).mono ?_
  rintro e9 w9 ⟨rfl, y3, rfl⟩
  refine hK _ _ ⟨(((Ext.drewn _).trans y1).trans y2).trans y3, rfl⟩ ?_; clear hK K
  refine plan_step rfl (fun K hK => ?_); go_simp
  refine (HNX.out _ p).mono ?_
  rintro e9 w9 ⟨⟨q', rfl⟩, y4, rfl⟩
  refine hK _ _ ⟨((((Ext.drewn _).trans y1).trans y2).trans y3).trans y4, rfl⟩ ?_; clear hK K
  refine plan_step rfl (fun K hK => ?_); go_simp
  refine (HA.out _ q').mono ?_
  rintro e9 w9 ⟨rfl, y5, rfl⟩
  obtain ⟨z, hz⟩ : ∃ z : Ext W0.now, y5.now = z.now := ⟨(((((Ext.drewn _).trans y1).trans y2).trans y3).trans y4).trans y5, rfl⟩
  refine hK _ _ ⟨z, hz⟩ ?_; clear hK K
  rw [hz]
  clear hz hL
  iterate 2 (refine plan_read rfl (fun K hK => ?_); go_simp; refine hK _ ?_; clear hK K)
  refine plan_nil ?_
  simp only [List.drop_succ_cons, List.drop_zero]
  go_wp2
  have q0 := (z.cell _ _ l3).trans g0
  have q1 := (z.cell _ _ l3).trans g1
  exact bodyPost_ret (v := .tuple #[.agg #[.int .i64 sa, .int .i64 na], .bool ba]) (by simp [results, Tryz.results14, go_sem, q0, q1]) rfl
    ⟨rfl, Ext.of (((W0.trans z).below.setCell (by have := HB.out; simp; omega) _).setCell (by have := HB.out; simp; omega) _)⟩

set_option maxRecDepth 1000000 in
set_option maxHeartbeats 4000000 in
theorem implNextIn_sets {w : World} {f : Nat → Nat} (hK : (Kd.sets f).Ok) {vo vd vw vi : Value} {O W I : List Int} {nd : Nat} (hZ : ZoneIn w vo vd vw vi O W I nd) {s n m x : Int} (hN : NextIs (.sets f) utcZn s n m x)
    (n0 : 0 ≤ n) (n1 : n < 1000000000) (s0 : -62135596800 ≤ s) (s1 : s ≤ 253402300799) (m0 : 0 ≤ m) (m1 : m < 1000000000) (x0 : -9223372036854775808 ≤ x - 62135596800) (x1 : x ≤ 9223372036854775807) :
    Calls Tryz.prog 15 #[schV (.sets f), .agg #[nilV, nilV, nilV, nilV], .agg #[.int .i64 s, .int .i64 n], .agg #[vo, vd, vw, vi]] w fun e w' => e = .returned (ansOf m x) ∧ ∃ y : Ext w, w' = y.now := by
  have hmf : ∀ (fn : Fn) (first cap : Array Value) (w : World), (Instr.makeFunc fn first cap).run Tryz.prog w = .ok (.func fn first cap) w := fun _ _ _ _ => rfl
  have HS := Lib.hid (fun (W : World) (L : Nat) => schedule_any (.sets f) hK (some ⟨L, 0, none⟩) W)
  have HZU := Lib.hid (fun (W : World) => (nil_zone W).loc)
  simp only [nilV] at HZU ⊢
  have HZ := Lib.hid (fun (x : Ext w) => (hZ.ext x).loc)
  have HM := Lib.hid (fun (w9 : World) (l : Nat) (p : Option Addr) (h : Lpl w9 l p (zoneOf O W I)) => moment_l h s n (by omega) (by omega) n0 n1)
  have HA := Lib.hid (fun (W : World) (q : Option Addr) => answer_any m x q W m0 (by omega) x0 x1)
  obtain ⟨sa, na, ba, hans⟩ := ansOf_form m x
  rw [hans] at HA ⊢
  have HNX := Lib.hid (fun (w9 : World) (S : Nat) (q : Option Addr) (hS : Sch w9 S f) (L : Nat) (pL : Option Addr) (h6 : w9.cell? ⟨S, 6, none⟩ = some (.pointer (some ⟨L, 0, none⟩))) (hL : Lpl w9 L pL (zoneOf [] [] [])) (hT : Tpl w9 q (zoneOf O W I)) => specNext_any hS h6 (.own hL) utc_plain hT hN n0 n1 s0 s1)
  simp only [schV] at HS ⊢
  obtain ⟨a0, h0⟩ : ∃ a : Int, a = f 0 := ⟨_, rfl⟩
  obtain ⟨a1, h1⟩ : ∃ a : Int, a = f 1 := ⟨_, rfl⟩
  obtain ⟨a2, h2⟩ : ∃ a : Int, a = f 2 := ⟨_, rfl⟩
  obtain ⟨a3, h3⟩ : ∃ a : Int, a = f 3 := ⟨_, rfl⟩
  obtain ⟨a4, h4⟩ : ∃ a : Int, a = f 4 := ⟨_, rfl⟩
  obtain ⟨a5, h5⟩ : ∃ a : Int, a = f 5 := ⟨_, rfl⟩
  rw [← h0, ← h1, ← h2, ← h3, ← h4, ← h5] at HS ⊢
  clear h0 h1 h2 h3 h4 h5 hans hN hZ hK
  obtain ⟨t, ht⟩ : ∃ t : Int, t = s + 62135596800 := ⟨_, rfl⟩
  rw [← ht] at HM HNX
  clear ht s0 s1 x0 x1
  go_enter Tryz.func15, Tryz.ntmps15
  go_upto_region 1 with fail
  obtain ⟨W0, hW0⟩ : ∃ W0 : Ext w, (((((w.alloc (.cells #[.bool false, .int .i64 0, .int .u64 a0, .int .u64 a1, .int .u64 a2, .int .u64 a3, .int .u64 a4, .int .u64 a5] 46)).alloc (.cells #[.slice none 0 0, .slice none 0 0, .slice none 0 0, .slice none 0 0] 28)).alloc (.cells #[.int .i64 s, .int .i64 n] 23)).alloc (.cells #[vo, vd, vw, vi] 28)).alloc (.cells #[.int .i64 0, .int .i64 0] 23)) = W0.now :=
    ⟨((((Ext.one w _).trans (Ext.one _ _)).trans (Ext.one _ _)).trans (Ext.one _ _)).trans (Ext.one _ _), rfl⟩
  have e0 : W0.now.cell? ⟨w.heap.size, 0, none⟩ = some (.bool false) := by rw [← hW0]; simp [go_sem]
  have e1 : W0.now.cell? ⟨w.heap.size, 1, none⟩ = some (.int .i64 0) := by rw [← hW0]; simp [go_sem]
  have e2 : W0.now.cell? ⟨w.heap.size, 2, none⟩ = some (.int .u64 a0) := by rw [← hW0]; simp [go_sem]
  have e3 : W0.now.cell? ⟨w.heap.size, 3, none⟩ = some (.int .u64 a1) := by rw [← hW0]; simp [go_sem]
  have e4 : W0.now.cell? ⟨w.heap.size, 4, none⟩ = some (.int .u64 a2) := by rw [← hW0]; simp [go_sem]
  have e5 : W0.now.cell? ⟨w.heap.size, 5, none⟩ = some (.int .u64 a3) := by rw [← hW0]; simp [go_sem]
  have e6 : W0.now.cell? ⟨w.heap.size, 6, none⟩ = some (.int .u64 a4) := by rw [← hW0]; simp [go_sem]
  have e7 : W0.now.cell? ⟨w.heap.size, 7, none⟩ = some (.int .u64 a5) := by rw [← hW0]; simp [go_sem]
  have e8 : W0.now.cell? ⟨w.heap.size + 1, 0, none⟩ = some (.slice none 0 0) := by rw [← hW0]; simp [go_sem]
  have e9 : W0.now.cell? ⟨w.heap.size + 1, 1, none⟩ = some (.slice none 0 0) := by rw [← hW0]; simp [go_sem]
  have e10 : W0.now.cell? ⟨w.heap.size + 1, 2, none⟩ = some (.slice none 0 0) := by rw [← hW0]; simp [go_sem]
  have e11 : W0.now.cell? ⟨w.heap.size + 1, 3, none⟩ = some (.slice none 0 0) := by rw [← hW0]; simp [go_sem]
  have e12 : W0.now.cell? ⟨w.heap.size + 1 + 1, 0, none⟩ = some (.int .i64 s) := by rw [← hW0]; simp [go_sem]
  have e13 : W0.now.cell? ⟨w.heap.size + 1 + 1, 1, none⟩ = some (.int .i64 n) := by rw [← hW0]; simp [go_sem]
  have e14 : W0.now.cell? ⟨w.heap.size + 1 + 1 + 1, 0, none⟩ = some (vo) := by rw [← hW0]; simp [go_sem]
  have e15 : W0.now.cell? ⟨w.heap.size + 1 + 1 + 1, 1, none⟩ = some (vd) := by rw [← hW0]; simp [go_sem]
  have e16 : W0.now.cell? ⟨w.heap.size + 1 + 1 + 1, 2, none⟩ = some (vw) := by rw [← hW0]; simp [go_sem]
  have e17 : W0.now.cell? ⟨w.heap.size + 1 + 1 + 1, 3, none⟩ = some (vi) := by rw [← hW0]; simp [go_sem]
  have l0 : w.heap.size < W0.now.heap.size := by rw [← hW0]; simp; omega
  have l1 : w.heap.size + 1 < W0.now.heap.size := by rw [← hW0]; simp
  have l2 : w.heap.size + 1 + 1 < W0.now.heap.size := by rw [← hW0]; simp
  have l3 : w.heap.size + 1 + 1 + 1 < W0.now.heap.size := by rw [← hW0]; simp
  have l4 : w.heap.size + 1 + 1 + 1 + 1 < W0.now.heap.size := by rw [← hW0]; simp
  have g0 : W0.now.cell? ⟨w.heap.size + 1 + 1 + 1 + 1, 0, none⟩ = some (.int .i64 0) := by rw [← hW0]; simp [go_sem]
  have g1 : W0.now.cell? ⟨w.heap.size + 1 + 1 + 1 + 1, 1, none⟩ = some (.int .i64 0) := by rw [← hW0]; simp [go_sem]
  have z0 : W0.now.frozen? ⟨w.heap.size + 1 + 1 + 1 + 1, 0, none⟩ = false := by rw [← hW0]; simp [go_sem]
  have z1 : W0.now.frozen? ⟨w.heap.size + 1 + 1 + 1 + 1, 1, none⟩ = false := by rw [← hW0]; simp [go_sem]
  rw [hW0]
  clear hW0
  generalize hB : w.heap.size = B at *
  have HB := Lib.hid hB
  clear hB
  refine wp_region_plan 15 [(0, false), (1, false), (4, false), (5, false), (2, true), (3, true), (8, false), (9, false), (10, false), (6, true), (7, true), (11, true), (12, true), (13, false), (14, false)] (fun w' => ∃ x : Ext W0.now, w' = x.now)
    (by kernel_rfl) (by kernel_rfl) (fun _ _ d _ _ h => by cases d <;> exact h) ⟨Ext.drewn _, rfl⟩ ?_
  iterate 4 (refine plan_read rfl (fun K hK => ?_); go_simp; refine hK _ ?_; clear hK K)
  refine plan_step rfl (fun K hK => ?_); go_simp
  refine (HZU.out _).mono ?_
  rintro e9 w9 ⟨⟨LU, pU, rfl, hLU⟩, y0, rfl⟩
  refine hK _ _ ⟨(Ext.drewn _).trans y0, rfl⟩ ?_; clear hK K
  refine plan_step rfl (fun K hK => ?_); go_simp
  refine (HS.out _ LU).mono ?_
  rintro e9 w9 ⟨⟨v, rfl, S, rfl, hSch, hS6⟩, y1, rfl⟩
  refine hK _ _ ⟨((Ext.drewn _).trans y0).trans y1, rfl⟩ ?_; clear hK K
  have hmm := next_spec S
  have hna := ahead_spec S
  iterate 3 (refine plan_read rfl (fun K hK => ?_); go_simp; refine hK _ ?_; clear hK K)
  refine plan_step rfl (fun K hK => ?_); go_simp
  refine (HZ.out (W0.trans (((Ext.drewn _).trans y0).trans y1))).mono ?_
  rintro e9 w9 ⟨⟨L, p, rfl, hL⟩, y2, rfl⟩
  refine hK _ _ ⟨(((Ext.drewn _).trans y0).trans y1).trans y2, rfl⟩ ?_; clear hK K
  refine plan_step rfl (fun K hK => ?_); go_simp
  refine (HM.out _ _ _ hL).mono ?_
  rintro e9 w9 ⟨rfl, y3, rfl⟩
  refine hK _ _ ⟨((((Ext.drewn _).trans y0).trans y1).trans y2).trans y3, rfl⟩ ?_; clear hK K
  refine plan_step rfl (fun K hK => ?_); go_simp
  refine (HNX.out _ S p ((hSch.ext y2).ext y3) LU pU (by rw [y3.cell _ _ (hSch.ext y2).lt, y2.cell _ _ hSch.lt]; exact hS6) (((hLU.ext y1).ext y2).ext y3) (hL.ext y3).tpl).mono ?_
  rintro e9 w9 ⟨⟨q', rfl⟩, y4, rfl⟩
  refine hK _ _ ⟨(((((Ext.drewn _).trans y0).trans y1).trans y2).trans y3).trans y4, rfl⟩ ?_; clear hK K
  refine plan_step rfl (fun K hK => ?_); go_simp
  refine (HA.out _ q').mono ?_
  rintro e9 w9 ⟨rfl, y5, rfl⟩
  obtain ⟨z, hz⟩ : ∃ z : Ext W0.now, y5.now = z.now := ⟨((((((Ext.drewn _).trans y0).trans y1).trans y2).trans y3).trans y4).trans y5, rfl⟩
  refine hK _ _ ⟨z, hz⟩ ?_; clear hK K
  rw [hz]
  clear hz hSch hS6 hL hLU
  iterate 2 (refine plan_read rfl (fun K hK => ?_); go_simp; refine hK _ ?_; clear hK K)
  refine plan_nil ?_
  simp only [List.drop_succ_cons, List.drop_zero]
  go_wp2
  have q0 := (z.cell _ _ l4).trans g0
  have q1 := (z.cell _ _ l4).trans g1
  exact bodyPost_ret (v := .tuple #[.agg #[.int .i64 sa, .int .i64 na], .bool ba]) (by simp [results, Tryz.results15, go_sem, q0, q1]) rfl
    ⟨rfl, Ext.of (((W0.trans z).below.setCell (by have := HB.out; simp; omega) _).setCell (by have := HB.out; simp; omega) _)⟩

end Go.Proofs.YtopcjlimjkfoiaaGreatDoor
namespace Go.Proofs.YtopcjlimjkfoiaaGreatDoor
open Go.RowKit Go.Cal
attribute [local go_sem] Ext.cell Ext.frozen Ext.lt Ext.lt_add Ext.cell2 Ext.frozen2

def ParsesTo (o : Nat) (s : ByteArray) (u : Bool) (K : Kd) : Prop := ∀ w : World, Calls Tryz.prog 29 #[.agg #[.int .i64 o], .string s] w fun e w' =>
  (∃ v p, e = .returned (.tuple #[v, .nilIface]) ∧ IfAt w' p K v ∧ ∀ f, K = .sets f → OwnPlace w' u p) ∧ ∃ y : Ext w, w' = y.now

theorem OwnPlace.place {w : World} {u : Bool} {p : Option Addr} (h : OwnPlace w u p) (zo : Zn) : PlaceAt w zo p (if u then utcZn else zo) := by
  rcases h with ⟨rfl, rfl⟩ | ⟨rfl, L, rfl, hL⟩
  · exact .nil
  · exact .own hL

theorem schV_form (K : Kd) : ∃ (b : Bool) (d a0 a1 a2 a3 a4 a5 : Int), schV K = .agg #[.bool b, .int .i64 d, .int .u64 a0, .int .u64 a1, .int .u64 a2, .int .u64 a3, .int .u64 a4, .int .u64 a5] := by
  cases K with
  | sets f => exact ⟨_, _, _, _, _, _, _, _, rfl⟩
  | every d => exact ⟨_, _, _, _, _, _, _, _, rfl⟩

set_option maxRecDepth 1000000 in
set_option maxHeartbeats 4000000 in
theorem parseCron_any (o : Nat) (ho : o < 512) (hno : ¬ (o.testBit 1 = true ∧ o.testBit 7 = true)) {s : ByteArray} {u : Bool} {K : Kd} (hP : ParsesTo o s u K) (w : World) :
    Calls Tryz.prog 12 #[.int .i64 o, .string s] w fun e w' => e = .returned (.tuple #[schV K, .bool true]) ∧ ∃ y : Ext w, w' = y.now := by
  have HP := Lib.hid hP
  have HPR := Lib.hid (fun (W : World) => parser_any o ho hno W)
  have HPL := Lib.hid (fun (W : World) (v : Value) (p : Option Addr) (h : IfAt W p K v) => plainSchedule_any h)
  obtain ⟨b, d, a0, a1, a2, a3, a4, a5, hv⟩ := schV_form K
  rw [hv] at HPL ⊢
  clear hv hP hno
  go_enter Tryz.func12, Tryz.ntmps12
  go_wp2_with (first
    | (go_at_call 27; (with_reducible refine (HPR.out _).mono ?_); rintro e9 w9 ⟨rfl, y9, rfl⟩)
    | (go_at_call 29; (refine (HP.out _).mono ?_); rintro e8 w8 ⟨⟨v, p, rfl, hv, _⟩, y8, rfl⟩; have HV := Lib.hid hv; clear hv)
    | (go_at_call 28; (refine (HPL.out _ _ _ HV.out).mono ?_); rintro e7 w7 ⟨rfl, y7, rfl⟩))
  obtain ⟨q, hq⟩ : ∃ q : Ext (w.alloc (.cells #[.bool false, .int .i64 0, .int .u64 0, .int .u64 0, .int .u64 0, .int .u64 0, .int .u64 0, .int .u64 0] 46)), y7.now = q.now := ⟨((y9.trans (Ext.one y9.now _)).trans y8).trans y7, rfl⟩
  rw [hq]
  clear hq HV
  have c0 : q.now.cell? ⟨w.heap.size, 0, none⟩ = some (.bool false) := by rw [q.cell _ _ (by simp)]; simp [go_sem]
  have c1 : q.now.cell? ⟨w.heap.size, 1, none⟩ = some (.int .i64 0) := by rw [q.cell _ _ (by simp)]; simp [go_sem]
  have c2 : q.now.cell? ⟨w.heap.size, 2, none⟩ = some (.int .u64 0) := by rw [q.cell _ _ (by simp)]; simp [go_sem]
  have c3 : q.now.cell? ⟨w.heap.size, 3, none⟩ = some (.int .u64 0) := by rw [q.cell _ _ (by simp)]; simp [go_sem]
  have c4 : q.now.cell? ⟨w.heap.size, 4, none⟩ = some (.int .u64 0) := by rw [q.cell _ _ (by simp)]; simp [go_sem]
  have c5 : q.now.cell? ⟨w.heap.size, 5, none⟩ = some (.int .u64 0) := by rw [q.cell _ _ (by simp)]; simp [go_sem]
  have c6 : q.now.cell? ⟨w.heap.size, 6, none⟩ = some (.int .u64 0) := by rw [q.cell _ _ (by simp)]; simp [go_sem]
  have c7 : q.now.cell? ⟨w.heap.size, 7, none⟩ = some (.int .u64 0) := by rw [q.cell _ _ (by simp)]; simp [go_sem]
  exact bodyPost_ret (v := .tuple #[.agg #[.bool b, .int .i64 d, .int .u64 a0, .int .u64 a1, .int .u64 a2, .int .u64 a3, .int .u64 a4, .int .u64 a5], .bool true]) (by simp [results, Tryz.results12, go_sem, c0, c1, c2, c3, c4, c5, c6, c7]) rfl
    ⟨rfl, by
      refine Ext.of ?_
      repeat (refine Below.setCell ?_ (by simp) _)
      exact ((Ext.one w _).trans q).below⟩

set_option maxRecDepth 1000000 in
set_option maxHeartbeats 4000000 in
theorem textAfter_sets (o : Nat) (ho : o < 512) (hno : ¬ (o.testBit 1 = true ∧ o.testBit 7 = true)) {t : ByteArray} {u : Bool} {f : Nat → Nat} (hP : ParsesTo o t u (.sets f)) {w : World} {vo vd vw vi : Value} {O W I : List Int} {nd : Nat} (hZ : ZoneIn w vo vd vw vi O W I nd)
    (hz : Plain (zoneOf O W I)) {s n m x : Int} (hN : NextIs (.sets f) (if u then utcZn else zoneOf O W I) s n m x)
    (n0 : 0 ≤ n) (n1 : n < 1000000000) (s0 : -62135596800 ≤ s) (s1 : s ≤ 253402300799) (m0 : 0 ≤ m) (m1 : m < 1000000000) (x0 : -9223372036854775808 ≤ x - 62135596800) (x1 : x ≤ 9223372036854775807) (sa na : Int) (ba : Bool) (hans : ansOf m x = .tuple #[.agg #[.int .i64 sa, .int .i64 na], .bool ba]) :
    Calls Tryz.prog 13 #[.int .i64 o, .string t, .agg #[.int .i64 s, .int .i64 n], .agg #[vo, vd, vw, vi]] w fun e w' => e = .returned (.tuple #[.agg #[.int .i64 sa, .int .i64 na], .bool ba, .bool true]) ∧ ∃ y : Ext w, w' = y.now := by
  have hmf : ∀ (fn : Fn) (first cap : Array Value) (w : World), (Instr.makeFunc fn first cap).run Tryz.prog w = .ok (.func fn first cap) w := fun _ _ _ _ => rfl
  have HP := Lib.hid hP
  have HPR := Lib.hid (fun (W : World) => parser_any o ho hno W)
  have HZ := Lib.hid (fun (x : Ext w) => (hZ.ext x).loc)
  have HM := Lib.hid (fun (w9 : World) (l : Nat) (p : Option Addr) (h : Lpl w9 l p (zoneOf O W I)) => moment_l h s n (by omega) (by omega) n0 n1)
  have HA := Lib.hid (fun (W : World) (q : Option Addr) => answer_any m x q W m0 (by omega) x0 x1)
  rw [hans] at HA
  have hz2 : Plain (if u then utcZn else zoneOf O W I) := by
    cases u
    · exact hz
    · exact utc_plain
  have HNX := Lib.hid (fun (w9 : World) (S : Nat) (pl q : Option Addr) (hS : Sch w9 S f) (h6 : w9.cell? ⟨S, 6, none⟩ = some (.pointer pl)) (hpl : PlaceAt w9 (zoneOf O W I) pl (if u then utcZn else zoneOf O W I)) (hT : Tpl w9 q (zoneOf O W I)) => specNext_any hS h6 hpl hz2 hT hN n0 n1 s0 s1)
  obtain ⟨tt, htt⟩ : ∃ tt : Int, tt = s + 62135596800 := ⟨_, rfl⟩
  rw [← htt] at HM HNX
  clear htt s0 s1 x0 x1 hans hN hZ hz hz2 hP hno
  go_enter Tryz.func13, Tryz.ntmps13
  go_upto_region 7 with (first
    | (go_at_call 27; (with_reducible refine (HPR.out _).mono ?_); rintro e9 w9 ⟨rfl, y9, rfl⟩)
    | (go_at_call 29; (refine (HP.out _).mono ?_); rintro e8 w8 ⟨⟨v, pl, rfl, ⟨S, rfl, hSch, hS6⟩, hOP⟩, y8, rfl⟩; have HSCH := Lib.hid hSch; have HS6 := Lib.hid hS6; have HOP := Lib.hid (hOP f rfl); clear hSch hS6 hOP))
  obtain ⟨q, hq⟩ : ∃ q : Ext (((w.alloc (.cells #[.int .i64 s, .int .i64 n] 23)).alloc (.cells #[vo, vd, vw, vi] 28)).alloc (.cells #[.int .i64 0, .int .i64 0] 23)), y8.now = q.now := ⟨(y9.trans (Ext.one y9.now _)).trans y8, rfl⟩
  obtain ⟨Wa, hWa⟩ : ∃ Wa : Ext w, (w.alloc (.cells #[.int .i64 s, .int .i64 n] 23)).alloc (.cells #[vo, vd, vw, vi] 28) = Wa.now := ⟨(Ext.one w _).trans (Ext.one _ _), rfl⟩
  obtain ⟨W0, hW0⟩ : ∃ W0 : Ext Wa.now, q.now = W0.now := by
    rw [← hWa]
    exact ⟨(Ext.one _ _).trans q, rfl⟩
  rw [hq.trans hW0] at HSCH HS6 HOP ⊢
  have e0 : Wa.now.cell? ⟨w.heap.size, 0, none⟩ = some (.int .i64 s) := by rw [← hWa]; simp [go_sem]
  have e1 : Wa.now.cell? ⟨w.heap.size, 1, none⟩ = some (.int .i64 n) := by rw [← hWa]; simp [go_sem]
  have e2 : Wa.now.cell? ⟨w.heap.size + 1, 0, none⟩ = some (vo) := by rw [← hWa]; simp [go_sem]
  have e3 : Wa.now.cell? ⟨w.heap.size + 1, 1, none⟩ = some (vd) := by rw [← hWa]; simp [go_sem]
  have e4 : Wa.now.cell? ⟨w.heap.size + 1, 2, none⟩ = some (vw) := by rw [← hWa]; simp [go_sem]
  have e5 : Wa.now.cell? ⟨w.heap.size + 1, 3, none⟩ = some (vi) := by rw [← hWa]; simp [go_sem]
  have l0 : w.heap.size < Wa.now.heap.size := by rw [← hWa]; simp; omega
  have l1 : w.heap.size + 1 < Wa.now.heap.size := by rw [← hWa]; simp
  have hle : Wa.now.heap.size ≤ w.heap.size + 1 + 1 := by rw [← hWa]; simp
  have l2 : w.heap.size + 1 + 1 < W0.now.heap.size := by rw [← hW0]; exact q.lt _ (by simp)
  have g0 : W0.now.cell? ⟨w.heap.size + 1 + 1, 0, none⟩ = some (.int .i64 0) := by rw [← hW0, q.cell _ _ (by simp)]; simp [go_sem]
  have g1 : W0.now.cell? ⟨w.heap.size + 1 + 1, 1, none⟩ = some (.int .i64 0) := by rw [← hW0, q.cell _ _ (by simp)]; simp [go_sem]
  have z0 : W0.now.frozen? ⟨w.heap.size + 1 + 1, 0, none⟩ = false := by rw [← hW0, q.frozen _ _ (by simp)]; simp [go_sem]
  have z1 : W0.now.frozen? ⟨w.heap.size + 1 + 1, 1, none⟩ = false := by rw [← hW0, q.frozen _ _ (by simp)]; simp [go_sem]
  clear hW0 hq hWa
  generalize hB : w.heap.size = B at *
  have HB := Lib.hid hB
  clear hB
  have hmm := next_spec S
  have hna := ahead_spec S
  refine wp_region_plan 14 [(0, false), (1, false), (2, false), (5, false), (6, false), (7, false), (3, true), (4, true), (8, true), (9, true), (10, false), (11, false), (12, false), (13, true)] (fun w' => ∃ x : Ext Wa.now, w' = x.now)
    (by kernel_rfl) (by kernel_rfl) (fun _ _ d _ _ h => by cases d <;> exact h) ⟨W0.trans (Ext.drewn _), rfl⟩ ?_
  iterate 6 (refine plan_read rfl (fun K hK => ?_); go_simp; refine hK _ ?_; clear hK K)
  refine plan_step rfl (fun K hK => ?_); go_simp
  refine (HZ.out ((Wa.trans W0).trans (Ext.drewn _))).mono ?_
  rintro e9 w9 ⟨⟨L, p, rfl, hL⟩, y2, rfl⟩
  refine hK _ _ ⟨W0.trans ((Ext.drewn _).trans y2), rfl⟩ ?_; clear hK K
  refine plan_step rfl (fun K hK => ?_); go_simp
  refine (HM.out _ _ _ hL).mono ?_
  rintro e9 w9 ⟨rfl, y3, rfl⟩
  refine hK _ _ ⟨W0.trans (((Ext.drewn _).trans y2).trans y3), rfl⟩ ?_; clear hK K
  obtain ⟨yy, hyy⟩ : ∃ yy : Ext W0.now, y3.now = yy.now := ⟨((Ext.drewn _).trans y2).trans y3, rfl⟩
  have hLt := (hL.ext y3).tpl
  rw [hyy] at hLt ⊢
  clear hyy
  refine plan_step rfl (fun K hK => ?_); go_simp
  refine (HNX.out _ S pl p (HSCH.out.ext yy) (by rw [yy.cell _ _ HSCH.out.lt]; exact HS6.out) ((HOP.out.place (zoneOf O W I)).ext yy) hLt).mono ?_
  rintro e9 w9 ⟨⟨q', rfl⟩, y4, rfl⟩
  refine hK _ _ ⟨W0.trans (yy.trans y4), rfl⟩ ?_; clear hK K
  refine plan_step rfl (fun K hK => ?_); go_simp
  refine (HA.out _ q').mono ?_
  rintro e9 w9 ⟨rfl, y5, rfl⟩
  obtain ⟨z, hz⟩ : ∃ z : Ext W0.now, y5.now = z.now := ⟨(yy.trans y4).trans y5, rfl⟩
  refine hK _ _ ⟨W0.trans z, hz⟩ ?_; clear hK K
  rw [hz]
  clear hz hL hLt HSCH HS6 HOP
  iterate 3 (refine plan_read rfl (fun K hK => ?_); go_simp; refine hK _ ?_; clear hK K)
  have q0 := (z.cell _ _ l2).trans g0
  have q1 := (z.cell _ _ l2).trans g1
  refine plan_step rfl (fun K hK => ?_); go_simp
  refine hK _ _ ⟨⟨_, (((W0.trans z).below.setCell hle _).setCell hle _)⟩, rfl⟩ ?_; clear hK K
  refine plan_nil ?_
  simp only [List.drop_succ_cons, List.drop_zero]
  go_wp2
  have r1 : ((((z.now.setCell ⟨B + 1 + 1, 0, none⟩ (.int .i64 sa)).setCell ⟨B + 1 + 1, 1, none⟩ (.int .i64 na)).setCell ⟨B + 1 + 1, 0, none⟩ (.int .i64 sa)).setCell ⟨B + 1 + 1, 1, none⟩ (.int .i64 na)).cell? ⟨B + 1 + 1, 1, none⟩ = some (.int .i64 na) :=
    World.cell?_setCell_same _ _ _ ((World.cell?_setCell_other _ _ _ _ (by simp)).trans (World.cell?_setCell_same _ _ _ ((World.cell?_setCell_other _ _ _ _ (by simp)).trans q1)))
  exact bodyPost_ret (v := .tuple #[.agg #[.int .i64 sa, .int .i64 na], .bool ba, .bool true]) (by simp [results, Tryz.results13, go_sem, q0, r1]) rfl
    ⟨rfl, by
      refine Ext.of ?_
      repeat (refine Below.setCell ?_ (by have := HB.out; simp; omega) _)
      exact ((Wa.trans W0).trans z).below⟩

set_option maxRecDepth 1000000 in
set_option maxHeartbeats 4000000 in
theorem textAfter_every (o : Nat) (ho : o < 512) (hno : ¬ (o.testBit 1 = true ∧ o.testBit 7 = true)) {t : ByteArray} {u : Bool} {d : Int} (hK : (Kd.every d).Ok) (hP : ParsesTo o t u (.every d)) {w : World} {vo vd vw vi : Value} {O W I : List Int} {nd : Nat} (hZ : ZoneIn w vo vd vw vi O W I nd)
    {zz : Zn} {s n m x : Int} (hN : NextIs (.every d) zz s n m x)
    (n0 : 0 ≤ n) (n1 : n < 1000000000) (s0 : -62135596800 ≤ s) (s1 : s ≤ 253402300799) (m0 : 0 ≤ m) (m1 : m < 1000000000) (x0 : -9223372036854775808 ≤ x - 62135596800) (x1 : x ≤ 9223372036854775807) (sa na : Int) (ba : Bool) (hans : ansOf m x = .tuple #[.agg #[.int .i64 sa, .int .i64 na], .bool ba]) :
    Calls Tryz.prog 13 #[.int .i64 o, .string t, .agg #[.int .i64 s, .int .i64 n], .agg #[vo, vd, vw, vi]] w fun e w' => e = .returned (.tuple #[.agg #[.int .i64 sa, .int .i64 na], .bool ba, .bool true]) ∧ ∃ y : Ext w, w' = y.now := by
  have hmf : ∀ (fn : Fn) (first cap : Array Value) (w : World), (Instr.makeFunc fn first cap).run Tryz.prog w = .ok (.func fn first cap) w := fun _ _ _ _ => rfl
  have HP := Lib.hid hP
  have HPR := Lib.hid (fun (W : World) => parser_any o ho hno W)
  have HZ := Lib.hid (fun (x : Ext w) => (hZ.ext x).loc)
  have HM := Lib.hid (fun (w9 : World) (l : Nat) (p : Option Addr) (h : Lpl w9 l p (zoneOf O W I)) => moment_l h s n (by omega) (by omega) n0 n1)
  have HA := Lib.hid (fun (W : World) (q : Option Addr) => answer_any m x q W m0 (by omega) x0 x1)
  rw [hans] at HA
  have HNX := Lib.hid (fun (w9 : World) (q : Option Addr) => delayNext_is hK hN q w9 n0 n1 s0 s1)
  obtain ⟨tt, htt⟩ : ∃ tt : Int, tt = s + 62135596800 := ⟨_, rfl⟩
  rw [← htt] at HM HNX
  clear htt s0 s1 x0 x1 hans hN hZ hP hno
  go_enter Tryz.func13, Tryz.ntmps13
  go_upto_region 7 with (first
    | (go_at_call 27; (with_reducible refine (HPR.out _).mono ?_); rintro e9 w9 ⟨rfl, y9, rfl⟩)
    | (go_at_call 29; (refine (HP.out _).mono ?_); rintro e8 w8 ⟨⟨v, pl, rfl, rfl, _⟩, y8, rfl⟩))
  obtain ⟨q, hq⟩ : ∃ q : Ext (((w.alloc (.cells #[.int .i64 s, .int .i64 n] 23)).alloc (.cells #[vo, vd, vw, vi] 28)).alloc (.cells #[.int .i64 0, .int .i64 0] 23)), y8.now = q.now := ⟨(y9.trans (Ext.one y9.now _)).trans y8, rfl⟩
  obtain ⟨Wa, hWa⟩ : ∃ Wa : Ext w, (w.alloc (.cells #[.int .i64 s, .int .i64 n] 23)).alloc (.cells #[vo, vd, vw, vi] 28) = Wa.now := ⟨(Ext.one w _).trans (Ext.one _ _), rfl⟩
  obtain ⟨W0, hW0⟩ : ∃ W0 : Ext Wa.now, q.now = W0.now := by
    rw [← hWa]
    exact ⟨(Ext.one _ _).trans q, rfl⟩
  rw [hq.trans hW0]
  have e0 : Wa.now.cell? ⟨w.heap.size, 0, none⟩ = some (.int .i64 s) := by rw [← hWa]; simp [go_sem]
  have e1 : Wa.now.cell? ⟨w.heap.size, 1, none⟩ = some (.int .i64 n) := by rw [← hWa]; simp [go_sem]
  have e2 : Wa.now.cell? ⟨w.heap.size + 1, 0, none⟩ = some (vo) := by rw [← hWa]; simp [go_sem]
  have e3 : Wa.now.cell? ⟨w.heap.size + 1, 1, none⟩ = some (vd) := by rw [← hWa]; simp [go_sem]
  have e4 : Wa.now.cell? ⟨w.heap.size + 1, 2, none⟩ = some (vw) := by rw [← hWa]; simp [go_sem]
  have e5 : Wa.now.cell? ⟨w.heap.size + 1, 3, none⟩ = some (vi) := by rw [← hWa]; simp [go_sem]
  have l0 : w.heap.size < Wa.now.heap.size := by rw [← hWa]; simp; omega
  have l1 : w.heap.size + 1 < Wa.now.heap.size := by rw [← hWa]; simp
  have hle : Wa.now.heap.size ≤ w.heap.size + 1 + 1 := by rw [← hWa]; simp
  have l2 : w.heap.size + 1 + 1 < W0.now.heap.size := by rw [← hW0]; exact q.lt _ (by simp)
  have g0 : W0.now.cell? ⟨w.heap.size + 1 + 1, 0, none⟩ = some (.int .i64 0) := by rw [← hW0, q.cell _ _ (by simp)]; simp [go_sem]
  have g1 : W0.now.cell? ⟨w.heap.size + 1 + 1, 1, none⟩ = some (.int .i64 0) := by rw [← hW0, q.cell _ _ (by simp)]; simp [go_sem]
  have z0 : W0.now.frozen? ⟨w.heap.size + 1 + 1, 0, none⟩ = false := by rw [← hW0, q.frozen _ _ (by simp)]; simp [go_sem]
  have z1 : W0.now.frozen? ⟨w.heap.size + 1 + 1, 1, none⟩ = false := by rw [← hW0, q.frozen _ _ (by simp)]; simp [go_sem]
  clear hW0 hq hWa
  generalize hB : w.heap.size = B at *
  have HB := Lib.hid hB
  clear hB
  have hmm := next_delay d
  have hna := ahead_delay d
  refine wp_region_plan 14 [(0, false), (1, false), (2, false), (5, false), (6, false), (7, false), (3, true), (4, true), (8, true), (9, true), (10, false), (11, false), (12, false), (13, true)] (fun w' => ∃ x : Ext Wa.now, w' = x.now)
    (by kernel_rfl) (by kernel_rfl) (fun _ _ d _ _ h => by cases d <;> exact h) ⟨W0.trans (Ext.drewn _), rfl⟩ ?_
  iterate 6 (refine plan_read rfl (fun K hK => ?_); go_simp; refine hK _ ?_; clear hK K)
  refine plan_step rfl (fun K hK => ?_); go_simp
  refine (HZ.out ((Wa.trans W0).trans (Ext.drewn _))).mono ?_
  rintro e9 w9 ⟨⟨L, p, rfl, hL⟩, y2, rfl⟩
  refine hK _ _ ⟨W0.trans ((Ext.drewn _).trans y2), rfl⟩ ?_; clear hK K
  refine plan_step rfl (fun K hK => ?_); go_simp
  refine (HM.out _ _ _ hL).mono ?_
  rintro e9 w9 ⟨rfl, y3, rfl⟩
  refine hK _ _ ⟨W0.trans (((Ext.drewn _).trans y2).trans y3), rfl⟩ ?_; clear hK K
  obtain ⟨yy, hyy⟩ : ∃ yy : Ext W0.now, y3.now = yy.now := ⟨((Ext.drewn _).trans y2).trans y3, rfl⟩
  rw [hyy]
  clear hyy
  refine plan_step rfl (fun K hK => ?_); go_simp
  refine (HNX.out _ p).mono ?_
  rintro e9 w9 ⟨⟨q', rfl⟩, y4, rfl⟩
  refine hK _ _ ⟨W0.trans (yy.trans y4), rfl⟩ ?_; clear hK K
  refine plan_step rfl (fun K hK => ?_); go_simp
  refine (HA.out _ q').mono ?_
  rintro e9 w9 ⟨rfl, y5, rfl⟩
  obtain ⟨z, hz⟩ : ∃ z : Ext W0.now, y5.now = z.now := ⟨(yy.trans y4).trans y5, rfl⟩
  refine hK _ _ ⟨W0.trans z, hz⟩ ?_; clear hK K
  rw [hz]
  clear hz hL
  iterate 3 (refine plan_read rfl (fun K hK => ?_); go_simp; refine hK _ ?_; clear hK K)
  have q0 := (z.cell _ _ l2).trans g0
  have q1 := (z.cell _ _ l2).trans g1
  refine plan_step rfl (fun K hK => ?_); go_simp
  refine hK _ _ ⟨⟨_, (((W0.trans z).below.setCell hle _).setCell hle _)⟩, rfl⟩ ?_; clear hK K
  refine plan_nil ?_
  simp only [List.drop_succ_cons, List.drop_zero]
  go_wp2
  have r1 : ((((z.now.setCell ⟨B + 1 + 1, 0, none⟩ (.int .i64 sa)).setCell ⟨B + 1 + 1, 1, none⟩ (.int .i64 na)).setCell ⟨B + 1 + 1, 0, none⟩ (.int .i64 sa)).setCell ⟨B + 1 + 1, 1, none⟩ (.int .i64 na)).cell? ⟨B + 1 + 1, 1, none⟩ = some (.int .i64 na) :=
    World.cell?_setCell_same _ _ _ ((World.cell?_setCell_other _ _ _ _ (by simp)).trans (World.cell?_setCell_same _ _ _ ((World.cell?_setCell_other _ _ _ _ (by simp)).trans q1)))
  exact bodyPost_ret (v := .tuple #[.agg #[.int .i64 sa, .int .i64 na], .bool ba, .bool true]) (by simp [results, Tryz.results13, go_sem, q0, r1]) rfl
    ⟨rfl, by
      refine Ext.of ?_
      repeat (refine Below.setCell ?_ (by have := HB.out; simp; omega) _)
      exact ((Wa.trans W0).trans z).below⟩

end Go.Proofs.YtopcjlimjkfoiaaGreatDoor
