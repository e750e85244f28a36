/-
FnCronTextAfterRoads: the calendar, the schedules, their texts and the zones, part 16 of 34.
-/
import Derived.Test.YtopcjlimjkfoiaaGreatDoorV15
set_option linter.all false
namespace Go.Proofs.YtopcjlimjkfoiaaGreatDoor
open Go.RowKit
attribute [local go_sem] Ext.cell Ext.frozen Ext.lt Ext.lt_add Ext.cell2 Ext.frozen2

section
variable {P : Program} {o : Oper} {a : Act} {w : World} {K : Act → World → Prop} {Q : Exit → Act → World → Prop}
theorem oper_load_bools (ty : TypeId) (x : Operand) (ho : o.op = .load ty x) (g off n k : Nat) (hx : a.eval x = .pointer (some ⟨g, off, none⟩)) (hb : BB w g n) (hk : off + k ≤ n) (hu : aggT P ty = true)
    (hi : (P.info? ty).map (·.size) = some k) (h : ∀ cs, Bs cs k → K (a.put o.dst (.agg cs)) w) : o.wp P a w K Q := by
  obtain ⟨cs, hc, hl⟩ := run_loadVar_bools (P := P) hb hk hu hi
  unfold Oper.wp execOp
  simp only [ho, hx, Instr.loadAt, Instr.sureAddr, Sem.run_bind, Sem.run_pure, Result.andThen_ok, hl]
  exact h cs hc

theorem oper_store_bools (ty : TypeId) (x y : Operand) (ho : o.op = .store ty x y) (g off n m : Nat) (cs : Array Value) (hx : a.eval x = .pointer (some ⟨g, off, none⟩)) (hy : a.eval y = .agg cs)
    (hb : BB w g n) (hc : Bs cs m) (hm : off + m ≤ n) (hi : (P.info? ty).map (·.size) = some m)
    (h : ∀ w', w' = w.setCells g off cs.toList → K (a.put o.dst undef) w') : o.wp P a w K Q := by
  unfold Oper.wp execOp
  simp only [ho, hx, hy, Instr.storeAt, Instr.sureAddr, Sem.run_bind, Sem.run_pure, Result.andThen_ok, run_storeVar_boolsAt off hb hc hm hi]
  exact h _ rfl

theorem oper_alloc_bools (ty : TypeId) (ho : o.op = .alloc ty) (n : Nat) (hz : (P.info? ty).map (fun i => (i.zero, i.size)) = some (some (.agg (Array.replicate n (.bool false))), n))
    (h : ∀ cs, Bs cs n → K (a.put o.dst (.pointer (some ⟨w.heap.size, 0, none⟩))) (w.alloc (.cells cs ty))) : o.wp P a w K Q := by
  have hzr := (zero_of_info hz).1 w
  have h1 := h _ (Bs.falses n)
  unfold Oper.wp execOp
  simp only [ho]
  simp [Instr.alloc, Sem.run_bind, hzr, newVar, newRow, Value.cells, go_sem]
  exact h1

theorem BB.get2 {P : Program} {w : World} {g n : Nat} (h : BB w g n) : ∃ cs, Bs cs n ∧ ∀ w', (∀ j, j < n → w'.cell? ⟨g, j, none⟩ = w.cell? ⟨g, j, none⟩) → (loadCellsFrom ⟨g, 0, none⟩ 0 n #[]).run P w' = .ok cs w' := by
  have hadd : ∀ j, (⟨g, 0, none⟩ : Addr).add j = ⟨g, 0 + j, none⟩ := fun j => by unfold Addr.add; split <;> simp_all
  refine ⟨_, ?_, fun w' hw => run_loadCells (P := P) w' ⟨g, 0, none⟩ n (fun j => (w.cell? ⟨g, j, none⟩).getD undef) (fun j hj => by
    obtain ⟨b, hb⟩ := h.at_ j hj
    rw [hadd, Nat.zero_add, hw j hj, hb]
    rfl)⟩
  refine ⟨by simp, fun j hj => ?_⟩
  obtain ⟨b, hb⟩ := h.at_ j hj
  refine ⟨b, ?_⟩
  simp [hj, hb]

theorem readAt_bools (ty : TypeId) (x : Operand) (ho : o.op = .load ty x) (g n : Nat) (hx : a.eval x = .pointer (some ⟨g, 0, none⟩)) (hb : BB w g n) (hu : aggT P ty = true)
    (hi : (P.info? ty).map (·.size) = some n) : ∃ cs, Bs cs n ∧ ∀ w', (∀ j, j < n → w'.cell? ⟨g, j, none⟩ = w.cell? ⟨g, j, none⟩) → readAt P o a w' (.agg cs) := by
  obtain ⟨cs, hc, hl⟩ := hb.get2 (P := P)
  obtain ⟨d, hu, hd⟩ := aggT.out hu
  refine ⟨cs, hc, fun w' hw => ?_⟩
  have hl' : (loadCells ⟨g, 0, none⟩ n).run P w' = .ok cs w' := hl w' hw
  have hv : (loadVar ty ⟨g, 0, none⟩).run P w' = .ok (.agg cs) w' := by
    cases hq : P.info? ty with
    | none => simp [hq] at hi
    | some i =>
      have hs : i.size = n := by simpa [hq] using hi
      have hagg : (isAgg ty).run P w' = .ok true w' := by
        unfold isAgg
        rw [Sem.run_bind, run_underlying hu w']
        cases d <;> simp_all [aggD]
      simp [loadVar, Sem.run_bind, hagg, sizeOf, typeInfo, hq, hs, hl']
  unfold readAt execOp
  simp only [ho, hx, Instr.loadAt, Instr.sureAddr, Sem.run_bind, Sem.run_pure, Result.andThen_ok, hv]
  exact ⟨rfl, rfl⟩
end

section
variable {P : Program} {ops : Array Oper} {C : World → Prop} {Q : Exit → Act → World → Prop} {L : Act → World → Prop}
theorem plan_read_of {i : Nat} {r : List (Nat × Bool)} {a : Act} {w : World} {o : Oper} (ho : ops[i]? = some o) (hw : Region.wanted o (yielded ops a.tmps) = true) (v : Value) (hv : ∀ w, C w → readAt P o a w v)
    (h : wpPlan P ops C Q L r (a.put o.dst v) w) : wpPlan P ops C Q L ((i, false) :: r) a w := by
  unfold wpPlan
  simp only [ho, hw, if_true]
  exact ⟨v, hv, h⟩
theorem plan_load_bools {i : Nat} {r : List (Nat × Bool)} {a : Act} {w w0 : World} {o : Oper} (ho : ops[i]? = some o) (hw : Region.wanted o (yielded ops a.tmps) = true) (ty : TypeId) (x : Operand) (hop : o.op = .load ty x) (g n : Nat)
    (hx : a.eval x = .pointer (some ⟨g, 0, none⟩)) (hb : BB w0 g n) (hu : aggT P ty = true) (hi : (P.info? ty).map (·.size) = some n) (hC : ∀ w', C w' → ∀ j, j < n → w'.cell? ⟨g, j, none⟩ = w0.cell? ⟨g, j, none⟩)
    (h : ∀ cs, Bs cs n → wpPlan P ops C Q L r (a.put o.dst (.agg cs)) w) : wpPlan P ops C Q L ((i, false) :: r) a w := by
  obtain ⟨cs, hc, hr⟩ := readAt_bools (P := P) (a := a) ty x hop g n hx hb hu hi
  exact plan_read_of ho hw _ (fun w' hw' => hr w' (hC w' hw')) (h cs hc)
theorem plan_step_of {i : Nat} {r : List (Nat × Bool)} {a : Act} {w : World} {o : Oper} (ho : ops[i]? = some o) (hw : Region.wanted o (yielded ops a.tmps) = true)
    (h : ∀ K : Act → World → Prop, (∀ a w, C w → wpPlan P ops C Q L r a w → K a w) → o.wp P a w K Q) : wpPlan P ops C Q L ((i, true) :: r) a w := by
  unfold wpPlan
  simp only [ho, hw, if_true]
  exact h _ (fun _ _ h1 h2 => ⟨h1, h2⟩)
end

section
variable {P : Program} {ops : Array Oper} {rest : List Oper} {o : Oper} {a : Act} {w : World} {Q : Exit → Act → World → Prop}
theorem wpList_build_bools (hg : o.guard = none) (ty : TypeId) (ho : o.op = .build ty #[]) (n m el k : Nat) (hz : (P.info? ty).map (fun i => (i.zero, i.size)) = some (some (.agg (Array.replicate n (.bool false))), n))
    (hu : P.underlying ty = some (.array m el)) (hs : (P.info? el).map (·.size) = some k)
    (h : ∀ cs, Bs cs n → wpList P ops Q rest (a.put o.dst (.agg cs)) w) : wpList P ops Q (o :: rest) a w := by
  refine wpList_plain hg fun K hK => ?_
  have hzr := (zero_of_info hz).1 w
  have h1 := h _ (Bs.falses n)
  unfold Oper.wp execOp
  simp only [ho]
  cases hq : P.info? el with
  | none => simp [hq] at hs
  | some i =>
    simp [Instr.build, Sem.run_bind, hzr, run_underlying hu, sizeOf, typeInfo, hq, Instr.fill, Value.cells]
    exact hK _ _ h1
end

def Same64 (N : Nat) (w w' : World) : Prop := ∀ j, j < 64 → w'.cell? ⟨N, j, none⟩ = w.cell? ⟨N, j, none⟩
theorem pl_nil {P : Program} {ops : Array Oper} {C : World → Prop} {Q : Exit → Act → World → Prop} {L : Act → World → Prop} {a : Act} {w : World} (h : L a w) : wpPl P ops C Q L .nil a w := h

theorem info37 : (Tryz.prog.info? 37).map (fun i => (i.zero, i.size)) = some (some (.agg (Array.replicate 64 (.bool false))), 64) := by kernel_rfl

set_option maxRecDepth 1000000 in
set_option maxHeartbeats 4000000 in
theorem six_any {w : World} {g cap : Nat} {ds : List ByteArray} (hr : StrRow w g ds) (h6 : ds.length = 6) (hsz : ∀ d ∈ ds, d.size < 100000000000) :
    Calls Tryz.prog 37 #[.slice (some ⟨g, 0, none⟩) 6 cap] w fun e w' => SixRes ds e ∧ ∃ y : Ext w, w' = y.now := by
  have hw := Lib.hid (fun (a b : Nat) (ha : a < 1000) (hb : b < 1000) (W : World) => worse_any a b ha hb W)
  go_enter Tryz.func37, Tryz.ntmps37
  go_wp2_with (with_reducible refine at_alloc 39 ?_; refine wpList_alloc_bools rfl _ rfl 384 info39 ?_)
  intro cs1 hcs1
  go_wp2_with (with_reducible refine at_alloc 39 ?_; refine wpList_alloc_bools rfl _ rfl 384 info39 ?_)
  intro cs hcs
  go_wp2_with fail
  have hG2 : BB ((w.alloc (.cells cs1 39)).alloc (.cells cs 39)) w.heap.size 384 := (BB.alloc hcs1 39).grow _
  have hG4 : BB ((w.alloc (.cells cs1 39)).alloc (.cells cs 39)) (w.heap.size + 1) 384 := by
    have := BB.alloc (w := w.alloc (.cells cs1 39)) hcs 39
    simpa using this
  obtain ⟨x0, hx0⟩ : ∃ x : Ext w, (w.alloc (.cells cs1 39)).alloc (.cells cs 39) = x.now := ⟨(Ext.one _ _).trans (Ext.one _ _), rfl⟩
  rw [hx0] at hG2 hG4 ⊢
  clear hx0 hcs hcs1
  go_loopw [5, 9] (fun t5 t9 wr => ∃ i vd : Nat, t9 = .int .i64 i ∧ t5 = .int .i64 vd ∧ i ≤ 6 ∧ vd ≤ 2 ∧ (vd = 1 → ∀ j, j < i → FieldFine j (kLow j) (kHigh j) (nats (ds.getD j ByteArray.empty))) ∧ BB wr w.heap.size 384 ∧ BB wr (w.heap.size + 1) 384 ∧ ∃ x : Ext w, wr = x.now) (fun _ t _ => 6 - (intOf t).toNat)
  case atStart => exact ⟨0, 1, rfl, rfl, by decide, by decide, fun _ j hj => absurd hj (Nat.not_lt_zero _), hG2, hG4, x0, rfl⟩
  case round =>
    obtain ⟨i, vd, rfl, rfl, hi, hvd, hall, h2, h4, x, rfl⟩ := hrel
    have HALL := Lib.hid hall
    clear hall hG2 hG4 x0
    by_cases hlt : i < 6
    · have hlt' : (i : Int) < 6 := by omega
      obtain ⟨d, hd⟩ : ∃ d, d = ds.getD i ByteArray.empty := ⟨_, rfl⟩
      have hci : x.now.cell? ⟨g, i, none⟩ = some (.string d) := by
        rw [x.cell _ _ hr.lt, hd]
        exact hr.get i (by omega)
      have hlg : g < x.now.heap.size := x.lt _ hr.lt
      have HD := Lib.hid hd
      clear hd
      go_wp2_with fail
      refine wp_region_pl 12 (.read 0 (.read 2 (.read 3 (.read 4 (.read 5 (.fork 1 10 (.fork 6 10 (.read 7 (.read 8 (.read 9 (.step 10 (.step 11 .nil))))) (.step 6 (.read 7 (.read 8 (.read 9 (.step 11 .nil)))))) (.step 1 (.step 6 (.read 7 (.read 8 (.read 9 (.step 11 .nil)))))))))))) (fun w' => ∃ y : Ext x.now, w' = y.now)
        (by kernel_rfl) (by kernel_rfl) (fun _ _ d _ _ h => by cases d <;> exact h) ⟨Ext.drewn _, rfl⟩ ?_
      iterate 5 (refine pl_read rfl (fun K hK => ?_); go_simp; refine hK _ ?_; clear hK K)
      refine ⟨stepAt_of rfl (by rfl) (fun K hK => ?pA), stepAt_of rfl (by rfl) (fun K hK => ?pB)⟩
      case' pA =>
        go_simp
        refine (bounds_any _ _).mono ?_; rintro e w1 ⟨rfl, y1, rfl⟩
        refine hK _ _ ⟨⟨(Ext.drewn _).trans y1, rfl⟩, ?_⟩; clear hK K
        refine ⟨stepAt_of rfl (by rfl) (fun K hK => ?pA1), stepAt_of rfl (by rfl) (fun K hK => ?pA2)⟩
        case' pA1 =>
          go_simp
          refine (field_any i (kLow i) (kHigh i) hlt (by unfold kLow; split <;> omega) (by unfold kHigh; repeat (split <;> try omega)) d _ (hsz d (by rw [HD.out, List.getD_eq_getElem?_getD, List.getElem?_eq_getElem (by omega : i < ds.length)]; exact List.getElem_mem _))).mono ?_; rintro e w1 ⟨⟨C1, v1, rfl, hC1, hv1, hf1⟩, y2, rfl⟩
          have HF1 := Lib.hid hf1
          clear hf1
          refine hK _ _ ⟨⟨((Ext.drewn _).trans y1).trans y2, rfl⟩, ?_⟩; clear hK K
          iterate 3 (refine pl_read rfl (fun K hK => ?_); go_simp; refine hK _ ?_; clear hK K)
          refine stepAt_of rfl (by rfl) (fun K hK => ?_)
          refine oper_alloc_bools 37 rfl 64 info37 ?_
          intro cs3 hcs3
          refine hK _ _ ⟨⟨(((Ext.drewn _).trans y1).trans y2).trans (Ext.one _ _), rfl⟩, ?_⟩; clear hK K
          refine stepAt_of rfl (by rfl) (fun K hK => ?_)
          have hN : x.now.heap.size ≤ y2.now.heap.size := (((Ext.drewn x.now).trans y1).trans y2).le
          refine oper_store_bools 37 _ _ rfl y2.now.heap.size 0 64 64 C1 rfl rfl (BB.alloc hcs3 37) hC1 (by decide) (by kernel_rfl) ?_
          intro w5 hw5
          have HY5 : ∃ y : Ext x.now, w5 = y.now := by
            rw [hw5]
            exact Ext.rows _ hN _ _ ((((Ext.drewn _).trans y1).trans y2).trans (Ext.one _ _))
          have HB5 : BB w5 y2.now.heap.size 64 := by
            rw [hw5]
            exact (BB.alloc hcs3 37).rows C1 hC1 (fun _ => rfl)
          refine hK _ _ ⟨HY5, ?_⟩; clear hK K hw5 hcs3
          obtain ⟨y5, rfl⟩ := HY5
          generalize y2.now.heap.size = N at *
        case' pA2 =>
          refine oper_alloc_bools 37 rfl 64 info37 ?_
          intro cs3 hcs3
          refine hK _ _ ⟨⟨((Ext.drewn _).trans y1).trans (Ext.one _ _), rfl⟩, ?_⟩; clear hK K
          refine stepAt_of rfl (by rfl) (fun K hK => ?_)
          go_simp
          refine (field_any i (kLow i) (kHigh i) hlt (by unfold kLow; split <;> omega) (by unfold kHigh; repeat (split <;> try omega)) d _ (hsz d (by rw [HD.out, List.getD_eq_getElem?_getD, List.getElem?_eq_getElem (by omega : i < ds.length)]; exact List.getElem_mem _))).mono ?_; rintro e w1 ⟨⟨C1, v1, rfl, hC1, hv1, hf1⟩, y2, rfl⟩
          have HF1 := Lib.hid hf1
          clear hf1
          refine hK _ _ ⟨⟨(((Ext.drewn _).trans y1).trans (Ext.one _ _)).trans y2, rfl⟩, ?_⟩; clear hK K
          iterate 3 (refine pl_read rfl (fun K hK => ?_); go_simp; refine hK _ ?_; clear hK K)
          refine stepAt_of rfl (by rfl) (fun K hK => ?_)
          have hN : x.now.heap.size ≤ y1.now.heap.size := ((Ext.drewn x.now).trans y1).le
          refine oper_store_bools 37 _ _ rfl y1.now.heap.size 0 64 64 C1 rfl rfl ((BB.alloc hcs3 37).ext y2) hC1 (by decide) (by kernel_rfl) ?_
          intro w5 hw5
          have HY5 : ∃ y : Ext x.now, w5 = y.now := by
            rw [hw5]
            exact Ext.rows _ hN _ _ ((((Ext.drewn _).trans y1).trans (Ext.one _ _)).trans y2)
          have HB5 : BB w5 y1.now.heap.size 64 := by
            rw [hw5]
            exact ((BB.alloc hcs3 37).ext y2).rows C1 hC1 (fun _ => rfl)
          refine hK _ _ ⟨HY5, ?_⟩; clear hK K hw5 hcs3
          obtain ⟨y5, rfl⟩ := HY5
          generalize y1.now.heap.size = N at *
      case' pB =>
        refine oper_alloc_bools 37 rfl 64 info37 ?_
        intro cs3 hcs3
        refine hK _ _ ⟨⟨(Ext.drewn _).trans (Ext.one _ _), rfl⟩, ?_⟩; clear hK K
        refine stepAt_of rfl (by rfl) (fun K hK => ?_)
        go_simp
        refine (bounds_any _ _).mono ?_; rintro e w1 ⟨rfl, y1, rfl⟩
        refine hK _ _ ⟨⟨((Ext.drewn _).trans (Ext.one _ _)).trans y1, rfl⟩, ?_⟩; clear hK K
        refine stepAt_of rfl (by rfl) (fun K hK => ?_)
        go_simp
        refine (field_any i (kLow i) (kHigh i) hlt (by unfold kLow; split <;> omega) (by unfold kHigh; repeat (split <;> try omega)) d _ (hsz d (by rw [HD.out, List.getD_eq_getElem?_getD, List.getElem?_eq_getElem (by omega : i < ds.length)]; exact List.getElem_mem _))).mono ?_; rintro e w1 ⟨⟨C1, v1, rfl, hC1, hv1, hf1⟩, y2, rfl⟩
        have HF1 := Lib.hid hf1
        clear hf1
        refine hK _ _ ⟨⟨(((Ext.drewn _).trans (Ext.one _ _)).trans y1).trans y2, rfl⟩, ?_⟩; clear hK K
        iterate 3 (refine pl_read rfl (fun K hK => ?_); go_simp; refine hK _ ?_; clear hK K)
        refine stepAt_of rfl (by rfl) (fun K hK => ?_)
        have hN : x.now.heap.size ≤ x.now.heap.size := Nat.le_refl _
        refine oper_store_bools 37 _ _ rfl x.now.heap.size 0 64 64 C1 rfl rfl (((BB.alloc (w := x.now.drew) hcs3 37).ext y1).ext y2) hC1 (by decide) (by kernel_rfl) ?_
        intro w5 hw5
        have HY5 : ∃ y : Ext x.now, w5 = y.now := by
          rw [hw5]
          exact Ext.rows _ hN _ _ ((((Ext.drewn _).trans (Ext.one _ _)).trans y1).trans y2)
        have HB5 : BB w5 x.now.heap.size 64 := by
          rw [hw5]
          exact (((BB.alloc (w := x.now.drew) hcs3 37).ext y1).ext y2).rows C1 hC1 (fun _ => rfl)
        refine hK _ _ ⟨HY5, ?_⟩; clear hK K hw5 hcs3
        obtain ⟨y5, rfl⟩ := HY5
        obtain ⟨N, hNe⟩ : ∃ N, N = x.now.heap.size := ⟨_, rfl⟩
        rw [← hNe]
        rw [← hNe] at HB5
        replace hN : x.now.heap.size ≤ N := Nat.le_of_eq hNe.symm
        clear hNe
      all_goals
        refine pl_nil ?_
        simp only [List.drop_succ_cons, List.drop_zero]
        have hN4 : N ≠ w.heap.size + 1 := by have := h4.lt; omega
        have B2 := h2.ext y5
        have B4 := h4.ext y5
        clear hci
        go_wp2_with fail
        have hww := hw.out vd v1 (by omega) (by omega) y5.now.drew
        refine wp_region_plan 7 [(0, false), (1, false), (2, false), (3, false), (5, false), (4, true), (6, true)] (Same64 N y5.now)
          (by kernel_rfl) (by kernel_rfl) (fun _ _ d _ _ h => by cases d <;> exact h) (fun _ _ => rfl) ?_
        refine plan_read rfl (fun K hK => ?_); go_simp; refine ⟨_, fun _ _ => rfl, hK _ ?_⟩; clear hK K
        refine plan_load_bools rfl (by rfl) 37 _ rfl N 64 rfl (w0 := y5.now) HB5 (by kernel_rfl) (by kernel_rfl) (fun _ h => h) (fun cs6 hcs6 => ?_)
        iterate 3 (refine plan_read rfl (fun K hK => ?_); go_simp; refine ⟨_, fun _ _ => rfl, hK _ ?_⟩; clear hK K)
        refine plan_step_of rfl (by rfl) (fun K hK => ?_)
        go_simp
        refine hww.mono ?_; rintro e w7 ⟨rfl, rfl⟩
        refine hK _ _ (fun _ _ => rfl) ?_; clear hK K
        refine plan_step_of rfl (by rfl) (fun K hK => ?_)
        refine oper_store_bools 37 _ _ rfl (w.heap.size + 1) (i * 64) 384 64 cs6 rfl rfl (B4.ext (Ext.drewn _)) hcs6 (by omega) (by kernel_rfl) ?_
        intro w8 hw8
        have B2' : BB w8 w.heap.size 384 := by rw [hw8]; exact (B2.ext (Ext.drewn _)).rowsAt _ cs6 hcs6 (fun h => absurd h (by omega))
        have B4' : BB w8 (w.heap.size + 1) 384 := by rw [hw8]; exact (B4.ext (Ext.drewn _)).rowsAt (i * 64) cs6 hcs6 (fun _ => by omega)
        have HY8 : ∃ z : Ext w, w8 = z.now := by rw [hw8]; exact Ext.rows _ (by omega) _ _ ((x.trans y5).trans (Ext.drewn _))
        refine hK _ _ (fun j hj => ?_) ?_
        · rw [hw8, World.cell?_setCells_out _ _ _ _ _ (fun h1 _ => absurd h1 hN4)]; rfl
        clear hK K hw8 hww
        obtain ⟨z, rfl⟩ := HY8
        refine plan_nil ?_
        simp only [List.drop_succ_cons, List.drop_zero]
        go_wp2_with fail
        refine ⟨⟨i + 1, worseV vd v1, by simp, rfl, by omega, by unfold worseV; split <;> omega, fun h j hj => ?_, B2', B4', z, rfl⟩, by simp [intOf]; omega⟩
        by_cases e : j = i
        · subst e
          rw [← HD.out]
          exact HF1.out (worse_fine.1 h).2
        · exact HALL.out (worse_fine.1 h).1 j (by omega)
    · obtain rfl : i = 6 := by omega
      by_cases c1 : vd = 1
      · have c1' : (((vd : Nat) : Int) != 1) = false := by rw [c1]; rfl
        have HFI := Lib.hid (show SixFine ds from HALL.out c1)
        go_wp2_with (first
          | (with_reducible refine at_load 39 ?_; (refine wpList_load_bools rfl _ _ rfl (w.heap.size + 1) 0 384 384 rfl h4 (by decide) (by kernel_rfl) (by kernel_rfl) ?_); intro cs6 hcs6)
          | (with_reducible refine at_store 39 ?_; (refine wpList_store_bools rfl _ _ _ rfl w.heap.size 384 cs6 rfl rfl h2 hcs6 (by kernel_rfl) ?_); intro w5 hw5; have M5 := Lib.hid (h2.rows cs6 hcs6 (G := w.heap.size) (fun _ => rfl)); rw [← hw5] at M5; obtain ⟨y5, rfl⟩ : ∃ y5 : Ext w, w5 = y5.now := (by obtain ⟨q, hq⟩ := Ext.rows w.heap.size (Nat.le_refl _) cs6.toList 0 x; exact ⟨q, by rw [hw5]; exact hq⟩); clear hw5))
        exact ret_bools2 rfl w.heap.size 384 rfl M5.out (by kernel_rfl) (by kernel_rfl) rfl (fun C hC => ⟨⟨C, 1, rfl, hC, by decide, fun _ => HFI.out⟩, y5, rfl⟩)
      · have c1' : (((vd : Nat) : Int) != 1) = true := bne_iff_ne.2 (by omega)
        go_wp2_with (first
          | (with_reducible refine at_build 39 ?_; (refine wpList_build_bools rfl 39 rfl 384 6 37 64 info39 (by kernel_rfl) (by kernel_rfl) ?_); intro cs6 hcs6)
          | (with_reducible refine at_store 39 ?_; (refine wpList_store_bools rfl _ _ _ rfl w.heap.size 384 cs6 rfl rfl h2 hcs6 (by kernel_rfl) ?_); intro w5 hw5; have M5 := Lib.hid (h2.rows cs6 hcs6 (G := w.heap.size) (fun _ => rfl)); rw [← hw5] at M5; obtain ⟨y5, rfl⟩ : ∃ y5 : Ext w, w5 = y5.now := (by obtain ⟨q, hq⟩ := Ext.rows w.heap.size (Nat.le_refl _) cs6.toList 0 x; exact ⟨q, by rw [hw5]; exact hq⟩); clear hw5))
        exact ret_bools2 rfl w.heap.size 384 rfl M5.out (by kernel_rfl) (by kernel_rfl) rfl (fun C hC => ⟨⟨C, vd, rfl, hC, hvd, fun h => absurd h c1⟩, y5, rfl⟩)

end Go.Proofs.YtopcjlimjkfoiaaGreatDoor
namespace Go.Proofs.YtopcjlimjkfoiaaGreatDoor
open Go.RowKit

def unitOf (l : List Nat) : Nat × Nat :=
  if l = [110, 115] then (1, 0) else
  if l = [117, 115] ∨ l = [194, 181, 115] ∨ l = [206, 188, 115] then (1000, 3) else
  if l = [109, 115] then (1000000, 6) else
  if l = [115] then (1000000000, 9) else
  if l = [109] then (60000000000, 10) else
  if l = [104] then (3600000000000, 11) else
  (0, 0)

set_option maxRecDepth 100000 in
theorem unit_any (s : ByteArray) (w : World) : Calls Tryz.prog 106 #[.string s] w fun e w' => e = .returned (.tuple #[.int .i64 (unitOf (nats s)).1, .int .i64 (unitOf (nats s)).2]) ∧ w' = w := by
  by_cases h0 : nats s = [110, 115]
  · have k0 : (s.toList == ([110, 115] : List UInt8)) = true := by rw [lit_nats]; exact decide_eq_true h0
    rw [show unitOf (nats s) = (1, 0) by rw [h0]; rfl]
    clear h0
    go_enter Tryz.func106, Tryz.ntmps106
    go_wp2
    go_ret2; exact ⟨rfl, rfl⟩
  have k0 : (s.toList == ([110, 115] : List UInt8)) = false := by rw [lit_nats]; exact decide_eq_false h0
  by_cases h1 : nats s = [117, 115]
  · have k1 : (s.toList == ([117, 115] : List UInt8)) = true := by rw [lit_nats]; exact decide_eq_true h1
    rw [show unitOf (nats s) = (1000, 3) by rw [h1]; rfl]
    clear h1
    go_enter Tryz.func106, Tryz.ntmps106
    go_wp2
    go_ret2; exact ⟨rfl, rfl⟩
  have k1 : (s.toList == ([117, 115] : List UInt8)) = false := by rw [lit_nats]; exact decide_eq_false h1
  by_cases h2 : nats s = [194, 181, 115]
  · have k2 : (s.toList == ([194, 181, 115] : List UInt8)) = true := by rw [lit_nats]; exact decide_eq_true h2
    rw [show unitOf (nats s) = (1000, 3) by rw [h2]; rfl]
    clear h2
    go_enter Tryz.func106, Tryz.ntmps106
    go_wp2
    go_ret2; exact ⟨rfl, rfl⟩
  have k2 : (s.toList == ([194, 181, 115] : List UInt8)) = false := by rw [lit_nats]; exact decide_eq_false h2
  by_cases h3 : nats s = [206, 188, 115]
  · have k3 : (s.toList == ([206, 188, 115] : List UInt8)) = true := by rw [lit_nats]; exact decide_eq_true h3
    rw [show unitOf (nats s) = (1000, 3) by rw [h3]; rfl]
    clear h3
    go_enter Tryz.func106, Tryz.ntmps106
    go_wp2
    go_ret2; exact ⟨rfl, rfl⟩
  have k3 : (s.toList == ([206, 188, 115] : List UInt8)) = false := by rw [lit_nats]; exact decide_eq_false h3
  by_cases h4 : nats s = [109, 115]
  · have k4 : (s.toList == ([109, 115] : List UInt8)) = true := by rw [lit_nats]; exact decide_eq_true h4
    rw [show unitOf (nats s) = (1000000, 6) by rw [h4]; rfl]
    clear h4
    go_enter Tryz.func106, Tryz.ntmps106
    go_wp2
    go_ret2; exact ⟨rfl, rfl⟩
  have k4 : (s.toList == ([109, 115] : List UInt8)) = false := by rw [lit_nats]; exact decide_eq_false h4
  by_cases h5 : nats s = [115]
  · have k5 : (s.toList == ([115] : List UInt8)) = true := by rw [lit_nats]; exact decide_eq_true h5
    rw [show unitOf (nats s) = (1000000000, 9) by rw [h5]; rfl]
    clear h5
    go_enter Tryz.func106, Tryz.ntmps106
    go_wp2
    go_ret2; exact ⟨rfl, rfl⟩
  have k5 : (s.toList == ([115] : List UInt8)) = false := by rw [lit_nats]; exact decide_eq_false h5
  by_cases h6 : nats s = [109]
  · have k6 : (s.toList == ([109] : List UInt8)) = true := by rw [lit_nats]; exact decide_eq_true h6
    rw [show unitOf (nats s) = (60000000000, 10) by rw [h6]; rfl]
    clear h6
    go_enter Tryz.func106, Tryz.ntmps106
    go_wp2
    go_ret2; exact ⟨rfl, rfl⟩
  have k6 : (s.toList == ([109] : List UInt8)) = false := by rw [lit_nats]; exact decide_eq_false h6
  by_cases h7 : nats s = [104]
  · have k7 : (s.toList == ([104] : List UInt8)) = true := by rw [lit_nats]; exact decide_eq_true h7
    rw [show unitOf (nats s) = (3600000000000, 11) by rw [h7]; rfl]
    clear h7
    go_enter Tryz.func106, Tryz.ntmps106
    go_wp2
    go_ret2; exact ⟨rfl, rfl⟩
  have k7 : (s.toList == ([104] : List UInt8)) = false := by rw [lit_nats]; exact decide_eq_false h7
  rw [show unitOf (nats s) = (0, 0) by unfold unitOf; simp only [h0, h1, h2, h3, h4, h5, h6, h7, or_self, if_false]]
  go_enter Tryz.func106, Tryz.ntmps106
  go_wp2
  (try clear h0 h1 h2 h3 h4 h5 h6 h7); go_ret2; exact ⟨rfl, rfl⟩

def descOf (l : List Nat) : List Nat :=
  if l = [64, 121, 101, 97, 114, 108, 121] ∨ l = [64, 97, 110, 110, 117, 97, 108, 108, 121] then [48, 32, 48, 32, 49, 32, 49, 32, 42] else
  if l = [64, 109, 111, 110, 116, 104, 108, 121] then [48, 32, 48, 32, 49, 32, 42, 32, 42] else
  if l = [64, 119, 101, 101, 107, 108, 121] then [48, 32, 48, 32, 42, 32, 42, 32, 48] else
  if l = [64, 100, 97, 105, 108, 121] ∨ l = [64, 109, 105, 100, 110, 105, 103, 104, 116] then [48, 32, 48, 32, 42, 32, 42, 32, 42] else
  if l = [64, 104, 111, 117, 114, 108, 121] then [48, 32, 42, 32, 42, 32, 42, 32, 42] else
  []

set_option maxRecDepth 100000 in
theorem described_any (s : ByteArray) (w : World) : Calls Tryz.prog 63 #[.string s] w fun e w' => ∃ d, e = .returned (.string d) ∧ nats d = descOf (nats s) ∧ w' = w := by
  by_cases h0 : nats s = [64, 121, 101, 97, 114, 108, 121]
  · have k0 : (s.toList == ([64, 121, 101, 97, 114, 108, 121] : List UInt8)) = true := by rw [lit_nats]; exact decide_eq_true h0
    have hd : descOf (nats s) = [48, 32, 48, 32, 49, 32, 49, 32, 42] := by rw [h0]; rfl
    clear h0
    go_enter Tryz.func63, Tryz.ntmps63
    go_wp2
    go_ret; exact ⟨_, rfl, by rw [hd]; rfl, rfl⟩
  have k0 : (s.toList == ([64, 121, 101, 97, 114, 108, 121] : List UInt8)) = false := by rw [lit_nats]; exact decide_eq_false h0
  by_cases h1 : nats s = [64, 97, 110, 110, 117, 97, 108, 108, 121]
  · have k1 : (s.toList == ([64, 97, 110, 110, 117, 97, 108, 108, 121] : List UInt8)) = true := by rw [lit_nats]; exact decide_eq_true h1
    have hd : descOf (nats s) = [48, 32, 48, 32, 49, 32, 49, 32, 42] := by rw [h1]; rfl
    clear h1
    go_enter Tryz.func63, Tryz.ntmps63
    go_wp2
    go_ret; exact ⟨_, rfl, by rw [hd]; rfl, rfl⟩
  have k1 : (s.toList == ([64, 97, 110, 110, 117, 97, 108, 108, 121] : List UInt8)) = false := by rw [lit_nats]; exact decide_eq_false h1
  by_cases h2 : nats s = [64, 109, 111, 110, 116, 104, 108, 121]
  · have k2 : (s.toList == ([64, 109, 111, 110, 116, 104, 108, 121] : List UInt8)) = true := by rw [lit_nats]; exact decide_eq_true h2
    have hd : descOf (nats s) = [48, 32, 48, 32, 49, 32, 42, 32, 42] := by rw [h2]; rfl
    clear h2
    go_enter Tryz.func63, Tryz.ntmps63
    go_wp2
    go_ret; exact ⟨_, rfl, by rw [hd]; rfl, rfl⟩
  have k2 : (s.toList == ([64, 109, 111, 110, 116, 104, 108, 121] : List UInt8)) = false := by rw [lit_nats]; exact decide_eq_false h2
  by_cases h3 : nats s = [64, 119, 101, 101, 107, 108, 121]
  · have k3 : (s.toList == ([64, 119, 101, 101, 107, 108, 121] : List UInt8)) = true := by rw [lit_nats]; exact decide_eq_true h3
    have hd : descOf (nats s) = [48, 32, 48, 32, 42, 32, 42, 32, 48] := by rw [h3]; rfl
    clear h3
    go_enter Tryz.func63, Tryz.ntmps63
    go_wp2
    go_ret; exact ⟨_, rfl, by rw [hd]; rfl, rfl⟩
  have k3 : (s.toList == ([64, 119, 101, 101, 107, 108, 121] : List UInt8)) = false := by rw [lit_nats]; exact decide_eq_false h3
  by_cases h4 : nats s = [64, 100, 97, 105, 108, 121]
  · have k4 : (s.toList == ([64, 100, 97, 105, 108, 121] : List UInt8)) = true := by rw [lit_nats]; exact decide_eq_true h4
    have hd : descOf (nats s) = [48, 32, 48, 32, 42, 32, 42, 32, 42] := by rw [h4]; rfl
    clear h4
    go_enter Tryz.func63, Tryz.ntmps63
    go_wp2
    go_ret; exact ⟨_, rfl, by rw [hd]; rfl, rfl⟩
  have k4 : (s.toList == ([64, 100, 97, 105, 108, 121] : List UInt8)) = false := by rw [lit_nats]; exact decide_eq_false h4
  by_cases h5 : nats s = [64, 109, 105, 100, 110, 105, 103, 104, 116]
  · have k5 : (s.toList == ([64, 109, 105, 100, 110, 105, 103, 104, 116] : List UInt8)) = true := by rw [lit_nats]; exact decide_eq_true h5
    have hd : descOf (nats s) = [48, 32, 48, 32, 42, 32, 42, 32, 42] := by rw [h5]; rfl
    clear h5
    go_enter Tryz.func63, Tryz.ntmps63
    go_wp2
    go_ret; exact ⟨_, rfl, by rw [hd]; rfl, rfl⟩
  have k5 : (s.toList == ([64, 109, 105, 100, 110, 105, 103, 104, 116] : List UInt8)) = false := by rw [lit_nats]; exact decide_eq_false h5
  by_cases h6 : nats s = [64, 104, 111, 117, 114, 108, 121]
  · have k6 : (s.toList == ([64, 104, 111, 117, 114, 108, 121] : List UInt8)) = true := by rw [lit_nats]; exact decide_eq_true h6
    have hd : descOf (nats s) = [48, 32, 42, 32, 42, 32, 42, 32, 42] := by rw [h6]; rfl
    clear h6
    go_enter Tryz.func63, Tryz.ntmps63
    go_wp2
    go_ret; exact ⟨_, rfl, by rw [hd]; rfl, rfl⟩
  have k6 : (s.toList == ([64, 104, 111, 117, 114, 108, 121] : List UInt8)) = false := by rw [lit_nats]; exact decide_eq_false h6
  have hd : descOf (nats s) = [] := by unfold descOf; simp only [h0, h1, h2, h3, h4, h5, h6, or_self, if_false]
  go_enter Tryz.func63, Tryz.ntmps63
  go_wp2
  go_ret; exact ⟨_, rfl, by rw [hd]; rfl, rfl⟩

theorem delay_any (n : Int) (w : World) : Calls Tryz.prog 65 #[.int .i64 n] w fun e w' => (∃ m, e = .returned (.int .i64 m)) ∧ w' = w := by
  by_cases h : n < 1000000000
  · go_enter Tryz.func65, Tryz.ntmps65
    go_wp2
    go_ret
    exact ⟨⟨_, rfl⟩, rfl⟩
  · go_enter Tryz.func65, Tryz.ntmps65
    go_wp2
    go_ret
    exact ⟨⟨_, rfl⟩, rfl⟩

end Go.Proofs.YtopcjlimjkfoiaaGreatDoor
