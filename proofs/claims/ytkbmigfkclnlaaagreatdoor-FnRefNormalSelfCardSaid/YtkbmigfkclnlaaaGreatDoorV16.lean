/-
FnRefNormalSelf: the regular expressions, the digest and the reference, part 16 of 26.
-/
import Derived.Test.YtkbmigfkclnlaaaGreatDoorV10
import Derived.Test.YtkbmigfkclnlaaaGreatDoorV04
import Derived.Test.YtkbmigfkclnlaaaGreatDoorV02
import Derived.Lib.Hide
import Derived.Test.YtkbmigfkclnlaaaGreatDoorV01
import Derived.Test.YtkbmigfkclnlaaaGreatDoorV13
import Derived.Test.YtkbmigfkclnlaaaGreatDoorV15
set_option linter.all false
namespace Go.Proofs.YtkbmigfkclnlaaaGreatDoor
open Go.RowKit Go.Rx
attribute [local go_sem] Ext.cell Ext.frozen Ext.lt Ext.lt_add Ext.cell2 Ext.frozen2

theorem pl_nil {P : Program} {ops : Array Oper} {C : World → Prop} {Q : Exit → Act → World → Prop} {L : Act → World → Prop} {a : Act} {w : World} (h : L a w) : wpPl P ops C Q L .nil a w := h

theorem entry_info : (Tryz.prog.info? 239).map (fun i => (i.zero, i.size, i.bytes)) = some (some (.agg #[.int .u32 0, .pointer none]), 2, 16) := by kernel_rfl

structure NewM (w w' : World) (M R PR MC S0 D0 S1 D1 nc nq : Nat) : Prop where
 m : Blk w' M [.pointer (some ⟨R, 0, none⟩), .pointer (some ⟨PR, 0, none⟩), .slice (some ⟨S0, 0, none⟩) nq nq, .slice (some ⟨D0, 0, none⟩) 0 nq, .slice (some ⟨S1, 0, none⟩) nq nq, .slice (some ⟨D1, 0, none⟩) 0 nq, .slice none 0 0, .bool false, .slice (some ⟨MC, 0, none⟩) nc nc, .string ByteArray.empty] 170
 mc : Blk w' MC (List.replicate nc (.int .i64 0)) 3
 s0 : Blk w' S0 (madeCells (Value.int .u32 0).cells (nq * 1)).toList 86
 d0 : Blk w' D0 (madeCells (Value.agg #[.int .u32 0, .pointer none]).cells (nq * 2)).toList 239
 s1 : Blk w' S1 (madeCells (Value.int .u32 0).cells (nq * 1)).toList 86
 d1 : Blk w' D1 (madeCells (Value.agg #[.int .u32 0, .pointer none]).cells (nq * 2)).toList 239
 chg : Chg [] w w'
 new : w.heap.size ≤ MC ∧ w.heap.size ≤ S0 ∧ w.heap.size ≤ D0 ∧ w.heap.size ≤ S1 ∧ w.heap.size ≤ D1
 apart : w.heap.size ≠ MC ∧ MC ≠ S0 ∧ MC ≠ D0 ∧ MC ≠ S1 ∧ MC ≠ D1 ∧ S0 ≠ D0 ∧ S0 ≠ S1 ∧ S0 ≠ D1 ∧ D0 ≠ S1 ∧ D0 ≠ D1 ∧ S1 ≠ D1

set_option maxRecDepth 1000000 in
set_option maxHeartbeats 4000000 in
theorem get_any (w : World) (R PR nc nq mp : Nat) (hR1 : w.cell? ⟨R, 1, none⟩ = some (.pointer (some ⟨PR, 0, none⟩))) (hR10 : w.cell? ⟨R, 10, none⟩ = some (.int .i64 mp)) (hR11 : w.cell? ⟨R, 11, none⟩ = some (.int .i64 nc)) (hRl : R < w.heap.size)
  (hG : w.cell? ⟨10, mp, none⟩ = some (.int .i64 nq)) (hGl : 10 < w.heap.size) (hmp : mp < 5) (hnq : 0 < nq) (hnq2 : nq ≤ 100000) (hnc : 0 < nc) (hnc2 : nc < 1000) :
  Calls Tryz.prog 84 #[.pointer (some ⟨R, 0, none⟩)] w fun e w' => e = .returned (.pointer (some ⟨w.heap.size, 0, none⟩)) ∧ ∃ MC S0 D0 S1 D1, NewM w w' w.heap.size R PR MC S0 D0 S1 D1 nc nq := by
 have hRn : R ≠ w.heap.size := by omega
 go_enter Tryz.func84, Tryz.ntmps84
 go_wp2_with fail
 obtain ⟨M, hM⟩ : ∃ M, w.heap.size = M := ⟨_, rfl⟩
 obtain ⟨w1, hw1⟩ : ∃ w1, w1 = w.alloc (Obj.cells #[Value.pointer (some ⟨R, 0, none⟩), Value.pointer (some ⟨PR, 0, none⟩), .slice none 0 0, .slice none 0 0, .slice none 0 0, .slice none 0 0, .slice none 0 0, .bool false, .slice none 0 0, .string ByteArray.empty] 170) := ⟨_, rfl⟩
 have b1 : Blk w1 M [.pointer (some ⟨R, 0, none⟩), .pointer (some ⟨PR, 0, none⟩), .slice none 0 0, .slice none 0 0, .slice none 0 0, .slice none 0 0, .slice none 0 0, .bool false, .slice none 0 0, .string ByteArray.empty] 170 := by rw [hw1, ← hM]; exact Blk.new _ _ _
 have c1 : Chg [] w w1 := by rw [hw1]; exact Chg.alloc _ _
 rw [hM]
 have e1 : w1 = w.alloc (Obj.cells #[Value.pointer (some ⟨R, 0, none⟩), Value.pointer (some ⟨PR, 0, none⟩), .slice none 0 0, .slice none 0 0, .slice none 0 0, .slice none 0 0, .slice none 0 0, .bool false, .slice none 0 0, .string ⟨#[]⟩] 170) := hw1
 rw [← e1]
 have d6 : w1.cell? ⟨M, 8, none⟩ = some (.slice none 0 0) := (b1.cell 8).trans rfl
 have d11 : w1.cell? ⟨R, 11, none⟩ = some (.int .i64 nc) := by rw [World.cell?_of_block (c1.block R hRl (by simp))]; exact hR11
 have hRl1 : R < w1.heap.size := Nat.lt_of_lt_of_le hRl c1.size
 have hMl1 := b1.lt
 have hncp : (0 : Int) < (nc : Int) := by omega
 have B1 := Lib.hid b1
 have C1 := Lib.hid c1
 have HM := Lib.hid hM
 clear b1 c1 hw1 e1 hM
 refine wp_region_ext rfl (by kernel_rfl) ?_
 repeat (quiet_step (fail))
 refine wpQuiet_nil ?_
 rintro w' ⟨y, rfl⟩
 have cy := Chg.of_below y.below
 have b2 := B1.out.chg cy (by simp)
 have d11' : y.now.cell? ⟨R, 11, none⟩ = some (.int .i64 nc) := (y.cell _ _ hRl1).trans d11
 have hMy := b2.lt
 have B2 := Lib.hid b2
 have C2 := Lib.hid cy
 clear b2 cy
 go_wp2_with (at_make; refine make_blk _ rfl (.tmp 33) (.tmp 33) 128 3 rfl _ 1 8 Tryz.underlying128 int_info .i64 .i64 nc nc rfl rfl (Nat.le_refl _) (by omega) (by omega) y.now.heap.size rfl ?_)
 intro w2 bC c2 z2
 obtain ⟨MC, hMC⟩ : ∃ MC, y.now.heap.size = MC := ⟨_, rfl⟩
 rw [hMC] at bC z2 ⊢
 have b3 := B2.out.chg c2 (by simp)
 have f8 := b3.free 8
 have q8 : w2.cell? ⟨M, 8, none⟩ = some (.slice none 0 0) := (b3.cell 8).trans rfl
 have hM2 := b3.lt
 have q6 : w2.cell? ⟨M, 6, none⟩ = some (.slice none 0 0) := (b3.cell 6).trans rfl
 have hne : MC ≠ M := by have := B2.out.lt; omega
 obtain ⟨w3, hw3⟩ : ∃ w3, w3 = w2.setCell ⟨M, 8, none⟩ (.slice (some ⟨MC, 0, none⟩) nc nc) := ⟨_, rfl⟩
 have b4 := b3.set 8 (.slice (some ⟨MC, 0, none⟩) nc nc)
 have bC4 := bC.set_other (c := M) hne 8 (.slice (some ⟨MC, 0, none⟩) nc nc)
 have c4 := c2.trans (Chg.set w2 M 8 (.slice (some ⟨MC, 0, none⟩) nc nc))
 rw [← hw3] at b4 bC4 c4
 rw [made_one] at bC4
 have p6 : w3.cell? ⟨M, 6, none⟩ = some (.slice none 0 0) := (b4.cell 6).trans rfl
 have p2 : w3.cell? ⟨M, 2, none⟩ = some (.slice none 0 0) := (b4.cell 2).trans rfl
 have hRM : R ≠ M := by have := HM.out; omega
 have hGM : 10 ≠ M := by have := HM.out; omega
 have cA : Chg [M] w w3 := ((C1.out.trans C2.out).trans c4).mono (fun b hb _ => by simpa using hb)
 have p10 : w3.cell? ⟨R, 10, none⟩ = some (.int .i64 mp) := by rw [World.cell?_of_block (cA.block R hRl (by simpa using hRM))]; exact hR10
 have pG : w3.cell? ⟨10, mp, none⟩ = some (.int .i64 nq) := by rw [World.cell?_of_block (cA.block 10 hGl (by simpa using hGM))]; exact hG
 have hM3 := b4.lt
 have hmp' : (mp : Int) < 5 := by omega
 have hnq0 : ¬ (nq : Int) = 0 := by omega
 have hnqp : (0 : Int) < (nq : Int) := by omega
 have B4 := Lib.hid b4
 have K4 := Lib.hid bC4
 have C4 := Lib.hid cA
 have Z4 := Lib.hid (show w3.heap.size = MC + 1 by rw [hw3]; simp [World.setCell]; exact z2)
 have HW3 := Lib.hid hw3
 clear b3 b4 bC bC4 c2 c4 cA z2 hw3
 go_wp2_with fail
 rw [← HW3.out]
 go_loopw [42] (fun t wr => t = .int .i64 0 ∧ wr = w3) (fun _ _ => 0)
 case atStart => exact ⟨rfl, rfl⟩
 case round =>
  obtain ⟨rfl, rfl⟩ := hrel
  go_wp2_with fail
  have hMr := hM3
  refine wp_region_pl 6 (.read 0 (.read 1 (.read 3 (.fork 2 4 (.step 4 (.read 5 .nil)) (.step 2 (.read 5 .nil)))))) (fun w' => ∃ x : Ext wr, w' = x.now)
   (by kernel_rfl) (by kernel_rfl) (fun _ _ d _ _ h => by cases d <;> exact h) ⟨Ext.drewn _, rfl⟩ ?_
  refine pl_read rfl (fun K hK => ?_); go_simp; refine hK _ ?_; clear hK K
  refine pl_read rfl (fun K hK => ?_); go_simp; refine hK _ ?_; clear hK K
  refine pl_read rfl (fun K hK => ?_); go_simp; refine hK _ ?_; clear hK K
  obtain ⟨H1, hH1⟩ : ∃ H, wr.heap.size = H := ⟨_, rfl⟩
  refine ⟨pl_at rfl (by rfl) (make_wp _ (.tmp 80) (.tmp 80) 77 86 rfl _ 1 4 Tryz.underlying77 u32_info .i64 .i64 nq nq rfl rfl (Nat.le_refl _) (by omega) (by omega) H1 (by simpa using hH1) ?_), pl_at rfl (by rfl) (make_wp _ (.const (.int .i64 0)) (.tmp 82) 161 239 rfl _ 2 16 Tryz.underlying161 entry_info .i64 .i64 0 nq rfl rfl (Nat.zero_le _) (by omega) (by omega) H1 (by simpa using hH1) ?_)⟩
  ·intro wa ba ca za
   refine ⟨⟨⟨wa, ((Chg.drew wr).trans ca).below (Nat.le_refl _) (by simp)⟩, rfl⟩, pl_at rfl (by rfl) (make_wp _ (.const (.int .i64 0)) (.tmp 82) 161 239 rfl _ 2 16 Tryz.underlying161 entry_info .i64 .i64 0 nq rfl rfl (Nat.zero_le _) (by omega) (by omega) (H1 + 1) za ?_)⟩
   intro wb1 bb cb zb
   have cw : Chg [] wr wb1 := (((Chg.drew wr).trans ca).trans cb).mono (fun b hb _ => by simp at hb)
   have bS := ba.chg cb (by simp)
   have bD := bb
   obtain ⟨S1, hS⟩ : ∃ S, H1 = S := ⟨_, rfl⟩
   obtain ⟨D1, hD⟩ : ∃ D, H1 + 1 = D := ⟨_, rfl⟩
   have hSD1 : S1 ≠ D1 := by omega
   have hSn1 : wr.heap.size ≤ S1 ∧ wr.heap.size ≤ D1 := by omega
   rw [hD] at bD ⊢
   rw [hS] at bS ⊢
   refine ⟨⟨⟨wb1, cw.below (Nat.le_refl _) (by simp)⟩, rfl⟩, ?_⟩
   have b5 := B4.out.chg cw (by simp)
   have m2 : wb1.cell? ⟨M, 2, none⟩ = some (.slice none 0 0) := (b5.cell 2).trans rfl
   have n2 := b5.free 2
   have m3 : wb1.cell? ⟨M, 3, none⟩ = some (.slice none 0 0) := (b5.cell 3).trans rfl
   have n3 := b5.free 3
   have hMb1 := b5.lt
   have G11 := Lib.hid b5
   have G21 := Lib.hid bS
   have G31 := Lib.hid bD
   have G41 := Lib.hid cw
   have G51 := Lib.hid zb
   clear b5 bS bD cw zb ba bb ca cb za
   refine pl_read rfl (fun K hK => ?_); go_simp; refine hK _ ?_; clear hK K
   refine pl_nil ?_
   simp only [List.drop_succ_cons, List.drop_zero]
   go_wp2_with fail
   obtain ⟨wq, hwq⟩ : ∃ wq, wq = (wb1.setCell ⟨M, 2, none⟩ (.slice (some ⟨S1, 0, none⟩) nq nq)).setCell ⟨M, 3, none⟩ (.slice (some ⟨D1, 0, none⟩) 0 nq) := ⟨_, rfl⟩
   rw [← hwq]
   have cq : Chg [M] wb1 wq := by rw [hwq]; exact ((Chg.set wb1 M 2 _).trans (Chg.set _ M 3 _)).mono (fun b hb _ => by simpa using hb)
   have bq := (G11.out.set 2 (.slice (some ⟨S1, 0, none⟩) nq nq)).set 3 (.slice (some ⟨D1, 0, none⟩) 0 nq)
   rw [← hwq] at bq
   have hzq : wq.heap.size = wr.heap.size + 2 := by rw [hwq]; simp [World.setCell]; have := G51.out; omega
   have hMltW := hM3
   have HQ := Lib.hid (show Blk wq M _ 170 ∧ Blk wq MC (List.replicate nc (.int .i64 0)) 3 ∧ Blk wq S1 (madeCells (Value.int .u32 0).cells (nq * 1)).toList 86 ∧ Blk wq D1 (madeCells (Value.agg #[.int .u32 0, .pointer none]).cells (nq * 2)).toList 239 ∧ wq.heap.size = wr.heap.size + 2 from
    ⟨bq, (K4.out.chg G41.out (by simp)).chg cq (by simpa using hne), G21.out.chg cq (by simp; omega), G31.out.chg cq (by simp; omega), hzq⟩)
   have HG6 := Lib.hid ((C4.out.trans G41.out).trans cq)
   have HB := Lib.hid bq
   clear hwq cq bq
   refine wp_region_pl 6 (.read 0 (.read 1 (.read 3 (.fork 2 4 (.step 4 (.read 5 .nil)) (.step 2 (.read 5 .nil)))))) (fun w' => ∃ x : Ext wq, w' = x.now)
    (by kernel_rfl) (by kernel_rfl) (fun _ _ d _ _ h => by cases d <;> exact h) ⟨Ext.drewn _, rfl⟩ ?_
   refine pl_read rfl (fun K hK => ?_); go_simp; refine hK _ ?_; clear hK K
   refine pl_read rfl (fun K hK => ?_); go_simp; refine hK _ ?_; clear hK K
   refine pl_read rfl (fun K hK => ?_); go_simp; refine hK _ ?_; clear hK K
   obtain ⟨H2, hH2⟩ : ∃ H, wq.heap.size = H := ⟨_, rfl⟩
   refine ⟨pl_at rfl (by rfl) (make_wp _ (.tmp 88) (.tmp 88) 77 86 rfl _ 1 4 Tryz.underlying77 u32_info .i64 .i64 nq nq rfl rfl (Nat.le_refl _) (by omega) (by omega) H2 (by simpa using hH2) ?_), pl_at rfl (by rfl) (make_wp _ (.const (.int .i64 0)) (.tmp 90) 161 239 rfl _ 2 16 Tryz.underlying161 entry_info .i64 .i64 0 nq rfl rfl (Nat.zero_le _) (by omega) (by omega) H2 (by simpa using hH2) ?_)⟩
   ·intro wa ba ca za
    refine ⟨⟨⟨wa, ((Chg.drew wq).trans ca).below (Nat.le_refl _) (by simp)⟩, rfl⟩, pl_at rfl (by rfl) (make_wp _ (.const (.int .i64 0)) (.tmp 90) 161 239 rfl _ 2 16 Tryz.underlying161 entry_info .i64 .i64 0 nq rfl rfl (Nat.zero_le _) (by omega) (by omega) (H2 + 1) za ?_)⟩
    intro wb2 bb cb zb
    have cw : Chg [] wq wb2 := (((Chg.drew wq).trans ca).trans cb).mono (fun b hb _ => by simp at hb)
    have bS := ba.chg cb (by simp)
    have bD := bb
    obtain ⟨S2, hS⟩ : ∃ S, H2 = S := ⟨_, rfl⟩
    obtain ⟨D2, hD⟩ : ∃ D, H2 + 1 = D := ⟨_, rfl⟩
    have hSD2 : S2 ≠ D2 := by omega
    have hSn2 : wq.heap.size ≤ S2 ∧ wq.heap.size ≤ D2 := by omega
    rw [hD] at bD ⊢
    rw [hS] at bS ⊢
    refine ⟨⟨⟨wb2, cw.below (Nat.le_refl _) (by simp)⟩, rfl⟩, ?_⟩
    have b5 := HB.out.chg cw (by simp)
    have m4 : wb2.cell? ⟨M, 4, none⟩ = some (.slice none 0 0) := (b5.cell 4).trans rfl
    have n4 := b5.free 4
    have m5 : wb2.cell? ⟨M, 5, none⟩ = some (.slice none 0 0) := (b5.cell 5).trans rfl
    have n5 := b5.free 5
    have hMb2 := b5.lt
    have G12 := Lib.hid b5
    have G22 := Lib.hid bS
    have G32 := Lib.hid bD
    have G42 := Lib.hid cw
    have G52 := Lib.hid zb
    clear b5 bS bD cw zb ba bb ca cb za
    refine pl_read rfl (fun K hK => ?_); go_simp; refine hK _ ?_; clear hK K
    refine pl_nil ?_
    simp only [List.drop_succ_cons, List.drop_zero]
    go_wp2_with fail
    go_ret
    have x := HG6.out
    have e1 : (wb2.setCell ⟨M, 4, none⟩ (.slice (some ⟨S2, 0, none⟩) nq nq)).setCell ⟨M, 5, none⟩ (.slice (some ⟨D2, 0, none⟩) 0 nq) = (wb2.setCell ⟨M, 4, none⟩ (.slice (some ⟨S2, 0, none⟩) nq nq)).setCell ⟨M, 5, none⟩ (.slice (some ⟨D2, 0, none⟩) 0 nq) := rfl
    have hmm := HM.out
    have hz := Z4.out
    have hq1 := HQ.out.2.2.2.2
    have cQ := (Chg.set wb2 M 4 (.slice (some ⟨S2, 0, none⟩) nq nq)).trans (Chg.set _ M 5 (.slice (some ⟨D2, 0, none⟩) 0 nq))
    have hMC' : MC < wr.heap.size := by omega
    rw [hmm]
    refine ⟨rfl, MC, S1, D1, S2, D2, ?_⟩
    exact
    { m := (G12.out.set 4 _).set 5 _
      mc := ((HQ.out.2.1.chg G42.out (by simp)).chg cQ (by simp; omega))
      s0 := ((HQ.out.2.2.1.chg G42.out (by simp)).chg cQ (by simp; omega))
      d0 := ((HQ.out.2.2.2.1.chg G42.out (by simp)).chg cQ (by simp; omega))
      s1 := G22.out.chg cQ (by simp; omega)
      d1 := G32.out.chg cQ (by simp; omega)
      chg := ((x.trans G42.out).trans cQ).mono (fun b hb hlt => by simp at hb; omega)
      new := ⟨by omega, by omega, by omega, by omega, by omega⟩
      apart := ⟨by omega, by omega, by omega, by omega, by omega, by omega, by omega, by omega, by omega, by omega⟩ }
   ·intro wa ba ca za
    refine ⟨⟨⟨wa, ((Chg.drew wq).trans ca).below (Nat.le_refl _) (by simp)⟩, rfl⟩, pl_at rfl (by rfl) (make_wp _ (.tmp 88) (.tmp 88) 77 86 rfl _ 1 4 Tryz.underlying77 u32_info .i64 .i64 nq nq rfl rfl (Nat.le_refl _) (by omega) (by omega) (H2 + 1) za ?_)⟩
    intro wb2 bb cb zb
    have cw : Chg [] wq wb2 := (((Chg.drew wq).trans ca).trans cb).mono (fun b hb _ => by simp at hb)
    have bD := ba.chg cb (by simp)
    have bS := bb
    obtain ⟨S2, hS⟩ : ∃ S, H2 + 1 = S := ⟨_, rfl⟩
    obtain ⟨D2, hD⟩ : ∃ D, H2 = D := ⟨_, rfl⟩
    have hSD2 : S2 ≠ D2 := by omega
    have hSn2 : wq.heap.size ≤ S2 ∧ wq.heap.size ≤ D2 := by omega
    rw [hS] at bS ⊢
    rw [hD] at bD ⊢
    refine ⟨⟨⟨wb2, cw.below (Nat.le_refl _) (by simp)⟩, rfl⟩, ?_⟩
    have b5 := HB.out.chg cw (by simp)
    have m4 : wb2.cell? ⟨M, 4, none⟩ = some (.slice none 0 0) := (b5.cell 4).trans rfl
    have n4 := b5.free 4
    have m5 : wb2.cell? ⟨M, 5, none⟩ = some (.slice none 0 0) := (b5.cell 5).trans rfl
    have n5 := b5.free 5
    have hMb2 := b5.lt
    have G12 := Lib.hid b5
    have G22 := Lib.hid bS
    have G32 := Lib.hid bD
    have G42 := Lib.hid cw
    have G52 := Lib.hid zb
    clear b5 bS bD cw zb ba bb ca cb za
    refine pl_read rfl (fun K hK => ?_); go_simp; refine hK _ ?_; clear hK K
    refine pl_nil ?_
    simp only [List.drop_succ_cons, List.drop_zero]
    go_wp2_with fail
    go_ret
    have x := HG6.out
    have e1 : (wb2.setCell ⟨M, 4, none⟩ (.slice (some ⟨S2, 0, none⟩) nq nq)).setCell ⟨M, 5, none⟩ (.slice (some ⟨D2, 0, none⟩) 0 nq) = (wb2.setCell ⟨M, 4, none⟩ (.slice (some ⟨S2, 0, none⟩) nq nq)).setCell ⟨M, 5, none⟩ (.slice (some ⟨D2, 0, none⟩) 0 nq) := rfl
    have hmm := HM.out
    have hz := Z4.out
    have hq1 := HQ.out.2.2.2.2
    have cQ := (Chg.set wb2 M 4 (.slice (some ⟨S2, 0, none⟩) nq nq)).trans (Chg.set _ M 5 (.slice (some ⟨D2, 0, none⟩) 0 nq))
    have hMC' : MC < wr.heap.size := by omega
    rw [hmm]
    refine ⟨rfl, MC, S1, D1, S2, D2, ?_⟩
    exact
    { m := (G12.out.set 4 _).set 5 _
      mc := ((HQ.out.2.1.chg G42.out (by simp)).chg cQ (by simp; omega))
      s0 := ((HQ.out.2.2.1.chg G42.out (by simp)).chg cQ (by simp; omega))
      d0 := ((HQ.out.2.2.2.1.chg G42.out (by simp)).chg cQ (by simp; omega))
      s1 := G22.out.chg cQ (by simp; omega)
      d1 := G32.out.chg cQ (by simp; omega)
      chg := ((x.trans G42.out).trans cQ).mono (fun b hb hlt => by simp at hb; omega)
      new := ⟨by omega, by omega, by omega, by omega, by omega⟩
      apart := ⟨by omega, by omega, by omega, by omega, by omega, by omega, by omega, by omega, by omega, by omega⟩ }
  ·intro wa ba ca za
   refine ⟨⟨⟨wa, ((Chg.drew wr).trans ca).below (Nat.le_refl _) (by simp)⟩, rfl⟩, pl_at rfl (by rfl) (make_wp _ (.tmp 80) (.tmp 80) 77 86 rfl _ 1 4 Tryz.underlying77 u32_info .i64 .i64 nq nq rfl rfl (Nat.le_refl _) (by omega) (by omega) (H1 + 1) za ?_)⟩
   intro wb1 bb cb zb
   have cw : Chg [] wr wb1 := (((Chg.drew wr).trans ca).trans cb).mono (fun b hb _ => by simp at hb)
   have bD := ba.chg cb (by simp)
   have bS := bb
   obtain ⟨S1, hS⟩ : ∃ S, H1 + 1 = S := ⟨_, rfl⟩
   obtain ⟨D1, hD⟩ : ∃ D, H1 = D := ⟨_, rfl⟩
   have hSD1 : S1 ≠ D1 := by omega
   have hSn1 : wr.heap.size ≤ S1 ∧ wr.heap.size ≤ D1 := by omega
   rw [hS] at bS ⊢
   rw [hD] at bD ⊢
   refine ⟨⟨⟨wb1, cw.below (Nat.le_refl _) (by simp)⟩, rfl⟩, ?_⟩
   have b5 := B4.out.chg cw (by simp)
   have m2 : wb1.cell? ⟨M, 2, none⟩ = some (.slice none 0 0) := (b5.cell 2).trans rfl
   have n2 := b5.free 2
   have m3 : wb1.cell? ⟨M, 3, none⟩ = some (.slice none 0 0) := (b5.cell 3).trans rfl
   have n3 := b5.free 3
   have hMb1 := b5.lt
   have G11 := Lib.hid b5
   have G21 := Lib.hid bS
   have G31 := Lib.hid bD
   have G41 := Lib.hid cw
   have G51 := Lib.hid zb
   clear b5 bS bD cw zb ba bb ca cb za
   refine pl_read rfl (fun K hK => ?_); go_simp; refine hK _ ?_; clear hK K
   refine pl_nil ?_
   simp only [List.drop_succ_cons, List.drop_zero]
   go_wp2_with fail
   obtain ⟨wq, hwq⟩ : ∃ wq, wq = (wb1.setCell ⟨M, 2, none⟩ (.slice (some ⟨S1, 0, none⟩) nq nq)).setCell ⟨M, 3, none⟩ (.slice (some ⟨D1, 0, none⟩) 0 nq) := ⟨_, rfl⟩
   rw [← hwq]
   have cq : Chg [M] wb1 wq := by rw [hwq]; exact ((Chg.set wb1 M 2 _).trans (Chg.set _ M 3 _)).mono (fun b hb _ => by simpa using hb)
   have bq := (G11.out.set 2 (.slice (some ⟨S1, 0, none⟩) nq nq)).set 3 (.slice (some ⟨D1, 0, none⟩) 0 nq)
   rw [← hwq] at bq
   have hzq : wq.heap.size = wr.heap.size + 2 := by rw [hwq]; simp [World.setCell]; have := G51.out; omega
   have hMltW := hM3
   have HQ := Lib.hid (show Blk wq M _ 170 ∧ Blk wq MC (List.replicate nc (.int .i64 0)) 3 ∧ Blk wq S1 (madeCells (Value.int .u32 0).cells (nq * 1)).toList 86 ∧ Blk wq D1 (madeCells (Value.agg #[.int .u32 0, .pointer none]).cells (nq * 2)).toList 239 ∧ wq.heap.size = wr.heap.size + 2 from
    ⟨bq, (K4.out.chg G41.out (by simp)).chg cq (by simpa using hne), G21.out.chg cq (by simp; omega), G31.out.chg cq (by simp; omega), hzq⟩)
   have HG6 := Lib.hid ((C4.out.trans G41.out).trans cq)
   have HB := Lib.hid bq
   clear hwq cq bq
   refine wp_region_pl 6 (.read 0 (.read 1 (.read 3 (.fork 2 4 (.step 4 (.read 5 .nil)) (.step 2 (.read 5 .nil)))))) (fun w' => ∃ x : Ext wq, w' = x.now)
    (by kernel_rfl) (by kernel_rfl) (fun _ _ d _ _ h => by cases d <;> exact h) ⟨Ext.drewn _, rfl⟩ ?_
   refine pl_read rfl (fun K hK => ?_); go_simp; refine hK _ ?_; clear hK K
   refine pl_read rfl (fun K hK => ?_); go_simp; refine hK _ ?_; clear hK K
   refine pl_read rfl (fun K hK => ?_); go_simp; refine hK _ ?_; clear hK K
   obtain ⟨H2, hH2⟩ : ∃ H, wq.heap.size = H := ⟨_, rfl⟩
   refine ⟨pl_at rfl (by rfl) (make_wp _ (.tmp 88) (.tmp 88) 77 86 rfl _ 1 4 Tryz.underlying77 u32_info .i64 .i64 nq nq rfl rfl (Nat.le_refl _) (by omega) (by omega) H2 (by simpa using hH2) ?_), pl_at rfl (by rfl) (make_wp _ (.const (.int .i64 0)) (.tmp 90) 161 239 rfl _ 2 16 Tryz.underlying161 entry_info .i64 .i64 0 nq rfl rfl (Nat.zero_le _) (by omega) (by omega) H2 (by simpa using hH2) ?_)⟩
   ·intro wa ba ca za
    refine ⟨⟨⟨wa, ((Chg.drew wq).trans ca).below (Nat.le_refl _) (by simp)⟩, rfl⟩, pl_at rfl (by rfl) (make_wp _ (.const (.int .i64 0)) (.tmp 90) 161 239 rfl _ 2 16 Tryz.underlying161 entry_info .i64 .i64 0 nq rfl rfl (Nat.zero_le _) (by omega) (by omega) (H2 + 1) za ?_)⟩
    intro wb2 bb cb zb
    have cw : Chg [] wq wb2 := (((Chg.drew wq).trans ca).trans cb).mono (fun b hb _ => by simp at hb)
    have bS := ba.chg cb (by simp)
    have bD := bb
    obtain ⟨S2, hS⟩ : ∃ S, H2 = S := ⟨_, rfl⟩
    obtain ⟨D2, hD⟩ : ∃ D, H2 + 1 = D := ⟨_, rfl⟩
    have hSD2 : S2 ≠ D2 := by omega
    have hSn2 : wq.heap.size ≤ S2 ∧ wq.heap.size ≤ D2 := by omega
    rw [hD] at bD ⊢
    rw [hS] at bS ⊢
    refine ⟨⟨⟨wb2, cw.below (Nat.le_refl _) (by simp)⟩, rfl⟩, ?_⟩
    have b5 := HB.out.chg cw (by simp)
    have m4 : wb2.cell? ⟨M, 4, none⟩ = some (.slice none 0 0) := (b5.cell 4).trans rfl
    have n4 := b5.free 4
    have m5 : wb2.cell? ⟨M, 5, none⟩ = some (.slice none 0 0) := (b5.cell 5).trans rfl
    have n5 := b5.free 5
    have hMb2 := b5.lt
    have G12 := Lib.hid b5
    have G22 := Lib.hid bS
    have G32 := Lib.hid bD
    have G42 := Lib.hid cw
    have G52 := Lib.hid zb
    clear b5 bS bD cw zb ba bb ca cb za
    refine pl_read rfl (fun K hK => ?_); go_simp; refine hK _ ?_; clear hK K
    refine pl_nil ?_
    simp only [List.drop_succ_cons, List.drop_zero]
    go_wp2_with fail
    go_ret
    have x := HG6.out
    have e1 : (wb2.setCell ⟨M, 4, none⟩ (.slice (some ⟨S2, 0, none⟩) nq nq)).setCell ⟨M, 5, none⟩ (.slice (some ⟨D2, 0, none⟩) 0 nq) = (wb2.setCell ⟨M, 4, none⟩ (.slice (some ⟨S2, 0, none⟩) nq nq)).setCell ⟨M, 5, none⟩ (.slice (some ⟨D2, 0, none⟩) 0 nq) := rfl
    have hmm := HM.out
    have hz := Z4.out
    have hq1 := HQ.out.2.2.2.2
    have cQ := (Chg.set wb2 M 4 (.slice (some ⟨S2, 0, none⟩) nq nq)).trans (Chg.set _ M 5 (.slice (some ⟨D2, 0, none⟩) 0 nq))
    have hMC' : MC < wr.heap.size := by omega
    rw [hmm]
    refine ⟨rfl, MC, S1, D1, S2, D2, ?_⟩
    exact
    { m := (G12.out.set 4 _).set 5 _
      mc := ((HQ.out.2.1.chg G42.out (by simp)).chg cQ (by simp; omega))
      s0 := ((HQ.out.2.2.1.chg G42.out (by simp)).chg cQ (by simp; omega))
      d0 := ((HQ.out.2.2.2.1.chg G42.out (by simp)).chg cQ (by simp; omega))
      s1 := G22.out.chg cQ (by simp; omega)
      d1 := G32.out.chg cQ (by simp; omega)
      chg := ((x.trans G42.out).trans cQ).mono (fun b hb hlt => by simp at hb; omega)
      new := ⟨by omega, by omega, by omega, by omega, by omega⟩
      apart := ⟨by omega, by omega, by omega, by omega, by omega, by omega, by omega, by omega, by omega, by omega⟩ }
   ·intro wa ba ca za
    refine ⟨⟨⟨wa, ((Chg.drew wq).trans ca).below (Nat.le_refl _) (by simp)⟩, rfl⟩, pl_at rfl (by rfl) (make_wp _ (.tmp 88) (.tmp 88) 77 86 rfl _ 1 4 Tryz.underlying77 u32_info .i64 .i64 nq nq rfl rfl (Nat.le_refl _) (by omega) (by omega) (H2 + 1) za ?_)⟩
    intro wb2 bb cb zb
    have cw : Chg [] wq wb2 := (((Chg.drew wq).trans ca).trans cb).mono (fun b hb _ => by simp at hb)
    have bD := ba.chg cb (by simp)
    have bS := bb
    obtain ⟨S2, hS⟩ : ∃ S, H2 + 1 = S := ⟨_, rfl⟩
    obtain ⟨D2, hD⟩ : ∃ D, H2 = D := ⟨_, rfl⟩
    have hSD2 : S2 ≠ D2 := by omega
    have hSn2 : wq.heap.size ≤ S2 ∧ wq.heap.size ≤ D2 := by omega
    rw [hS] at bS ⊢
    rw [hD] at bD ⊢
    refine ⟨⟨⟨wb2, cw.below (Nat.le_refl _) (by simp)⟩, rfl⟩, ?_⟩
    have b5 := HB.out.chg cw (by simp)
    have m4 : wb2.cell? ⟨M, 4, none⟩ = some (.slice none 0 0) := (b5.cell 4).trans rfl
    have n4 := b5.free 4
    have m5 : wb2.cell? ⟨M, 5, none⟩ = some (.slice none 0 0) := (b5.cell 5).trans rfl
    have n5 := b5.free 5
    have hMb2 := b5.lt
    have G12 := Lib.hid b5
    have G22 := Lib.hid bS
    have G32 := Lib.hid bD
    have G42 := Lib.hid cw
    have G52 := Lib.hid zb
    clear b5 bS bD cw zb ba bb ca cb za
    refine pl_read rfl (fun K hK => ?_); go_simp; refine hK _ ?_; clear hK K
    refine pl_nil ?_
    simp only [List.drop_succ_cons, List.drop_zero]
    go_wp2_with fail
    go_ret
    have x := HG6.out
    have e1 : (wb2.setCell ⟨M, 4, none⟩ (.slice (some ⟨S2, 0, none⟩) nq nq)).setCell ⟨M, 5, none⟩ (.slice (some ⟨D2, 0, none⟩) 0 nq) = (wb2.setCell ⟨M, 4, none⟩ (.slice (some ⟨S2, 0, none⟩) nq nq)).setCell ⟨M, 5, none⟩ (.slice (some ⟨D2, 0, none⟩) 0 nq) := rfl
    have hmm := HM.out
    have hz := Z4.out
    have hq1 := HQ.out.2.2.2.2
    have cQ := (Chg.set wb2 M 4 (.slice (some ⟨S2, 0, none⟩) nq nq)).trans (Chg.set _ M 5 (.slice (some ⟨D2, 0, none⟩) 0 nq))
    have hMC' : MC < wr.heap.size := by omega
    rw [hmm]
    refine ⟨rfl, MC, S1, D1, S2, D2, ?_⟩
    exact
    { m := (G12.out.set 4 _).set 5 _
      mc := ((HQ.out.2.1.chg G42.out (by simp)).chg cQ (by simp; omega))
      s0 := ((HQ.out.2.2.1.chg G42.out (by simp)).chg cQ (by simp; omega))
      d0 := ((HQ.out.2.2.2.1.chg G42.out (by simp)).chg cQ (by simp; omega))
      s1 := G22.out.chg cQ (by simp; omega)
      d1 := G32.out.chg cQ (by simp; omega)
      chg := ((x.trans G42.out).trans cQ).mono (fun b hb hlt => by simp at hb; omega)
      new := ⟨by omega, by omega, by omega, by omega, by omega⟩
      apart := ⟨by omega, by omega, by omega, by omega, by omega, by omega, by omega, by omega, by omega, by omega⟩ }

end Go.Proofs.YtkbmigfkclnlaaaGreatDoor
namespace Go.Rx
namespace Env
variable {E : Env}

theorem stepF_none (p k : Nat) (ht : ∀ pc, E.takes (E.prog pc) (E.st p).1 = false) : ∀ (r n : List Entry) (m : Option (List Int)), (stepF E p k r n m).1 = n
 | [], _, _ => rfl
 | (_, none) :: r, n, m => stepF_none p k ht r n m
 | (pc, some c) :: r, n, m => by
  unfold stepF
  split
  ·rfl
  ·rw [if_neg (by rw [ht]; simp)]
   exact stepF_none p k ht r n m

structure Anch (E : Env) (start : Nat) : Prop where
 ok : E.Ok
 zero : ZeroDead E
 begin : ∀ p c, 0 < p → res E start p c = none
 on : ∀ p, p < E.n → 0 < (E.st p).2 ∧ p + (E.st p).2 ≤ E.n
 stop : ∀ p, E.n ≤ p → (E.st p).2 = 0 ∧ ∀ pc, E.takes (E.prog pc) (E.st p).1 = false

theorem metAll_one (p : Nat) (k start : Nat) (c : List Int) (h : Anch E start) (hk : E.top ≤ k) (q : List Entry) (hm : MetAll E p q) :
  val E p (addF E p k q start c) = (val E p q).or (res E start p c) ∧ MetAll E p (addF E p k q start c) := addF_all h.ok h.zero p k q start c hk hm

end Env
end Go.Rx
namespace Go.Proofs.YtkbmigfkclnlaaaGreatDoor
open Go.RowKit Go.Rx
theorem mstep_method (B : Nat) (w : World) : (method 387 237 (.pointer (some ⟨B, 9, none⟩)) "pub-timebook/pub/regexp.step").run Tryz.prog w = .ok (174, .pointer (some ⟨B, 9, none⟩)) w := by kernel_rfl
theorem mstep_func (B : Nat) (pos : Int) (w : World) : (callFunc 174 #[.pointer (some ⟨B, 9, none⟩), .int .i64 pos]).run Tryz.prog w = .ok (.enter 174 #[.pointer (some ⟨B, 9, none⟩), .int .i64 pos]) w := by kernel_rfl
attribute [local go_sem] mstep_method mstep_func
attribute [local go_sem] Ext.cell Ext.frozen Ext.lt Ext.lt_add Ext.cell2 Ext.frozen2

def secondLoop : Code → Option Code
 | .seq a b => (secondLoop b).or (secondLoop a)
 | .block _ c => secondLoop c
 | .loop c => some c
 | _ => none
def inBlock : Code → Code
 | .block _ c => c
 | c => c

noncomputable def mtBody : Code := (Tryz.f87.body.bind secondLoop).getD .skip
noncomputable def mtIn : Code := inBlock mtBody
noncomputable def mtMid : Code := dropSeq 2 mtIn
theorem mt_in : mtBody = Code.block 3 mtIn := by kernel_rfl

inductive MF (M rq xq pos : Nat) (r r1 : Int) (wd wd1 F : Nat) : Act → Prop
 | mk (u3 u4 u5 u6 u8 u16 u17 u18 u19 u20 u21 u22 u23 u24 u25 u26 u27 u28 u29 u30 u31 u32 u33 u34 u35 u36 u37 u38 u39 u40 u41 u42 u43 u44 u45 u46 u47 u48 u49 u50 u51 u52 u53 u54 u55 u56 u57 u58 u59 u60 u61 u62 u63 u64 u65 u66 u67 u68 u69 u70 u71 u72 u73 u74 u75 u76 u77 u78 u79 u80 u81 u82 u83 u84 u85 u86 u87 u88 u89 u90 u91 u92 u93 u94 u95 u96 u97 u98 u99 u100 u101 u102 u103 u104 u105 u106 u107 u108 u109 u110 u111 u112 u113 u114 u115 u116 u117 u118 u119 u120 u121 u122 u123 u124 u125 u126 u127 u128 u129 u130 u131 u132 u133 u134 u135 u136 u137 u138 u139 u140 u141 u142 u143 u144 u145 u146 u147 u148 u149 u150 u151 u152 u153 u154 u155 u156 u157 u158 u159 u160 u161 u162 u163 u164 u165 u166 u167 u168 u169 u170 u171 u172 u173 u174 u175 u176 u177 u178 u179 u180 u181 u182 u183 u184 u185 u186 u187 u188 u189 u190 u191 u192 u193 u194 u195 u196 u197 u198 u199 u200 u201 u202 u203 u204 u205 u206 u207 u208 u209 u210 u211 u212 u213 u214 u215 u216 u217 u218 u219 u220 u221 u222 u223 u224 u225 : Value) : MF M rq xq pos r r1 wd wd1 F ⟨#[.pointer (some ⟨M, 0, none⟩), .iface 237 (.pointer (some ⟨M, 9, none⟩)), .int .i64 pos, u3, u4, u5, u6, .int .u8 4, u8, .pointer (some ⟨M, rq, none⟩), .pointer (some ⟨M, xq, none⟩), .int .i32 r, .int .i32 r1, .int .i64 wd, .int .i64 wd1, .pointer (some ⟨F, 0, none⟩), u16, u17, u18, u19, u20, u21, u22, u23, u24, u25, u26, u27, u28, u29, u30, u31, u32, u33, u34, u35, u36, u37, u38, u39, u40, u41, u42, u43, u44, u45, u46, u47, u48, u49, u50, u51, u52, u53, u54, u55, u56, u57, u58, u59, u60, u61, u62, u63, u64, u65, u66, u67, u68, u69, u70, u71, u72, u73, u74, u75, u76, u77, u78, u79, u80, u81, u82, u83, u84, u85, u86, u87, u88, u89, u90, u91, u92, u93, u94, u95, u96, u97, u98, u99, u100, u101, u102, u103, u104, u105, u106, u107, u108, u109, u110, u111, u112, u113, u114, u115, u116, u117, u118, u119, u120, u121, u122, u123, u124, u125, u126, u127, u128, u129, u130, u131, u132, u133, u134, u135, u136, u137, u138, u139, u140, u141, u142, u143, u144, u145, u146, u147, u148, u149, u150, u151, u152, u153, u154, u155, u156, u157, u158, u159, u160, u161, u162, u163, u164, u165, u166, u167, u168, u169, u170, u171, u172, u173, u174, u175, u176, u177, u178, u179, u180, u181, u182, u183, u184, u185, u186, u187, u188, u189, u190, u191, u192, u193, u194, u195, u196, u197, u198, u199, u200, u201, u202, u203, u204, u205, u206, u207, u208, u209, u210, u211, u212, u213, u214, u215, u216, u217, u218, u219, u220, u221, u222, u223, u224, u225], []⟩

set_option maxRecDepth 1000000 in
set_option maxHeartbeats 4000000 in
theorem mt_dead {a : Act} (M rq xq pos : Nat) (r r1 : Int) (wd wd1 F : Nat) (w : World) (Q : Exit → Act → World → Prop) (R D nq : Nat) (hq : w.cell? ⟨M, rq + 1, none⟩ = some (.slice (some ⟨D, 0, none⟩) 0 nq)) (hp : 0 < pos) (hp2 : pos < 100000000000) (hgo : ∀ a, MF M rq xq pos r r1 wd wd1 F a → Q (.exit 2) a w) (hfr : MF M rq xq pos r r1 wd wd1 F a) : mtIn.wp Tryz.prog Q a w := by
 cases hfr
 conv => arg 2; whnf
 have hb4 : bits .and .u8 4 4 = 4 := by rfl
 have HG := Lib.hid hgo
 clear hgo
 have hp' : ¬ (pos : Int) = 0 := by omega
 go_wp2_with fail
 exact HG.out _ (by constructor)

set_option maxRecDepth 1000000 in
set_option maxHeartbeats 4000000 in
theorem mt_add {a : Act} (M rq xq pos : Nat) (r r1 : Int) (wd wd1 F : Nat) (w : World) (Q : Exit → Act → World → Prop) (R PR D n nq MC nc : Nat) (c0 : w.cell? ⟨M, 0, none⟩ = some (.pointer (some ⟨R, 0, none⟩))) (hq : w.cell? ⟨M, rq + 1, none⟩ = some (.slice (some ⟨D, 0, none⟩) n nq)) (hnq : n ≤ 1000000) (c8 : w.cell? ⟨M, 8, none⟩ = some (.slice (some ⟨MC, 0, none⟩) nc nc)) (hnc : 2 ≤ nc ∧ nc < 100) (hn : 0 < n) (c7 : w.cell? ⟨M, 7, none⟩ = some (.bool false)) (c1 : w.cell? ⟨M, 1, none⟩ = some (.pointer (some ⟨PR, 0, none⟩))) (cs : w.cell? ⟨PR, 1, none⟩ = some (.int .i64 1)) (hMl : M < w.heap.size) (hPl : PR < w.heap.size) (hRl : R < w.heap.size) (hPM : PR ≠ MC) (hMM : M ≠ MC) (x0 : Value) (cx : w.cell? ⟨MC, 0, none⟩ = some x0) (fc : w.frozen? ⟨MC, 0, none⟩ = false) (hMCl : MC < w.heap.size) (G : World → Prop) (hadd : ∀ x : Ext (w.setCell ⟨MC, 0, none⟩ (.int .i64 pos)), Calls Tryz.prog 108 #[.pointer (some ⟨M, 0, none⟩), .pointer (some ⟨M, rq, none⟩), .int .u32 1, .int .i64 pos, .slice (some ⟨MC, 0, none⟩) nc nc, .pointer (some ⟨F, 0, none⟩), .pointer none] x.now fun e w1 => ∃ hand, e = .returned (handPtr hand) ∧ G w1) (hgo : ∀ a w1, MF M rq xq pos r r1 wd wd1 F a → G w1 → Ent mtMid Q a w1) (hfr : MF M rq xq pos r r1 wd wd1 F a) : mtIn.wp Tryz.prog Q a w := by
 cases hfr
 conv => arg 2; whnf
 have hn0 : ¬ (n : Int) = 0 := by omega
 have hncp : (0 : Int) < (nc : Int) := by omega
 have hMM' : MC ≠ M := Ne.symm hMM
 have hPM' : MC ≠ PR := Ne.symm hPM
 have HA := Lib.hid hadd
 clear hadd
 have HG := Lib.hid hgo
 clear hgo
 go_upto_region 32 with (fail)
 rename_i K hK
 obtain ⟨w1, hw1⟩ : ∃ w1, w1 = w.setCell ⟨MC, 0, none⟩ (.int .i64 pos) := ⟨_, rfl⟩
 have cc : Chg [MC] w w1 := by rw [hw1]; exact Chg.set _ _ _ _
 have d0 : w1.cell? ⟨M, 0, none⟩ = some (.pointer (some ⟨R, 0, none⟩)) := (World.cell?_of_block (cc.block M hMl (by simpa using hMM))).trans c0
 have d1 : w1.cell? ⟨M, 1, none⟩ = some (.pointer (some ⟨PR, 0, none⟩)) := (World.cell?_of_block (cc.block M hMl (by simpa using hMM))).trans c1
 have d8 : w1.cell? ⟨M, 8, none⟩ = some (.slice (some ⟨MC, 0, none⟩) nc nc) := (World.cell?_of_block (cc.block M hMl (by simpa using hMM))).trans c8
 have ds : w1.cell? ⟨PR, 1, none⟩ = some (.int .i64 1) := (World.cell?_of_block (cc.block PR hPl (by simpa using hPM))).trans cs
 have dM : M < w1.heap.size := by rw [hw1]; simpa using hMl
 have dP : PR < w1.heap.size := by rw [hw1]; simpa using hPl
 have HA0 := HA.out
 rw [← hw1] at HA0
 have HA1 := Lib.hid HA0
 rw [← hw1]
 clear cc hw1 HA HA0 cx c0 c1 c8 cs hMl hPl
 refine wp_region_ext_tail 15 rfl (by kernel_rfl) ?_
 simp only [List.take_succ_cons, List.take_zero, List.drop_succ_cons, List.drop_zero]
 repeat (quiet_step (fail))
 refine wpQuiet_nil ?_
 rintro w' ⟨z, rfl⟩
 go_wp2_with fail
 refine (HA1.out z).mono ?_
 rintro e w2 ⟨hand, rfl, hg⟩
 try dsimp only
 go_upto_region 33 with (fail)
 exact HG.out _ _ (by constructor) hg _ (by assumption)

set_option maxRecDepth 1000000 in
set_option maxHeartbeats 4000000 in
theorem mt_first {a : Act} (M rq xq pos : Nat) (r r1 : Int) (wd wd1 F : Nat) (w : World) (Q : Exit → Act → World → Prop) (R PR D n nq MC nc : Nat) (c0 : w.cell? ⟨M, 0, none⟩ = some (.pointer (some ⟨R, 0, none⟩))) (hq : w.cell? ⟨M, rq + 1, none⟩ = some (.slice (some ⟨D, 0, none⟩) n nq)) (hnq : n ≤ 1000000) (c8 : w.cell? ⟨M, 8, none⟩ = some (.slice (some ⟨MC, 0, none⟩) nc nc)) (hnc : 2 ≤ nc ∧ nc < 100) (hn : n = 0) (hp : pos = 0) (cp : w.cell? ⟨R, 6, none⟩ = some (.string ByteArray.empty)) (c7 : w.cell? ⟨M, 7, none⟩ = some (.bool false)) (c1 : w.cell? ⟨M, 1, none⟩ = some (.pointer (some ⟨PR, 0, none⟩))) (cs : w.cell? ⟨PR, 1, none⟩ = some (.int .i64 1)) (hMl : M < w.heap.size) (hPl : PR < w.heap.size) (hRl : R < w.heap.size) (hPM : PR ≠ MC) (hMM : M ≠ MC) (x0 : Value) (cx : w.cell? ⟨MC, 0, none⟩ = some x0) (fc : w.frozen? ⟨MC, 0, none⟩ = false) (hMCl : MC < w.heap.size) (G : World → Prop) (hadd : ∀ x : Ext (w.setCell ⟨MC, 0, none⟩ (.int .i64 0)), Calls Tryz.prog 108 #[.pointer (some ⟨M, 0, none⟩), .pointer (some ⟨M, rq, none⟩), .int .u32 1, .int .i64 0, .slice (some ⟨MC, 0, none⟩) nc nc, .pointer (some ⟨F, 0, none⟩), .pointer none] x.now fun e w1 => ∃ hand, e = .returned (handPtr hand) ∧ G w1) (hgo : ∀ a w1, MF M rq xq pos r r1 wd wd1 F a → G w1 → Ent mtMid Q a w1) (hfr : MF M rq xq pos r r1 wd wd1 F a) : mtIn.wp Tryz.prog Q a w := by
 cases hfr
 conv => arg 2; whnf
 have hb4 : bits .and .u8 4 4 = 4 := by rfl
 subst hp
 subst hn
 have hncp : (0 : Int) < (nc : Int) := by omega
 have hMM' : MC ≠ M := Ne.symm hMM
 have hPM' : MC ≠ PR := Ne.symm hPM
 have HA := Lib.hid hadd
 clear hadd
 have HG := Lib.hid hgo
 clear hgo
 go_upto_region 32 with (fail)
 rename_i K hK
 obtain ⟨w1, hw1⟩ : ∃ w1, w1 = w.setCell ⟨MC, 0, none⟩ (.int .i64 0) := ⟨_, rfl⟩
 have cc : Chg [MC] w w1 := by rw [hw1]; exact Chg.set _ _ _ _
 have d0 : w1.cell? ⟨M, 0, none⟩ = some (.pointer (some ⟨R, 0, none⟩)) := (World.cell?_of_block (cc.block M hMl (by simpa using hMM))).trans c0
 have d1 : w1.cell? ⟨M, 1, none⟩ = some (.pointer (some ⟨PR, 0, none⟩)) := (World.cell?_of_block (cc.block M hMl (by simpa using hMM))).trans c1
 have d8 : w1.cell? ⟨M, 8, none⟩ = some (.slice (some ⟨MC, 0, none⟩) nc nc) := (World.cell?_of_block (cc.block M hMl (by simpa using hMM))).trans c8
 have ds : w1.cell? ⟨PR, 1, none⟩ = some (.int .i64 1) := (World.cell?_of_block (cc.block PR hPl (by simpa using hPM))).trans cs
 have dM : M < w1.heap.size := by rw [hw1]; simpa using hMl
 have dP : PR < w1.heap.size := by rw [hw1]; simpa using hPl
 have HA0 := HA.out
 rw [← hw1] at HA0
 have HA1 := Lib.hid HA0
 rw [← hw1]
 clear cc hw1 HA HA0 cx c0 c1 c8 cs hMl hPl
 refine wp_region_ext_tail 15 rfl (by kernel_rfl) ?_
 simp only [List.take_succ_cons, List.take_zero, List.drop_succ_cons, List.drop_zero]
 repeat (quiet_step (fail))
 refine wpQuiet_nil ?_
 rintro w' ⟨z, rfl⟩
 go_wp2_with fail
 refine (HA1.out z).mono ?_
 rintro e w2 ⟨hand, rfl, hg⟩
 try dsimp only
 go_upto_region 33 with (fail)
 exact HG.out _ _ (by constructor) hg _ (by assumption)

set_option maxRecDepth 1000000 in
set_option maxHeartbeats 4000000 in
theorem mt_on {a : Act} (M rq xq pos : Nat) (r r1 : Int) (wd wd1 F : Nat) (w : World) (Q : Exit → Act → World → Prop) (R PR D n nq MC nc : Nat) (c0 : w.cell? ⟨M, 0, none⟩ = some (.pointer (some ⟨R, 0, none⟩))) (hq : w.cell? ⟨M, rq + 1, none⟩ = some (.slice (some ⟨D, 0, none⟩) n nq)) (hnq : n ≤ 1000000) (c8 : w.cell? ⟨M, 8, none⟩ = some (.slice (some ⟨MC, 0, none⟩) nc nc)) (hnc : 2 ≤ nc ∧ nc < 100) (hn : 0 < n) (c7 : w.cell? ⟨M, 7, none⟩ = some (.bool true)) (hgo : ∀ a, MF M rq xq pos r r1 wd wd1 F a → Ent mtMid Q a w) (hfr : MF M rq xq pos r r1 wd wd1 F a) : mtIn.wp Tryz.prog Q a w := by
 cases hfr
 conv => arg 2; whnf
 have hn0 : ¬ (n : Int) = 0 := by omega
 have HG := Lib.hid hgo
 clear hgo
 go_upto_region 33 with (fail)
 exact HG.out _ (by constructor) _ (by assumption)

set_option maxRecDepth 1000000 in
set_option maxHeartbeats 4000000 in
theorem mt_stop {a : Act} (M rq xq pos : Nat) (r r1 : Int) (wd wd1 F : Nat) (w : World) (Q : Exit → Act → World → Prop) (p2 : Nat) (e2 : (pos : Int) + (wd : Int) = (p2 : Int)) (hp2 : p2 < 100000000000) (x0 : Value) (cF : w.cell? ⟨F, 0, none⟩ = some x0) (fF : w.frozen? ⟨F, 0, none⟩ = false) (hFl : F < w.heap.size) (G : World → Prop) (hstep : Calls Tryz.prog 109 #[.pointer (some ⟨M, 0, none⟩), .pointer (some ⟨M, rq, none⟩), .pointer (some ⟨M, xq, none⟩), .int .i64 pos, .int .i64 p2, .int .i32 r, .pointer (some ⟨F, 0, none⟩)] (w.setCell ⟨F, 0, none⟩ (.int .u64 (flagOf r r1))) fun e w1 => e = .returned (.tuple #[]) ∧ G w1) (hwd : wd = 0) (hgo : ∀ a w1, MF M rq xq pos r r1 wd wd1 F a → G w1 → Q (.exit 2) a w1) (hfr : MF M rq xq pos r r1 wd wd1 F a) : Ent mtMid Q a w := by
 cases hfr
 intro K hK
 conv => arg 2; whnf
 subst hwd
 have e2b : pos = p2 := by omega
 subst e2b
 have hfl := flag_new r r1 w
 have HF1 := Lib.hid hfl
 have HS := Lib.hid hstep
 clear hfl hstep
 have HG := Lib.hid hgo
 clear hgo
 go_wp2_with (first | (go_at_call 107; (with_reducible refine HF1.out.mono ?_); rintro e w1 ⟨rfl, rfl⟩))
 conv => arg 2; whnf
 go_wp2_with (first | (go_at_call 109; (with_reducible refine HS.out.mono ?_); rintro e w1 ⟨rfl, hg⟩))
 exact HG.out _ _ (by constructor) hg

set_option maxRecDepth 1000000 in
set_option maxHeartbeats 4000000 in
theorem mt_last {a : Act} (M rq xq pos : Nat) (r r1 : Int) (wd wd1 F : Nat) (w : World) (Q : Exit → Act → World → Prop) (p2 : Nat) (e2 : (pos : Int) + (wd : Int) = (p2 : Int)) (hp2 : p2 < 100000000000) (x0 : Value) (cF : w.cell? ⟨F, 0, none⟩ = some x0) (fF : w.frozen? ⟨F, 0, none⟩ = false) (hFl : F < w.heap.size) (G : World → Prop) (hstep : Calls Tryz.prog 109 #[.pointer (some ⟨M, 0, none⟩), .pointer (some ⟨M, rq, none⟩), .pointer (some ⟨M, xq, none⟩), .int .i64 pos, .int .i64 p2, .int .i32 r, .pointer (some ⟨F, 0, none⟩)] (w.setCell ⟨F, 0, none⟩ (.int .u64 (flagOf r r1))) fun e w1 => e = .returned (.tuple #[]) ∧ G w1) (MC nc : Nat) (h8 : ∀ w1, G w1 → w1.cell? ⟨M, 8, none⟩ = some (.slice (some ⟨MC, 0, none⟩) nc nc)) (hnc : 0 < nc ∧ nc < 100) (hwd : 0 < wd) (hr1 : r1 = -1) (hgo : ∀ a w1, MF M xq rq p2 r1 r1 wd1 wd1 F a → G w1 → Q .normal a w1) (hfr : MF M rq xq pos r r1 wd wd1 F a) : Ent mtMid Q a w := by
 cases hfr
 intro K hK
 conv => arg 2; whnf
 have hwd0 : ¬ (wd : Int) = 0 := by omega
 have hnc0 : ¬ (nc : Int) = 0 := by omega
 have hnc1 : ¬ nc = 0 := by omega
 subst hr1
 have hfl := flag_new r (-1) w
 have HF1 := Lib.hid hfl
 have HS := Lib.hid hstep
 clear hfl hstep
 have HG := Lib.hid hgo
 clear hgo
 go_wp2_with (first | (go_at_call 107; (with_reducible refine HF1.out.mono ?_); rintro e w1 ⟨rfl, rfl⟩))
 conv => arg 2; whnf
 go_wp2_with (first | (go_at_call 109; (with_reducible refine HS.out.mono ?_); rintro e w1 ⟨rfl, hg⟩; have d8 := h8 _ hg))
 exact HG.out _ _ (by constructor) hg

set_option maxRecDepth 1000000 in
set_option maxHeartbeats 4000000 in
theorem mt_next {a : Act} (M rq xq pos : Nat) (r r1 : Int) (wd wd1 F : Nat) (w : World) (Q : Exit → Act → World → Prop) (p2 : Nat) (e2 : (pos : Int) + (wd : Int) = (p2 : Int)) (hp2 : p2 < 100000000000) (x0 : Value) (cF : w.cell? ⟨F, 0, none⟩ = some x0) (fF : w.frozen? ⟨F, 0, none⟩ = false) (hFl : F < w.heap.size) (G : World → Prop) (hstep : Calls Tryz.prog 109 #[.pointer (some ⟨M, 0, none⟩), .pointer (some ⟨M, rq, none⟩), .pointer (some ⟨M, xq, none⟩), .int .i64 pos, .int .i64 p2, .int .i32 r, .pointer (some ⟨F, 0, none⟩)] (w.setCell ⟨F, 0, none⟩ (.int .u64 (flagOf r r1))) fun e w1 => e = .returned (.tuple #[]) ∧ G w1) (MC nc : Nat) (h8 : ∀ w1, G w1 → w1.cell? ⟨M, 8, none⟩ = some (.slice (some ⟨MC, 0, none⟩) nc nc)) (hnc : 0 < nc ∧ nc < 100) (hwd : 0 < wd) (hr1 : r1 ≠ -1) (p3 : Nat) (e3 : (p2 : Int) + (wd1 : Int) = (p3 : Int)) (hp3 : p3 < 100000000000) (r2 : Int) (wd2 : Nat) (hst : ∀ w1, G w1 → Calls Tryz.prog 174 #[.pointer (some ⟨M, 9, none⟩), .int .i64 p3] w1 fun e w2 => e = .returned (.tuple #[.int .i32 r2, .int .i64 wd2]) ∧ w2 = w1) (hgo : ∀ a w1, MF M xq rq p2 r1 r2 wd1 wd2 F a → G w1 → Q .normal a w1) (hfr : MF M rq xq pos r r1 wd wd1 F a) : Ent mtMid Q a w := by
 cases hfr
 intro K hK
 conv => arg 2; whnf
 have hwd0 : ¬ (wd : Int) = 0 := by omega
 have hnc0 : ¬ (nc : Int) = 0 := by omega
 have hnc1 : ¬ nc = 0 := by omega
 have hfl := flag_new r r1 w
 have HF1 := Lib.hid hfl
 have H160 := Lib.hid hst
 clear hst
 have HS := Lib.hid hstep
 clear hfl hstep
 have HG := Lib.hid hgo
 clear hgo
 go_wp2_with (first | (go_at_call 107; (with_reducible refine HF1.out.mono ?_); rintro e w1 ⟨rfl, rfl⟩))
 conv => arg 2; whnf
 go_wp2_with (first | (go_at_call 109; (with_reducible refine HS.out.mono ?_); rintro e w1 ⟨rfl, hg⟩; have d8 := h8 _ hg) | (go_at_call 174; (with_reducible refine (H160.out _ hg).mono ?_); rintro e w2 ⟨rfl, rfl⟩))
 exact HG.out _ _ (by constructor) hg

end Go.Proofs.YtkbmigfkclnlaaaGreatDoor
namespace Go.Proofs.YtkbmigfkclnlaaaGreatDoor
open Go.RowKit Go.Rx

def SL.swap (Y : SL) : SL := { Y with L := { Y.L with qo := Y.ro, S := Y.Sr, D := Y.Dr, tS := Y.tSr, tD := Y.tDr }, ro := Y.L.qo, Dr := Y.L.D, Sr := Y.L.S, tDr := Y.L.tD, tSr := Y.L.tS }
def SL.fl (Y : SL) (f : Int) : SL := { Y with L := { Y.L with fl := f } }

structure MOk (Y : SL) : Prop where
 so : SOk Y
 mr : Y.L.ml[Y.ro]? = some (.slice (some ⟨Y.Sr, 0, none⟩) Y.L.nq Y.L.nq)
 m0 : Y.L.ml[0]? = some (.pointer (some ⟨Y.L.R, 0, none⟩))

section
variable {Y : SL} {E : Env} {p k : Nat} {mcap : List Int} {m : Option (List Int)} {n : List CE} {pool : List Th} {rem q : List CE} {pb : Option (Nat × Nat)} {len PB PB' j : Nat} {w : World}

theorem MOk.swap (h : MOk Y) : MOk Y.swap :=
 ⟨⟨{ len := h.so.ok.len, m1 := h.so.ok.m1, mq := h.mr, m8 := h.so.ok.m8, qo := h.so.ro, np := h.so.ok.np, nq := h.so.ok.nq, nc := h.so.ok.nc, ops := h.so.ok.ops, out := h.so.ok.out, alt := h.so.ok.alt, cap := h.so.ok.cap, ew := h.so.ok.ew }, h.so.ok.qo, Ne.symm h.so.ne⟩, h.so.ok.mq, h.m0⟩

theorem MOk.fl (h : MOk Y) (f : Int) : MOk (Y.fl f) :=
 ⟨⟨{ len := h.so.ok.len, m1 := h.so.ok.m1, mq := h.so.ok.mq, m8 := h.so.ok.m8, qo := h.so.ok.qo, np := h.so.ok.np, nq := h.so.ok.nq, nc := h.so.ok.nc, ops := h.so.ok.ops, out := h.so.ok.out, alt := h.so.ok.alt, cap := h.so.ok.cap, ew := h.so.ok.ew }, h.so.ro, h.so.ne⟩, h.mr, h.m0⟩

theorem StepMem.fresh (h : StepMem Y mcap m n pool [] pb 0 q PB w) (hB : pool.length ≤ PB') : StepMem Y mcap m n pool [] pb 0 [] PB' w := by
 obtain ⟨dl, a, b, c⟩ := h.rows.d
 exact ⟨h.st, h.cap, ⟨⟨dl, a, b, fun i e hi => by simp at hi⟩, h.rows.s⟩, by simpa using hB, h.below⟩

theorem blks_tot {L : AL} (h : ∀ pc t, (pc, some t) ∈ n → t.1.2 ≠ L.MC) (pool : List Th) : (L.cb L.MC).blks n pool none = [L.M, L.S, L.D, L.F, L.MC] ++ pbBlk L.pb ++ aBlks n ++ pBlks pool := by
 have hq : qBlks L.MC n = aBlks n := qBlks_all h
 simp only [AL.blks, AL.cb, hq, hBlks, List.append_nil]

theorem StepMem.swap (mo : MOk Y) (h : StepMem Y mcap m q pool [] pb 0 [] PB w) (hB : pool.length + q.length ≤ PB') : StepMem Y.swap mcap m [] pool q pb q.length q PB' w := by
 have hro := mo.so.ro
 have hqo : Y.L.qo = 2 ∨ Y.L.qo = 4 := mo.so.ok.qo
 have hne := mo.so.ne
 have st := h.st.st
 obtain ⟨dl, a1, a2, a3⟩ := h.rows.d
 obtain ⟨sp, b1, b2⟩ := h.rows.s
 obtain ⟨rest, d1, d2⟩ := st.dense
 obtain ⟨sq, s1, s2, s3⟩ := st.sparse
 have hc : ∀ x, List.count x ((Y.swap.at pb q.length m.isSome).tot [] pool q [] ([Y.swap.Dr, Y.swap.Sr] ++ Y.swap.X)) = List.count x ((Y.at pb 0 m.isSome).tot q pool [] [] ([Y.Dr, Y.Sr] ++ Y.X)) := by
  intro x
  have e1 : (Y.swap.at pb q.length m.isSome).tot [] pool q [] ([Y.swap.Dr, Y.swap.Sr] ++ Y.swap.X) = ([Y.L.M] ++ [Y.Sr] ++ [Y.Dr] ++ [Y.L.F, Y.L.MC]) ++ pbBlk pb ++ aBlks [] ++ pBlks pool ++ aBlks q ++ pBlks [] ++ ([Y.L.D] ++ [Y.L.S] ++ Y.X) := rfl
  have e2 : (Y.at pb 0 m.isSome).tot q pool [] [] ([Y.Dr, Y.Sr] ++ Y.X) = ([Y.L.M] ++ [Y.L.S] ++ [Y.L.D] ++ [Y.L.F, Y.L.MC]) ++ pbBlk pb ++ aBlks q ++ pBlks pool ++ aBlks [] ++ pBlks [] ++ ([Y.Dr] ++ [Y.Sr] ++ Y.X) := rfl
  rw [e1, e2]
  simp only [List.count_append]
  omega
 have hap : ((Y.swap.at pb q.length m.isSome).tot [] pool q [] ([Y.swap.Dr, Y.swap.Sr] ++ Y.swap.X)).Nodup := nodup_of_count h.st.apart (fun x => by rw [hc]; exact Nat.le_refl _)
 have hge : ∀ b, b ∈ (Y.swap.at pb q.length m.isSome).tot [] pool q [] ([Y.swap.Dr, Y.swap.Sr] ++ Y.swap.X) → Y.L.N ≤ b ∧ b < w.heap.size := fun b hb => h.st.ge b (mem_of_count (fun x => by rw [hc]; exact Nat.le_refl _) b hb)
 have hsub : ∀ x, List.count x (((Y.swap.at pb q.length m.isSome).cb Y.L.MC).blks [] pool none) ≤ List.count x ((Y.swap.at pb q.length m.isSome).tot [] pool q [] ([Y.swap.Dr, Y.swap.Sr] ++ Y.swap.X)) := by
  intro x
  have e1 : ((Y.swap.at pb q.length m.isSome).cb Y.L.MC).blks [] pool none = [Y.L.M, Y.Sr, Y.Dr, Y.L.F, Y.L.MC] ++ pbBlk pb ++ pBlks pool := by
   simp [AL.blks, AL.cb, SL.at, SL.swap, AL.pl, AL.mlo, qBlks, hBlks]
  have e2 : (Y.swap.at pb q.length m.isSome).tot [] pool q [] ([Y.swap.Dr, Y.swap.Sr] ++ Y.swap.X) = [Y.L.M, Y.Sr, Y.Dr, Y.L.F, Y.L.MC] ++ pbBlk pb ++ aBlks [] ++ pBlks pool ++ aBlks q ++ pBlks [] ++ ([Y.L.D] ++ [Y.L.S] ++ Y.X) := rfl
  rw [e1, e2]
  simp only [List.count_append]
  omega
 refine ⟨⟨{ prog := st.prog
            mblk := ?_
            dense := ⟨dl, ?_, ?_⟩
            sparse := ⟨sp, b1, b2, fun i e hi => by simp at hi⟩
            pcs := ⟨List.nodup_nil, fun e he => by cases he⟩
            thr := fun pc t ht => by cases ht
            pthr := st.pthr
            prow := st.prow
            pcap := st.pcap
            hthr := fun T hT => by cases hT
            cap := st.cap
            clen := st.clen
            flag := st.flag
            apart := nodup_of_count hap hsub
            ge := fun b hb => hge b (mem_of_count hsub b hb) }, (fun pc t ht => by cases ht), ?_, (fun t ht => by cases ht), hap, hge⟩, h.cap, ⟨⟨_, d1, ?_, ?_⟩, sq, s1, s2⟩, hB, h.below⟩
 ·have e : (((Y.swap.at pb q.length m.isSome).cb Y.L.MC).mCells ([] : List CE).length pool.length) = (((Y.at pb 0 m.isSome).cb Y.L.MC).mCells q.length pool.length) := by
   show ((((Y.L.ml.set (Y.L.qo + 1) _).set 7 _).set (Y.ro + 1) _).set 6 _) = ((((Y.L.ml.set (Y.ro + 1) _).set 7 _).set (Y.L.qo + 1) _).set 6 _)
   rw [List.set_comm (i := Y.L.qo + 1) (j := 7) _ _ (by omega), List.set_comm (i := Y.L.qo + 1) (j := Y.ro + 1) _ _ (by omega), List.set_comm (i := 7) (j := Y.ro + 1) _ _ (by omega)]
   rfl
  have this : Blk w Y.L.M (((Y.at pb 0 m.isSome).cb Y.L.MC).mCells q.length pool.length) Y.L.tM := st.mblk
  rw [← e] at this
  exact this
 ·exact a1
 ·show 0 * 2 + dl.length = Y.L.nq * 2
  omega
 ·intro pc t ht
  obtain ⟨r1, r2, r3⟩ := st.thr pc t ht
  exact ⟨r1, r2 (h.st.noMC pc t ht), r3⟩
 ·rw [List.length_append, dCells_length]; exact d2
 ·intro i e hi
  exact dense_at q rest i e hi

theorem StepMem.flag (h : StepMem Y mcap m n pool rem pb len q PB w) (f : Int) : StepMem (Y.fl f) mcap m n pool rem pb len q PB (w.setCell ⟨Y.L.F, 0, none⟩ (.int .u64 f)) := by
 have st := h.st.st
 have hF : Y.L.F ∈ (Y.at pb len m.isSome).tot n pool rem [] ([Y.Dr, Y.Sr] ++ Y.X) := by simp [AL.tot, SL.at, AL.pl, AL.mlo]
 have hFg := h.st.ge _ hF
 have x := Chg.set w Y.L.F 0 (.int .u64 f)
 have hN : ∀ b, b ∈ [Y.L.F] → Y.L.N ≤ b := by intro b hb; simp at hb; rw [hb]; exact hFg.1
 have e0 : (Y.at pb len m.isSome).tot n pool rem [] ([Y.Dr, Y.Sr] ++ Y.X) = [Y.L.F] ++ [] ++ [] ++ [] ++ [] ++ [] ++ [] ∨ True := .inr trivial
 have hcnt : ∀ b, List.count b ((Y.at pb len m.isSome).tot n pool rem [] ([Y.Dr, Y.Sr] ++ Y.X)) = List.count b ([Y.L.M] ++ [Y.L.S] ++ [Y.L.D] ++ [Y.L.MC] ++ pbBlk pb ++ aBlks n ++ pBlks pool ++ aBlks rem ++ ([Y.Dr] ++ [Y.Sr] ++ Y.X)) + List.count b [Y.L.F] := by
  intro b
  have e2 : (Y.at pb len m.isSome).tot n pool rem [] ([Y.Dr, Y.Sr] ++ Y.X) = ([Y.L.M] ++ [Y.L.S] ++ [Y.L.D] ++ [Y.L.F] ++ [Y.L.MC]) ++ pbBlk pb ++ aBlks n ++ pBlks pool ++ aBlks rem ++ pBlks [] ++ ([Y.Dr] ++ [Y.Sr] ++ Y.X) := rfl
  have e3 : pBlks [] = [] := rfl
  rw [e2, e3]
  simp only [List.count_append, List.count_nil]
  omega
 have hnF : Y.L.F ∉ [Y.L.M] ++ [Y.L.S] ++ [Y.L.D] ++ [Y.L.MC] ++ pbBlk pb ++ aBlks n ++ pBlks pool ++ aBlks rem ++ ([Y.Dr] ++ [Y.Sr] ++ Y.X) := by
  intro hm
  have h1 := List.count_pos_iff.2 hm
  have h2 := (List.nodup_iff_count.1 h.st.apart) Y.L.F
  have h3 := hcnt Y.L.F
  have h4 : List.count Y.L.F [Y.L.F] = 1 := by simp
  omega
 have out : ∀ b, b ∈ [Y.L.M] ++ [Y.L.S] ++ [Y.L.D] ++ [Y.L.MC] ++ pbBlk pb ++ aBlks n ++ pBlks pool ++ aBlks rem ++ ([Y.Dr] ++ [Y.Sr] ++ Y.X) → b ∉ [Y.L.F] := by
  intro b hb hm
  simp at hm
  subst hm
  exact hnF hb
 have oM : Y.L.M ∉ [Y.L.F] := out _ (by simp)
 have oS : Y.L.S ∉ [Y.L.F] := out _ (by simp)
 have oD : Y.L.D ∉ [Y.L.F] := out _ (by simp)
 have oC : Y.L.MC ∉ [Y.L.F] := out _ (by simp)
 have oDr : Y.Dr ∉ [Y.L.F] := out _ (by simp)
 have oSr : Y.Sr ∉ [Y.L.F] := out _ (by simp)
 have oP : ∀ b, b ∈ pbBlk pb → b ∉ [Y.L.F] := fun b hb => out b (by simp only [List.mem_append]; simp [hb])
 have oA : ∀ b, b ∈ aBlks n → b ∉ [Y.L.F] := fun b hb => out b (by simp only [List.mem_append]; simp [hb])
 have oPl : ∀ b, b ∈ pBlks pool → b ∉ [Y.L.F] := fun b hb => out b (by simp only [List.mem_append]; simp [hb])
 have oR : ∀ b, b ∈ aBlks rem → b ∉ [Y.L.F] := fun b hb => out b (by simp only [List.mem_append]; simp [hb])
 obtain ⟨rest, d1, d2⟩ := st.dense
 obtain ⟨sq, s1, s2, s3⟩ := st.sparse
 refine ⟨⟨{ prog := st.prog.chg x hN
            mblk := st.mblk.chg x oM
            dense := ⟨rest, d1.chg x oD, d2⟩
            sparse := ⟨sq, s1.chg x oS, s2, s3⟩
            pcs := st.pcs
            thr := ?_
            pthr := ?_
            prow := prow_chg st.prow x (fun b hb => oP _ (by have hb2 : pb = some b := hb; rw [hb2]; simp [pbBlk]))
            pcap := st.pcap
            hthr := fun T hT => by cases hT
            cap := st.cap.chg x oC
            clen := st.clen
            flag := st.flag.set 0 (.int .u64 f)
            apart := st.apart
            ge := fun b hb => ⟨(st.ge b hb).1, Nat.lt_of_lt_of_le (st.ge b hb).2 x.size⟩ }, h.st.noMC, ?_, (fun t ht => by cases ht), h.st.apart, fun b hb => ⟨(h.st.ge b hb).1, Nat.lt_of_lt_of_le (h.st.ge b hb).2 x.size⟩⟩, h.cap, ⟨(h.rows.chg x oDr oSr).d, (h.rows.chg x oDr oSr).s⟩, h.bound, h.below.trans (x.below st.prog.le hN)⟩
 ·intro pc t ht
  obtain ⟨r1, r2, r3⟩ := st.thr pc t ht
  obtain ⟨m1, m2⟩ := mem_aBlks ht
  exact ⟨r1.chg x (oA _ m1), fun hn => (r2 hn).chg x (oA _ m2), r3⟩
 ·intro i t ht
  obtain ⟨⟨v, r1⟩, l, r2, r3⟩ := st.pthr i t ht
  obtain ⟨m1, m2⟩ := mem_pBlks ht
  exact ⟨⟨v, r1.chg x (oPl _ m1)⟩, l, r2.chg x (oPl _ m2), r3⟩
 ·intro pc t ht
  obtain ⟨r1, r2, r3⟩ := h.st.rthr pc t ht
  obtain ⟨m1, m2⟩ := mem_aBlks ht
  exact ⟨r1.chg x (oR _ m1), r2.chg x (oR _ m2), r3⟩

end
end Go.Proofs.YtkbmigfkclnlaaaGreatDoor
namespace Go.Proofs.YtkbmigfkclnlaaaGreatDoor
open Go.RowKit Go.Rx

section
variable {Y : SL} {E : Env} {p k : Nat} {mcap : List Int} {q : List CE} {pool : List Th} {pb : Option (Nat × Nat)} {PB : Nat} {w : World}

theorem add_round (mo : MOk Y) (ae : AEnv (Y.L.cb Y.L.MC) E p) (hr : E.rank 1 < k) (hnp : 1 < Y.L.np) (h : StepMem Y mcap none q pool [] pb 0 [] PB w) (x : Ext (w.setCell ⟨Y.L.MC, 0, none⟩ (.int .i64 p))) :
  Calls Tryz.prog 108 #[.pointer (some ⟨Y.L.M, 0, none⟩), .pointer (some ⟨Y.L.M, Y.L.qo, none⟩), .int .u32 1, .int .i64 p, .slice (some ⟨Y.L.MC, 0, none⟩) Y.L.nc Y.L.nc, .pointer (some ⟨Y.L.F, 0, none⟩), .pointer none] x.now fun e w1 =>
   ∃ hand, e = .returned (handPtr hand) ∧ ∃ q1 pool1, StepMem Y (mcap.set 0 p) none q1 pool1 [] pb 0 [] PB w1 ∧ q1.map fg = Env.addF E p k (q.map fg) 1 (mcap.set 0 p) ∧ pool1.length ≤ pool.length := by
 have st0 : AddSt ((Y.at pb 0 false).cb Y.L.MC) mcap q pool none w := h.st.st
 have st1 := st0.setcap 0 p
 have x1 : Chg [] (w.setCell ⟨Y.L.MC, 0, none⟩ (.int .i64 p)) x.now := Chg.of_below x.below
 have st2 := st1.away x1 (fun b _ => by simp) (fun b hb => by cases hb)
 have hok := SL.aok mo.so pb 0 false Y.L.MC
 have ae2 : AEnv ((Y.at pb 0 false).cb Y.L.MC) E p := ae.other rfl rfl rfl
 refine (add_sim hok ae2 k 1 (mcap.set 0 p) q pool none x.now hr (by omega) hnp st2).mono ?_
 rintro e w1 ⟨q1, pool1, hand1, rfl, ho⟩
 have hh : hand1 = none := by rcases ho.new.2 with hh | hh <;> exact hh
 subst hh
 refine ⟨none, rfl, q1, pool1, ?_, ho.eq, ho.moved.le⟩
 obtain ⟨⟨new, hnew, hcl⟩, _⟩ := ho.new
 have cAll : Chg ([Y.L.MC] ++ [] ++ ((Y.at pb 0 false).cb Y.L.MC).blks q pool none) w w1 := ((Chg.set w Y.L.MC 0 (.int .i64 p)).trans x1).trans ho.moved.chg
 have hT0 := blks_tot (L := Y.at pb 0 false) h.st.noMC pool
 have noMC1 : ∀ pc t, (pc, some t) ∈ q1 → t.1.2 ≠ Y.L.MC := by
  intro pc t ht e
  rw [hnew] at ht
  rcases List.mem_append.1 ht with ht | ht
  ·exact h.st.noMC pc t ht e
  ·have := (hcl _ ht t rfl e).1
   cases this
 have hT1 := blks_tot (L := Y.at pb 0 false) noMC1 pool1
 have hsz : w.heap.size ≤ x.now.heap.size := Nat.le_trans (Chg.set w Y.L.MC 0 (.int .i64 p)).size x1.size
 -- the blocks of the other queue are met by none
 have hX : ∀ b, b ∈ [Y.Dr, Y.Sr] ++ Y.X → b ∉ ((Y.at pb 0 false).cb Y.L.MC).blks q pool none := by
  intro b hb hm
  have h1 := h.st.sep hb
  refine h1 ?_
  have hm2 : b ∈ [(Y.at pb 0 false).M, (Y.at pb 0 false).S, (Y.at pb 0 false).D, (Y.at pb 0 false).F, (Y.at pb 0 false).MC] ++ pbBlk (Y.at pb 0 false).pb ++ aBlks q ++ pBlks pool := by rw [← hT0]; exact hm
  simp only [List.mem_append] at hm2 ⊢
  exact .inl (.inl hm2)
 have hX1 : ∀ b, b ∈ [Y.Dr, Y.Sr] ++ Y.X → b ∉ ((Y.at pb 0 false).cb Y.L.MC).blks q1 pool1 none := by
  intro b hb hm
  rcases ho.moved.blk b hm with hm | hm
  ·exact hX b hb hm
  ·have := (h.st.ge b (by rw [AL.tot]; exact List.mem_append_right _ hb)).2
   omega
 have eT : (Y.at pb 0 (none : Option (List Int)).isSome).tot q1 pool1 [] [] ([Y.Dr, Y.Sr] ++ Y.X) = ((Y.at pb 0 false).cb Y.L.MC).blks q1 pool1 none ++ ([Y.Dr, Y.Sr] ++ Y.X) := by
  have e3 : aBlks [] = [] := rfl
  have e4 : pBlks [] = [] := rfl
  have e5 : ((Y.at pb 0 false).cb Y.L.MC).blks q1 pool1 none = [Y.L.M, Y.L.S, Y.L.D, Y.L.F, Y.L.MC] ++ pbBlk pb ++ aBlks q1 ++ pBlks pool1 := hT1
  rw [AL.tot, e3, e4, e5, List.append_nil, List.append_nil]
  rfl
 have hXn : ([Y.Dr, Y.Sr] ++ Y.X).Nodup := by
  have := h.st.apart
  rw [AL.tot, List.nodup_append] at this
  exact this.2.1
 have hMCm : Y.L.MC ∈ ((Y.at pb 0 false).cb Y.L.MC).blks q pool none := AL.mem_blks.2 (.inr (.inr (.inr (.inr (.inl rfl)))))
 have hch : ∀ b, b ∈ [Y.L.MC] ++ [] ++ ((Y.at pb 0 false).cb Y.L.MC).blks q pool none → b ∈ ((Y.at pb 0 false).cb Y.L.MC).blks q pool none := by
  intro b hb
  simp only [List.append_nil, List.mem_append, List.mem_singleton] at hb
  rcases hb with hb | hb
  ·rw [hb]; exact hMCm
  ·exact hb
 have hN : ∀ b, b ∈ [Y.L.MC] ++ [] ++ ((Y.at pb 0 false).cb Y.L.MC).blks q pool none → Y.L.N ≤ b := fun b hb => (st0.ge b (hch b hb)).1
 refine ⟨⟨ho.st, noMC1, (fun pc t ht => by cases ht), (fun t ht => by cases ht), ?_, ?_⟩, (fun c hc => by cases hc), h.rows.chg cAll (fun hm => hX _ (by simp) (hch _ hm)) (fun hm => hX _ (by simp) (hch _ hm)), ?_, h.below.trans (cAll.below st0.prog.le hN)⟩
 ·rw [eT, List.nodup_append]
  exact ⟨ho.st.apart, hXn, fun a ha b hb e => hX1 b hb (e ▸ ha)⟩
 ·intro b hb
  rw [eT] at hb
  rcases List.mem_append.1 hb with hb | hb
  ·exact ho.st.ge b hb
  ·have := h.st.ge b (by rw [AL.tot]; exact List.mem_append_right _ hb)
   exact ⟨this.1, Nat.lt_of_lt_of_le this.2 cAll.size⟩
 ·have h1 := h.bound
  have h2 := ho.moved.le
  simp at h1 ⊢
  omega

end
end Go.Proofs.YtkbmigfkclnlaaaGreatDoor
