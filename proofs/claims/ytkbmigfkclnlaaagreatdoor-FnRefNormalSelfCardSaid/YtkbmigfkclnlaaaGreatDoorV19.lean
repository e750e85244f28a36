/-
FnRefNormalSelf: the regular expressions, the digest and the reference, part 19 of 26.
-/
import Derived.Test.YtkbmigfkclnlaaaGreatDoorV18
import Derived.Test.YtkbmigfkclnlaaaGreatDoorV17
import Derived.Test.YtkbmigfkclnlaaaGreatDoorV15
import Derived.Test.YtkbmigfkclnlaaaGreatDoorV16
import Derived.Test.YtkbmigfkclnlaaaGreatDoorProg
import Derived.Test.YtkbmigfkclnlaaaGreatDoorV02
import Derived.IntWalk
import Derived.Outline
import Derived.OwnWalk
import Derived.BigQuiet
import Derived.WalkSpells
import Derived.Laws.IdiomStrings
set_option linter.all false
namespace Go.Proofs.YtkbmigfkclnlaaaGreatDoor
open Go.RowKit Go.Rx

theorem run_info_z : (Tryz.prog.info? 132).map (fun i => (i.zero, i.size, i.bytes)) = some (some (.agg #[.int .i64 0, .int .u8 0, .int .i64 0, .int .i64 0, .int .i64 0, .int .i64 0, .slice none 0 0, .slice none 0 0, .int .i64 0]), 9, 104) := by kernel_rfl

def strOf : Option (Nat × Operand) → ByteArray
 | some (_, .const (.string s)) => s
 | _ => ByteArray.empty

theorem runVals_flat (l : List (Run × Sl)) : (l.map runVal).flatMap (fun v => v.cells.toList) = runsCells l := by
 rw [List.flatMap_map]
 rfl
theorem runVals_size (l : List (Run × Sl)) : ∀ v, v ∈ l.map runVal → v.cells.size = 9 := by
 intro v hv
 obtain ⟨x, _, rfl⟩ := List.mem_map.1 hv
 rfl

noncomputable def refText : ByteArray := match (opN refRest 123).op with | .build _ p => strOf p.toList.head? | _ => ByteArray.empty
noncomputable def refRun (K : List (Nat × Value)) (v : Value) (w : World) := runK Tryz.prog Tryz.f48.ntmps ((lastOps refRest).toList.drop 120) ((158, v) :: K) w
noncomputable def refW (v : Value) (w : World) : World := ((w.alloc (.cells (progCells v 8).toArray 82)).alloc (.cells #[.string ByteArray.empty, .string ByteArray.empty, .string ByteArray.empty, .string ByteArray.empty] 9)).alloc (.cells (reCells refText w.heap.size (w.alloc (.cells (progCells v 8).toArray 82)).heap.size 3 724 1 8).toArray 136)
theorem ref_run (K : List (Nat × Value)) (a : Option Addr) (i j : Nat) (w : World) : refRun K (.slice a i j) w = some (knOf2 (refRun K (.slice a i j) w), refW (.slice a i j) w) := by kernel_rfl
theorem ref_ret (K : List (Nat × Value)) (a : Option Addr) (i j : Nat) (w : World) : look (knOf2 (refRun K (.slice a i j) w)) 0 = .pointer (some ⟨((w.alloc (.cells (progCells (.slice a i j) 8).toArray 82)).alloc (.cells #[.string ByteArray.empty, .string ByteArray.empty, .string ByteArray.empty, .string ByteArray.empty] 9)).heap.size, 0, none⟩) := by kernel_rfl
theorem ref_enter (K : List (Nat × Value)) (v : Value) (w : World) : (execOp (evalK ((157, v) :: K)) (opN refRest 119)).run Tryz.prog w = .ok (.enter 72 #[v]) w := by kernel_rfl
theorem ref_ix : ixOk refTab refIx refRuns = true := by decide +kernel
theorem ref_rok : refRuns.all runOkB = true := by decide +kernel
theorem ref_lens : refRuns.length = refIx.length ∧ refRuns.length = 80 := by decide +kernel
theorem ref_exp : (expand refRuns).length = 362 := by decide +kernel

theorem ref_prog (w : World) : Calls Tryz.prog 48 #[] w fun e w' => ∃ R PR I, e = .returned (.pointer (some ⟨R, 0, none⟩)) ∧ ReAt w' R PR I refList 724 1 8 3 ∧ ∃ x : Ext w, w' = x.now := by
 obtain ⟨H, hH⟩ : ∃ H, H = w.heap.size := ⟨_, rfl⟩
 have ha := agree_start Tryz.f48.ntmps
 obtain ⟨l, hl⟩ : ∃ l, l = runsOf w refTab refIx refRuns := ⟨_, rfl⟩
 have hfst : l.map (·.1) = refRuns := by rw [hl]; exact runsOf_fst w _ _ _ ref_lens.1
 have hll : l.length = 80 := by rw [← List.length_map (f := (·.1)), hfst]; exact ref_lens.2
 have hok : ∀ x, x ∈ l → RunOk x.1 := fun x hx => runOk_of ((List.all_eq_true.1 ref_rok) x.1 (by rw [← hfst]; exact List.mem_map.2 ⟨x, hx, rfl⟩))
 have h1 := ref_to w
 rw [ref_rest] at h1
 refine calls_of_wp Tryz.func48 (c := refBody) (by kernel_rfl) ?_
 refine wp_part (k := 20) (m := 118) h1 (ref_part w) ?_ ha
 intro F hF a2 ha2
 rw [ref_drop]
 obtain ⟨b1, b2, b3⟩ := ref_bs
 obtain ⟨ie, hi, hz0, hz1, hz2⟩ := info_parts run_info_z
 have hvals := ref_vals w
 rw [← hl] at hvals
 refine wpList_buildSlice b2 133 132 80 _ b1 (runsCells l).toArray ie _ (by kernel_rfl) hi hz0 (by rw [hz1]; omega) (by rw [hz1]; omega) ?_ ?_
 ·rw [Array.toList_map]
  have e : (fun x : Nat × Operand => (x.1, a2.eval x.2)) = fun x => (x.1, evalK (knOf2 (refPart w)) x.2) := by rw [ha2.eval]
  show Instr.fill _ _ ((partsOf (opN refRest 118)).toList.map fun x => (x.1, a2.eval x.2)) = _
  rw [e, hvals, hz1, ← runVals_flat]
  refine Great.fill_whole (by omega) (l.map runVal) _ (runVals_size l) ?_
  rw [List.length_map, hll]
  simp
 ·rw [b3]
  obtain ⟨w2, hw2⟩ : ∃ w2, w2 = allocs w (refTab.map runeObj) := ⟨_, rfl⟩
  rw [← hw2]
  have hch := allocs_chg (refTab.map runeObj) w
  have hbl : ∀ j ln, refTab[j]? = some ln → Blk w2 (w.heap.size + j) (ln.map (Value.int .i32)) 21 := fun j ln h => by
   rw [hw2]
   exact allocs_blk _ w j _ 21 (by rw [List.getElem?_map, h]; rfl)
  rw [← hw2] at hch
  have ha3 := ha2.put 157 (of_decide_eq_true (by kernel_rfl)) (.slice (some ⟨w2.heap.size, 0, none⟩) 80 80)
  obtain ⟨c1, c2⟩ := ref_call
  obtain ⟨w3, hw3⟩ : ∃ w3, w3 = w2.alloc (.cells (runsCells l).toArray 132) := ⟨_, rfl⟩
  have b3 : Blk w3 w2.heap.size (runsCells l) 132 := by rw [hw3]; exact Blk.new _ _ _
  have hch3 : Chg [] w w3 := by rw [hw3]; exact (hch.trans (Chg.alloc w2 _)).mono (fun _ h _ => by cases h)
  have hbl3 : ∀ j ln, refTab[j]? = some ln → Blk w3 (w.heap.size + j) (ln.map (Value.int .i32)) 21 := fun j ln h => by rw [hw3]; exact (hbl j ln h).alloc _
  rw [← hw3]
  have hz := zz_insts w3 w2.heap.size l 80 (runsAt_blk b3) b3.lt hok (by omega)
  rw [hll] at hz
  refine wpList_enter c1 ha3 (ref_enter _ _ _) hz ?_
  rintro v w4 ⟨hwo, y, rfl⟩
  rw [List.take_of_length_le (by omega)] at hwo
  have hpos : 0 < total l := by rw [total_pairs, hfst, ref_exp]; omega
  obtain ⟨g, cap, rfl, hg, hgl, _⟩ := ownsRow_cell hwo hpos
  rw [c2]
  have ha4 := ha3.put 158 (of_decide_eq_true (by kernel_rfl)) (.slice (some ⟨g, 0, none⟩) (total l) cap)
  have hrun := ref_run ((157, .slice (some ⟨w2.heap.size, 0, none⟩) 80 80) :: knOf2 (refPart w)) (some ⟨g, 0, none⟩) (total l) cap y.now
  rw [← List.append_nil ((lastOps refRest).toList.drop 120)]
  refine wpList_run _ _ _ _ _ hrun ?_ _ ha4
  intro a5 ha5
  show F a5 _
  refine hF a5 _ ?_
  refine wp_ret ?_
  have hret := ha5.at_ 0
  rw [ref_ret] at hret
  have e1 : (y.now.alloc (.cells (progCells (.slice (some ⟨g, 0, none⟩) (total l) cap) 8).toArray 82)).heap.size = y.now.heap.size + 1 := by simp
  have e2 : ((y.now.alloc (.cells (progCells (.slice (some ⟨g, 0, none⟩) (total l) cap) 8).toArray 82)).alloc (.cells #[.string ByteArray.empty, .string ByteArray.empty, .string ByteArray.empty, .string ByteArray.empty] 9)).heap.size = y.now.heap.size + 2 := by simp
  rw [e2] at hret
  have hc5 : Chg [] y.now (refW (.slice (some ⟨g, 0, none⟩) (total l) cap) y.now) := by
   unfold refW
   exact (((Chg.alloc _ _).trans (Chg.alloc _ _)).trans (Chg.alloc _ _)).mono (fun _ h _ => by simp at h)
  have hP : Blk (refW (.slice (some ⟨g, 0, none⟩) (total l) cap) y.now) y.now.heap.size (progCells (.slice (some ⟨g, 0, none⟩) (total l) cap) 8) 82 := by
   unfold refW
   exact ((Blk.new _ _ _).alloc _).alloc _
  have hR : Blk (refW (.slice (some ⟨g, 0, none⟩) (total l) cap) y.now) (y.now.heap.size + 2) (reCells refText y.now.heap.size (y.now.heap.size + 1) 3 724 1 8) 136 := by
   unfold refW
   have := Blk.new ((y.now.alloc (.cells (progCells (.slice (some ⟨g, 0, none⟩) (total l) cap) 8).toArray 82)).alloc (.cells #[.string ByteArray.empty, .string ByteArray.empty, .string ByteArray.empty, .string ByteArray.empty] 9)) (reCells refText y.now.heap.size (y.now.alloc (.cells (progCells (.slice (some ⟨g, 0, none⟩) (total l) cap) 8).toArray 82)).heap.size 3 724 1 8) 136
   rw [e2, e1] at this
   rw [e1]
   exact this
  have hwo' : y.now.ownsRow w3.heap.size 122 4 (.slice (some ⟨g, 0, none⟩) (total l) cap) (total (runsOf w refTab refIx refRuns)) (allCells (runsOf w refTab refIx refRuns)) := by rw [← hl]; exact hwo
  have hce : Chg [] w3 (refW (.slice (some ⟨g, 0, none⟩) (total l) cap) y.now) := ((Chg.of_below y.below).trans hc5).mono (fun _ h _ => by simp at h)
  have hbl5 : ∀ j ln, refTab[j]? = some ln → Blk (refW (.slice (some ⟨g, 0, none⟩) (total l) cap) y.now) (w.heap.size + j) (ln.map (Value.int .i32)) 21 := fun j ln h => (hbl3 j ln h).chg hce (fun hm => by cases hm)
  have hpe : 0 < (expand refRuns).length := by rw [ref_exp]; omega
  obtain ⟨I, hre⟩ := re_at (tab := refTab) (ix := refIx) (rs := refRuns) (ex := refText) (w := w) (w3 := y.now) (w4 := refW (.slice (some ⟨g, 0, none⟩) (total l) cap) y.now) ref_lens.1 ref_ix hpe hbl5 hwo' hc5 hP hR
  have hs := ha5.size
  have hd := ha5.defers
  obtain ⟨tm, df⟩ := a5
  dsimp only at hd
  subst hd
  refine bodyPost_ret (v := .pointer (some ⟨y.now.heap.size + 2, 0, none⟩)) ?_ rfl ⟨_, _, I, rfl, hre, ?_⟩
  ·have d3' : tm[0]?.getD undef = .pointer (some ⟨y.now.heap.size + 2, 0, none⟩) := by rw [← Array.getD_eq_getD_getElem?]; exact hret
   simp [results, Tryz.results48, go_sem, d3']
  ·exact Ext.of ((hch3.trans hce).below (Nat.le_refl _) (by simp))

noncomputable def nameText : ByteArray := match (opN nameRest 90).op with | .build _ p => strOf p.toList.head? | _ => ByteArray.empty
noncomputable def nameRun (K : List (Nat × Value)) (v : Value) (w : World) := runK Tryz.prog Tryz.f50.ntmps ((lastOps nameRest).toList.drop 87) ((113, v) :: K) w
noncomputable def nameW (v : Value) (w : World) : World := ((w.alloc (.cells (progCells v 6).toArray 82)).alloc (.cells #[.string ByteArray.empty, .string ByteArray.empty, .string ByteArray.empty] 9)).alloc (.cells (reCells nameText w.heap.size (w.alloc (.cells (progCells v 6).toArray 82)).heap.size 2 4443 0 6).toArray 136)
theorem name_run (K : List (Nat × Value)) (a : Option Addr) (i j : Nat) (w : World) : nameRun K (.slice a i j) w = some (knOf2 (nameRun K (.slice a i j) w), nameW (.slice a i j) w) := by kernel_rfl
theorem name_ret (K : List (Nat × Value)) (a : Option Addr) (i j : Nat) (w : World) : look (knOf2 (nameRun K (.slice a i j) w)) 0 = .pointer (some ⟨((w.alloc (.cells (progCells (.slice a i j) 6).toArray 82)).alloc (.cells #[.string ByteArray.empty, .string ByteArray.empty, .string ByteArray.empty] 9)).heap.size, 0, none⟩) := by kernel_rfl
theorem name_enter (K : List (Nat × Value)) (v : Value) (w : World) : (execOp (evalK ((112, v) :: K)) (opN nameRest 86)).run Tryz.prog w = .ok (.enter 72 #[v]) w := by kernel_rfl
theorem name_ix : ixOk nameTab nameIx nameRuns = true := by decide +kernel
theorem name_rok : nameRuns.all runOkB = true := by decide +kernel
theorem name_lens : nameRuns.length = nameIx.length ∧ nameRuns.length = 59 := by decide +kernel
theorem name_exp : (expand nameRuns).length = 59 := by decide +kernel

theorem name_prog (w : World) : Calls Tryz.prog 50 #[] w fun e w' => ∃ R PR I, e = .returned (.pointer (some ⟨R, 0, none⟩)) ∧ ReAt w' R PR I nameList 4443 0 6 2 ∧ ∃ x : Ext w, w' = x.now := by
 obtain ⟨H, hH⟩ : ∃ H, H = w.heap.size := ⟨_, rfl⟩
 have ha := agree_start Tryz.f50.ntmps
 obtain ⟨l, hl⟩ : ∃ l, l = runsOf w nameTab nameIx nameRuns := ⟨_, rfl⟩
 have hfst : l.map (·.1) = nameRuns := by rw [hl]; exact runsOf_fst w _ _ _ name_lens.1
 have hll : l.length = 59 := by rw [← List.length_map (f := (·.1)), hfst]; exact name_lens.2
 have hok : ∀ x, x ∈ l → RunOk x.1 := fun x hx => runOk_of ((List.all_eq_true.1 name_rok) x.1 (by rw [← hfst]; exact List.mem_map.2 ⟨x, hx, rfl⟩))
 have h1 := name_to w
 rw [name_rest] at h1
 refine calls_of_wp Tryz.func50 (c := nameBody) (by kernel_rfl) ?_
 refine wp_part (k := 14) (m := 85) h1 (name_part w) ?_ ha
 intro F hF a2 ha2
 rw [name_drop]
 obtain ⟨b1, b2, b3⟩ := name_bs
 obtain ⟨ie, hi, hz0, hz1, hz2⟩ := info_parts run_info_z
 have hvals := name_vals w
 rw [← hl] at hvals
 refine wpList_buildSlice b2 133 132 59 _ b1 (runsCells l).toArray ie _ (by kernel_rfl) hi hz0 (by rw [hz1]; omega) (by rw [hz1]; omega) ?_ ?_
 ·rw [Array.toList_map]
  have e : (fun x : Nat × Operand => (x.1, a2.eval x.2)) = fun x => (x.1, evalK (knOf2 (namePart w)) x.2) := by rw [ha2.eval]
  show Instr.fill _ _ ((partsOf (opN nameRest 85)).toList.map fun x => (x.1, a2.eval x.2)) = _
  rw [e, hvals, hz1, ← runVals_flat]
  refine Great.fill_whole (by omega) (l.map runVal) _ (runVals_size l) ?_
  rw [List.length_map, hll]
  simp
 ·rw [b3]
  obtain ⟨w2, hw2⟩ : ∃ w2, w2 = allocs w (nameTab.map runeObj) := ⟨_, rfl⟩
  rw [← hw2]
  have hch := allocs_chg (nameTab.map runeObj) w
  have hbl : ∀ j ln, nameTab[j]? = some ln → Blk w2 (w.heap.size + j) (ln.map (Value.int .i32)) 21 := fun j ln h => by
   rw [hw2]
   exact allocs_blk _ w j _ 21 (by rw [List.getElem?_map, h]; rfl)
  rw [← hw2] at hch
  have ha3 := ha2.put 112 (of_decide_eq_true (by kernel_rfl)) (.slice (some ⟨w2.heap.size, 0, none⟩) 59 59)
  obtain ⟨c1, c2⟩ := name_call
  obtain ⟨w3, hw3⟩ : ∃ w3, w3 = w2.alloc (.cells (runsCells l).toArray 132) := ⟨_, rfl⟩
  have b3 : Blk w3 w2.heap.size (runsCells l) 132 := by rw [hw3]; exact Blk.new _ _ _
  have hch3 : Chg [] w w3 := by rw [hw3]; exact (hch.trans (Chg.alloc w2 _)).mono (fun _ h _ => by cases h)
  have hbl3 : ∀ j ln, nameTab[j]? = some ln → Blk w3 (w.heap.size + j) (ln.map (Value.int .i32)) 21 := fun j ln h => by rw [hw3]; exact (hbl j ln h).alloc _
  rw [← hw3]
  have hz := zz_insts w3 w2.heap.size l 59 (runsAt_blk b3) b3.lt hok (by omega)
  rw [hll] at hz
  refine wpList_enter c1 ha3 (name_enter _ _ _) hz ?_
  rintro v w4 ⟨hwo, y, rfl⟩
  rw [List.take_of_length_le (by omega)] at hwo
  have hpos : 0 < total l := by rw [total_pairs, hfst, name_exp]; omega
  obtain ⟨g, cap, rfl, hg, hgl, _⟩ := ownsRow_cell hwo hpos
  rw [c2]
  have ha4 := ha3.put 113 (of_decide_eq_true (by kernel_rfl)) (.slice (some ⟨g, 0, none⟩) (total l) cap)
  have hrun := name_run ((112, .slice (some ⟨w2.heap.size, 0, none⟩) 59 59) :: knOf2 (namePart w)) (some ⟨g, 0, none⟩) (total l) cap y.now
  rw [← List.append_nil ((lastOps nameRest).toList.drop 87)]
  refine wpList_run _ _ _ _ _ hrun ?_ _ ha4
  intro a5 ha5
  show F a5 _
  refine hF a5 _ ?_
  refine wp_ret ?_
  have hret := ha5.at_ 0
  rw [name_ret] at hret
  have e1 : (y.now.alloc (.cells (progCells (.slice (some ⟨g, 0, none⟩) (total l) cap) 6).toArray 82)).heap.size = y.now.heap.size + 1 := by simp
  have e2 : ((y.now.alloc (.cells (progCells (.slice (some ⟨g, 0, none⟩) (total l) cap) 6).toArray 82)).alloc (.cells #[.string ByteArray.empty, .string ByteArray.empty, .string ByteArray.empty] 9)).heap.size = y.now.heap.size + 2 := by simp
  rw [e2] at hret
  have hc5 : Chg [] y.now (nameW (.slice (some ⟨g, 0, none⟩) (total l) cap) y.now) := by
   unfold nameW
   exact (((Chg.alloc _ _).trans (Chg.alloc _ _)).trans (Chg.alloc _ _)).mono (fun _ h _ => by simp at h)
  have hP : Blk (nameW (.slice (some ⟨g, 0, none⟩) (total l) cap) y.now) y.now.heap.size (progCells (.slice (some ⟨g, 0, none⟩) (total l) cap) 6) 82 := by
   unfold nameW
   exact ((Blk.new _ _ _).alloc _).alloc _
  have hR : Blk (nameW (.slice (some ⟨g, 0, none⟩) (total l) cap) y.now) (y.now.heap.size + 2) (reCells nameText y.now.heap.size (y.now.heap.size + 1) 2 4443 0 6) 136 := by
   unfold nameW
   have := Blk.new ((y.now.alloc (.cells (progCells (.slice (some ⟨g, 0, none⟩) (total l) cap) 6).toArray 82)).alloc (.cells #[.string ByteArray.empty, .string ByteArray.empty, .string ByteArray.empty] 9)) (reCells nameText y.now.heap.size (y.now.alloc (.cells (progCells (.slice (some ⟨g, 0, none⟩) (total l) cap) 6).toArray 82)).heap.size 2 4443 0 6) 136
   rw [e2, e1] at this
   rw [e1]
   exact this
  have hwo' : y.now.ownsRow w3.heap.size 122 4 (.slice (some ⟨g, 0, none⟩) (total l) cap) (total (runsOf w nameTab nameIx nameRuns)) (allCells (runsOf w nameTab nameIx nameRuns)) := by rw [← hl]; exact hwo
  have hce : Chg [] w3 (nameW (.slice (some ⟨g, 0, none⟩) (total l) cap) y.now) := ((Chg.of_below y.below).trans hc5).mono (fun _ h _ => by simp at h)
  have hbl5 : ∀ j ln, nameTab[j]? = some ln → Blk (nameW (.slice (some ⟨g, 0, none⟩) (total l) cap) y.now) (w.heap.size + j) (ln.map (Value.int .i32)) 21 := fun j ln h => (hbl3 j ln h).chg hce (fun hm => by cases hm)
  have hpe : 0 < (expand nameRuns).length := by rw [name_exp]; omega
  obtain ⟨I, hre⟩ := re_at (tab := nameTab) (ix := nameIx) (rs := nameRuns) (ex := nameText) (w := w) (w3 := y.now) (w4 := nameW (.slice (some ⟨g, 0, none⟩) (total l) cap) y.now) name_lens.1 name_ix hpe hbl5 hwo' hc5 hP hR
  have hs := ha5.size
  have hd := ha5.defers
  obtain ⟨tm, df⟩ := a5
  dsimp only at hd
  subst hd
  refine bodyPost_ret (v := .pointer (some ⟨y.now.heap.size + 2, 0, none⟩)) ?_ rfl ⟨_, _, I, rfl, hre, ?_⟩
  ·have d3' : tm[0]?.getD undef = .pointer (some ⟨y.now.heap.size + 2, 0, none⟩) := by rw [← Array.getD_eq_getD_getElem?]; exact hret
   simp [results, Tryz.results50, go_sem, d3']
  ·exact Ext.of ((hch3.trans hce).below (Nat.le_refl _) (by simp))

end Go.Proofs.YtkbmigfkclnlaaaGreatDoor
namespace Go.Proofs.YtkbmigfkclnlaaaGreatDoor
open Go.RowKit Go.Rx
attribute [local go_sem] Ext.cell Ext.frozen Ext.lt Ext.lt_add Ext.cell2 Ext.frozen2

theorem ints_nil (A n c : Nat) (w : World) : (binOp BinOp.eql 128 (.slice (some ⟨A, 0, none⟩) n c) (.slice none 0 0)).run Tryz.prog w = .ok (.bool false) w := by kernel_rfl
attribute [local go_sem] ints_nil

structure ReFit (l : List Inst) (nc : Nat) (rl : List Nat) (top mbs mp nq : Nat) : Prop where
 fit : tableOk l nc rl top clsOk = true
 top : ∀ pc, rankOf rl pc < top
 one : ∃ o, progOf l 1 = ⟨3, o, 4, []⟩
 len : 2 ≤ l.length ∧ l.length ≤ 500
 nc : 6 ≤ nc ∧ nc < 100
 bs : ∀ n, n < mbs → (l.length * (n + 1) + 31) / 32 ≤ 8192
 mbs : mbs ≤ 262144
 mp : mp < 5
 nq : l.length ≤ nq ∧ nq ≤ 100000

section
variable {l : List Inst} {nc : Nat} {rl : List Nat} {top mbs mp nq : Nat}

theorem mly_ok (rf : ReFit l nc rl top mbs mp nq) {N M R PR I MC S0 D0 S1 D1 F : Nat} {s : ByteArray} {w0 : World} (hs : Plain s) (hsz : s.size < 8000000000) {r : List Int} (hr : Env.res (envAt (progOf l) s (rankOf rl) top) 1 0 (cap0 nc) = some r)
  (pre : w0.cell? ⟨R, 6, none⟩ = some (.string ByteArray.empty)) (start : w0.cell? ⟨PR, 1, none⟩ = some (.int .i64 1)) :
  MEnv (mlY N M R PR I MC S0 D0 S1 D1 l.length nc nq F (progOf l) s w0) s (rankOf rl) top top (cap0 nc) r := by
 obtain ⟨o, ho⟩ := rf.one
 have h1 := rf.len
 have h2 := rf.nc
 have h3 := rf.nq
 refine { mo := ⟨⟨{ len := rfl, m1 := rfl, mq := rfl, m8 := rfl, qo := .inl rfl, np := ⟨h3.1, by show l.length ≤ 1000; omega⟩, nq := h3.2, nc := ⟨by show 2 ≤ nc; omega, h2.2⟩, ops := fun pc a b => (fit_of rf.fit a b).ops, out := fun pc a b => (fit_of rf.fit a b).out, alt := fun pc a b => (fit_of rf.fit a b).alt, cap := fun pc a b => (fit_of rf.fit a b).cap, ew := fun pc a b => (fit_of rf.fit a b).ew }, .inr rfl, (by decide : (4 : Nat) ≠ 2)⟩, rfl, rfl⟩
          hs := hs, sz := by omega, tb := table_at rf.fit, ok := table_ok rf.fit s hs rf.top, le := Nat.le_refl _, an := anch_at rf.fit hs rf.top ho, res := hr, np := by show 1 < l.length; omega, bd := ?_, m9 := rfl, pre := pre, start := start }
 show l.length * (s.size + 2) < 8900000000000
 have : l.length * (s.size + 2) ≤ 500 * 8000000002 := Nat.mul_le_mul h1.2 (by omega)
 omega

theorem ncap_len (rf : ReFit l nc rl top mbs mp nq) {s : ByteArray} (hs : Plain s) {r : List Int} (hr : Env.res (envAt (progOf l) s (rankOf rl) top) 1 0 (cap0 nc) = some r) : (intCells r).length = nc := by
 unfold intCells
 rw [List.length_map, Env.way_length (Env.res_way (table_ok rf.fit s hs rf.top) _ _ _ _ _ (Nat.le_refl _) hr)]
 simp [cap0]

set_option maxRecDepth 1000000 in
set_option maxHeartbeats 4000000 in
theorem find_any (rf : ReFit l nc rl top mbs mp nq) {nsub R PR I : Nat} (w : World) (re : ReAt w R PR I l mbs mp nc nsub) (hG : w.cell? ⟨10, mp, none⟩ = some (.int .i64 nq)) (hGl : 10 < w.heap.size)
  (s : ByteArray) (hs : Plain s) (hs1 : 1 ≤ s.size) (hsz : s.size < 8000000000) (r : List Int) (hr : Env.res (envAt (progOf l) s (rankOf rl) top) 1 0 (cap0 nc) = some r)
  (A : Nat) (hAl : A < w.heap.size) :
  Calls Tryz.prog 73 #[.pointer (some ⟨R, 0, none⟩), .nilIface, .slice none 0 0, .string s, .int .i64 0, .int .i64 nc, .slice (some ⟨A, 0, none⟩) 0 4] w fun e w' =>
   ∃ g cap, e = .returned (.slice (some ⟨g, 0, none⟩) nc cap) ∧ w'.ownsRow w.heap.size 3 1 (.slice (some ⟨g, 0, none⟩) nc cap) nc (intCells r) ∧ Chg [] w w' := by
 have m14 := re.min
 have m4 := re.mbs
 have hRl : R < w.heap.size := re.prog.lt.1
 have hn1 : ¬ (s.size : Int) < 1 := by omega
 by_cases hlt : s.size < mbs
 ·have hlt' : (s.size : Int) < (mbs : Int) := by omega
  have hb := backtrack_ok R PR I l.length (progOf l) w re.prog re.cond re.start s hs nc _ (rankOf rl) top r (table_ok rf.fit s hs rf.top) (table_nofail rf.fit s) (wf_at rf.fit ⟨by have := rf.nc; omega, rf.nc.2⟩) rf.len.2 (by have := rf.len; omega) (by have := rf.mbs; omega) (by have := rf.nc; omega) rf.nc.2 rfl (rf.bs _ hlt) hr A 4 hAl (by have := rf.nc; omega)
  have HB := Lib.hid hb
  clear hb hr
  go_enter Tryz.func73, Tryz.ntmps73
  go_wp2_with (first | (go_at_call 83; (with_reducible refine HB.out.mono ?_); rintro e w1 ⟨g, cap, rfl, h1, h2⟩))
  go_ret
  exact ⟨g, cap, rfl, h1, h2⟩
 ·have hlt' : ¬ (s.size : Int) < (mbs : Int) := by omega
  have hnc := rf.nc
  have hnq := rf.nq
  have hlen := rf.len
  have hgt := get_any w R PR nc nq mp re.prog.prog re.mpool re.mcap hRl hG hGl rf.mp (by omega) (by omega) (by omega) (by omega)
  obtain ⟨M, hM⟩ : ∃ M, w.heap.size = M := ⟨_, rfl⟩
  rw [hM] at hgt
  have HGT := Lib.hid hgt
  have HMD := Lib.hid hM
  have HRF := Lib.hid rf
  have HRE := Lib.hid re
  have HR := Lib.hid hr
  have HS := Lib.hid hs
  clear hgt hM rf re hr hG
  go_enter Tryz.func73, Tryz.ntmps73
  go_wp2_with (first | (go_at_call 84; (with_reducible refine HGT.out.mono ?_); rintro e w1 ⟨rfl, MC, S0, D0, S1, D1, nm⟩))
  have hMd := HMD.out
  have b1 := nm.m
  refine (inputs_init w1 M 9 s ByteArray.empty (by omega) ((b1.cell 9).trans rfl) (b1.free 9) b1.lt).mono ?_
  rintro e w2 ⟨rfl, hw2⟩
  dsimp only
  have b2 := b1.set 9 (.string s)
  rw [← hw2] at b2
  have c2 : Chg [M] w1 w2 := by rw [hw2]; exact Chg.set w1 M 9 _
  have hinit := init_new w2 M MC nc _ 170 b2 rfl rfl (by omega)
  have HIN := Lib.hid hinit
  have HNM := Lib.hid nm
  have HC2 := Lib.hid c2
  have HB2 := Lib.hid b2
  clear hw2 hinit nm c2 b2 b1 hMd
  go_wp2_with (first | (go_at_call 86; (with_reducible refine HIN.out.mono ?_); rintro e w3 ⟨rfl, rfl⟩))
  obtain ⟨w3, hw3⟩ : ∃ w3, w3 = w2.setCell ⟨M, 8, none⟩ (.slice (some ⟨MC, 0, none⟩) nc nc) := ⟨_, rfl⟩
  rw [← hw3]
  have nm := HNM.out
  have rf := HRF.out
  have re := HRE.out
  have hMd := HMD.out
  have b3 : Blk w3 M (newCells R PR S0 D0 S1 D1 MC nc nq s) 170 := by rw [hw3]; exact HB2.out.set 8 _
  have c13 : Chg [M] w1 w3 := by rw [hw3]; exact (HC2.out.trans (Chg.set w2 M 8 _)).mono (fun b h _ => by simpa using h)
  have c03 : Chg [M] w w3 := (nm.chg.trans c13).mono (fun b h _ => by simpa using h)
  obtain ⟨p1, p2, p3, p4, p5⟩ := nm.new
  obtain ⟨y1, y2, y3, y4, y5, y6, y7, y8, y9, y10, y11⟩ := nm.apart
  rw [hMd] at p1 p2 p3 p4 p5 y1
  have hty : ∀ {b : Nat} {l1 l2 : List Value} {t1 t2 : TypeId}, Blk w1 b l1 t1 → Blk w1 b l2 t2 → t1 = t2 := by
   intro b l1 l2 t1 t2 h1 h2
   have := h1.symm.trans h2
   simp only [Option.some.injEq, Obj.cells.injEq] at this
   exact this.2.1
  have n1 : S0 ≠ M := fun e => absurd (hty nm.s0 (by rw [e]; exact nm.m)) (by decide)
  have n2 : D0 ≠ M := fun e => absurd (hty nm.d0 (by rw [e]; exact nm.m)) (by decide)
  have n3 : S1 ≠ M := fun e => absurd (hty nm.s1 (by rw [e]; exact nm.m)) (by decide)
  have n4 : D1 ≠ M := fun e => absurd (hty nm.d1 (by rw [e]; exact nm.m)) (by decide)
  have hsp : (madeCells (Value.int .u32 0).cells (nq * 1)).toList = wordCells (List.replicate nq 0) := by
   rw [Nat.mul_one]
   show (madeCells #[Value.int .u32 0] nq).toList = _
   rw [made_one]
   simp [wordCells]
  have hP3 : ProgAt w3 M R PR I l.length (progOf l) := by
   have := re.prog
   rw [hMd] at this
   exact this.chg c03 (by simp)
  have hwl3 : w1.heap.size ≤ w3.heap.size := c13.size
  have hin : MatchIn M w w3 M R PR I MC S0 D0 S1 D1 l.length nc nq (progOf l) s := by
   refine ⟨b3, nm.mc.chg c13 (by simpa using Ne.symm y1), ⟨List.replicate nq 0, ?_, by simp⟩, ⟨_, nm.d0.chg c13 (by simpa using n2), by simp [madeCells]⟩, ⟨List.replicate nq 0, ?_, by simp⟩, ⟨_, nm.d1.chg c13 (by simpa using n4), by simp [madeCells]⟩, hP3, c03.below (by omega) (by simp), ?_, ?_⟩
   ·rw [← hsp]; exact nm.s0.chg c13 (by simpa using n1)
   ·rw [← hsp]; exact nm.s1.chg c13 (by simpa using n3)
   ·simp only [List.nodup_cons, List.mem_cons, List.not_mem_nil, or_false, not_or, List.nodup_nil, not_false_eq_true, and_true]
    omega
   ·intro b hb
    have hl : M < w1.heap.size ∧ MC < w1.heap.size ∧ S0 < w1.heap.size ∧ D0 < w1.heap.size ∧ S1 < w1.heap.size ∧ D1 < w1.heap.size := ⟨nm.m.lt, nm.mc.lt, nm.s0.lt, nm.d0.lt, nm.s1.lt, nm.d1.lt⟩
    simp only [List.mem_cons, List.not_mem_nil, or_false] at hb
    omega
  have hRM : R < M := by have := re.prog.lt.1; omega
  have hcond : w3.cell? ⟨R, 13, none⟩ = some (.int .u8 4) := (World.cell?_of_block (c03.block R hRl (by simp; omega))).trans re.cond
  have hmt := match_new hin ⟨by omega, hnc.2⟩ hcond hs (by omega) (fun F => mly_ok rf hs hsz HR.out re.pre re.start)
  have HMT := Lib.hid hmt
  have HC13 := Lib.hid c13
  have HC03 := Lib.hid c03
  have HNL := Lib.hid (ncap_len rf hs HR.out)
  clear hmt hin hP3 hsp hty c13 c03 b3 nm re hw3 hcond rf
  go_wp2_with (first | (go_at_call 87; (with_reducible refine HMT.out.mono ?_); rintro e w4 ⟨rfl, hbel, hmc, ml, v0, v1, hm, i0, i1, i8, i9⟩; have d8 := (hm.cell 8).trans i8; have dM := hm.lt) | (at_builtin; refine int_grow _ rfl _ _ rfl ⟨A, 0, none⟩ 4 rfl ⟨MC, 0, none⟩ nc nc (intCells r) rfl HNL.out (by intro j u hu; have h5 := hmc.cell j; rw [hu] at h5; by_cases hj : j = 0; (subst hj; simpa [Addr.add] using h5); simpa [Addr.add, hj] using h5) (by intro u hu; obtain ⟨x, _, rfl⟩ := List.mem_map.1 hu; rfl) (by omega) (by omega) ?_))
  intro g cap w5 hown hgr
  have hm5 : Blk w5 M ml 170 := hm.chg hgr (by simp)
  have hput := put_any w5 R M ml 170 hm5 v0 v1 s i0 i1 i9
  have hgM : g ≠ M := by
   have h1 := (hown.lt g rfl).1
   have := hm.lt
   omega
  have HPU := Lib.hid hput
  have HO := Lib.hid hown
  have HGR := Lib.hid hgr
  have HBE := Lib.hid hbel
  clear hput hown hgr hm hm5 d8 hmc hbel
  go_wp2_with (first | (go_at_call 88; (with_reducible refine HPU.out.mono ?_); rintro e w6 ⟨rfl, hc6⟩))
  go_ret
  have h4 : Chg [] w w4 := Chg.of_below (by rw [HMD.out]; exact HBE.out)
  refine ⟨g, cap, rfl, ?_, ?_⟩
  ·exact own_base (own_chg_any HO.out hc6 (fun b hb => by simp [Value.ownBlock] at hb; simp; omega)) h4.size
  ·refine ((h4.trans HGR.out).trans hc6).mono (fun b hb hlt => ?_)
   simp at hb
   have := HMD.out
   omega
end

end Go.Proofs.YtkbmigfkclnlaaaGreatDoor
namespace Go.Proofs.YtkbmigfkclnlaaaGreatDoor
open Go.RowKit Go.Rx
attribute [local go_sem] Ext.cell Ext.frozen Ext.lt Ext.lt_add Ext.cell2 Ext.frozen2
attribute [local go_sem] ints_nil

def subOf (s : ByteArray) (r : List Int) (i : Nat) : ByteArray := if 0 ≤ r.getD (2 * i) (-1) then s.extract (r.getD (2 * i) 0).toNat (r.getD (2 * i + 1) 0).toNat else ByteArray.empty

theorem ProgAt.up {w : World} {N N' R PR I np : Nat} {pg : Nat → Inst} (h : ProgAt w N R PR I np pg) (h1 : N ≤ N') (h2 : N' ≤ w.heap.size) : ProgAt w N' R PR I np pg := by
 obtain ⟨l1, l2, l3⟩ := h.lt
 refine ⟨h2, ⟨by omega, by omega, by omega⟩, h.prog, h.longest, h.insts, h.op, h.out, h.arg, fun pc a b => ?_⟩
 obtain ⟨v, hv, hr⟩ := h.rune pc a b
 refine ⟨v, hv, ?_⟩
 rcases hr with hr | ⟨rb, cr, e, hlt, hc⟩
 ·exact .inl hr
 ·exact .inr ⟨rb, cr, e, by omega, hc⟩

theorem ReAt.chg {w w' : World} {R PR I : Nat} {l : List Inst} {mbs mp nc nsub : Nat} (h : ReAt w R PR I l mbs mp nc nsub) (c : Chg [] w w') : ReAt w' R PR I l mbs mp nc nsub := by
 have cell : ∀ b o, b < w.heap.size → w'.cell? ⟨b, o, none⟩ = w.cell? ⟨b, o, none⟩ := fun b o hb => World.cell?_of_block (c.block b hb (by simp))
 obtain ⟨l1, l2, l3⟩ := h.prog.lt
 exact ⟨(h.prog.chg c (fun b hb => by cases hb)).up c.size (Nat.le_refl _), (cell _ _ l1).trans h.sub, (cell _ _ l1).trans h.mbs, (cell _ _ l1).trans h.pre, (cell _ _ l1).trans h.mpool, (cell _ _ l1).trans h.mcap, (cell _ _ l1).trans h.cond, (cell _ _ l1).trans h.min, (cell _ _ l2).trans h.start, (cell _ _ l2).trans h.ncap⟩

theorem str_info : (Tryz.prog.info? 9).map (fun i => (i.zero, i.size, i.bytes)) = some (some (.string ByteArray.empty), 1, 16) := by kernel_rfl

def subCells (s : ByteArray) (r : List Int) (n k : Nat) : List Value := (List.range n).map fun i => .string (if i < k then subOf s r i else ByteArray.empty)

theorem subCells_zero (s : ByteArray) (r : List Int) (n : Nat) : subCells s r n 0 = List.replicate n (.string ByteArray.empty) := by
 unfold subCells
 simp only [Nat.not_lt_zero, if_false]
 rw [List.map_const', List.length_range]
theorem subCells_all (s : ByteArray) (r : List Int) (n : Nat) : subCells s r n n = (List.range n).map fun i => .string (subOf s r i) := by
 unfold subCells
 refine List.map_congr_left fun i hi => ?_
 rw [if_pos (List.mem_range.1 hi)]
theorem subCells_set (s : ByteArray) (r : List Int) (n k : Nat) : (subCells s r n k).set k (.string (subOf s r k)) = subCells s r n (k + 1) := by
 apply List.ext_getElem?
 intro i
 unfold subCells
 by_cases hi : i < n
 ·by_cases e : k = i
  ·subst e
   rw [List.getElem?_set_self (by simpa using hi)]
   simp [hi]
  ·rw [List.getElem?_set_ne e]
   simp only [List.getElem?_map, List.getElem?_range hi, Option.map_some]
   congr 2
   by_cases h1 : i < k
   ·rw [if_pos h1, if_pos (by omega)]
   ·rw [if_neg h1, if_neg (by omega)]
 ·rw [List.getElem?_eq_none (by simp; omega), List.getElem?_eq_none (by simp; omega)]
theorem subCells_same (s : ByteArray) (r : List Int) (n k : Nat) (h : subOf s r k = ByteArray.empty) : subCells s r n (k + 1) = subCells s r n k := by
 unfold subCells
 refine List.map_congr_left fun i hi => ?_
 by_cases h1 : i < k
 ·rw [if_pos h1, if_pos (by omega)]
 ·by_cases h2 : i = k
  ·subst h2
   rw [if_pos (by omega), if_neg h1, h]
  ·rw [if_neg h1, if_neg (by omega)]

section
variable {l : List Inst} {nc : Nat} {rl : List Nat} {top mbs mp nq : Nat}

set_option maxRecDepth 1000000 in
set_option maxHeartbeats 4000000 in
theorem submatch_any (rf : ReFit l nc rl top mbs mp nq) {nsub R PR I : Nat} (w : World) (re : ReAt w R PR I l mbs mp nc nsub) (hG : w.cell? ⟨10, mp, none⟩ = some (.int .i64 nq)) (hGl : 10 < w.heap.size)
  (s : ByteArray) (hs : Plain s) (hs1 : 1 ≤ s.size) (hsz : s.size < 8000000000) (r : List Int) (hr : Env.res (envAt (progOf l) s (rankOf rl) top) 1 0 (cap0 nc) = some r) (hns : nc = 2 * (nsub + 1))
  (hb : ∀ i, i ≤ nsub → r.getD (2 * i) (-1) = -1 ∨ (0 ≤ r.getD (2 * i) (-1) ∧ r.getD (2 * i) (-1) ≤ r.getD (2 * i + 1) 0 ∧ r.getD (2 * i + 1) 0 ≤ s.size)) :
  Calls Tryz.prog 49 #[.pointer (some ⟨R, 0, none⟩), .string s] w fun e w' =>
   ∃ g, e = .returned (.slice (some ⟨g, 0, none⟩) (nsub + 1) (nsub + 1)) ∧ Blk w' g ((List.range (nsub + 1)).map fun i => .string (subOf s r i)) 9 ∧ ∃ x : Ext w, w' = x.now := by
 have hnc := rf.nc
 have hcond1 : w.cell? ⟨R, 1, none⟩ = some (.pointer (some ⟨PR, 0, none⟩)) := re.prog.prog
 have hcap := re.ncap
 have hsub := re.sub
 have hRl : R < w.heap.size := re.prog.lt.1
 have hPl : PR < w.heap.size := re.prog.lt.2.1
 have HRF := Lib.hid rf
 have HRE := Lib.hid re
 have HR := Lib.hid hr
 have HG := Lib.hid hG
 have HB := Lib.hid hb
 have HNL := Lib.hid (ncap_len rf hs hr)
 have hnsb : nsub < 49 := by have := rf.nc; omega
 have HNS := Lib.hid hns
 clear rf re hr hG hb hns
 go_enter Tryz.func49, Tryz.ntmps49
 go_wp2_with fail
 obtain ⟨A, hA⟩ : ∃ A, w.heap.size = A := ⟨_, rfl⟩
 rw [hA]
 obtain ⟨w1, hw1⟩ : ∃ w1, w1 = w.alloc (Obj.cells #[Value.int .i64 0, .int .i64 0, .int .i64 0, .int .i64 0] 137) := ⟨_, rfl⟩
 rw [← hw1]
 have c01 : Chg [] w w1 := by rw [hw1]; exact Chg.alloc _ _
 have hAl : A < w1.heap.size := by rw [hw1]; simp; omega
 have d1 : w1.cell? ⟨R, 1, none⟩ = some (.pointer (some ⟨PR, 0, none⟩)) := (World.cell?_of_block (c01.block R hRl (by simp))).trans hcond1
 have d2 : w1.cell? ⟨PR, 2, none⟩ = some (.int .i64 nc) := (World.cell?_of_block (c01.block PR hPl (by simp))).trans hcap
 have hRl1 : R < w1.heap.size := Nat.lt_of_lt_of_le hRl c01.size
 have hPl1 : PR < w1.heap.size := Nat.lt_of_lt_of_le hPl c01.size
 have HC01 := Lib.hid c01
 clear hw1 c01 hcond1 hcap
 refine wp_region_ext_tail 10 rfl (by kernel_rfl) ?_
 simp only [List.take_succ_cons, List.take_zero, List.drop_succ_cons, List.drop_zero]
 repeat (quiet_step (fail))
 refine wpQuiet_nil ?_
 rintro w' ⟨z, rfl⟩
 have cz : Chg [] w z.now := (HC01.out.trans (Chg.of_below z.below)).mono (fun _ h _ => by cases h)
 have hG2 : z.now.cell? ⟨10, mp, none⟩ = some (.int .i64 nq) := (World.cell?_of_block (cz.block 10 hGl (by simp))).trans HG.out
 have hf := find_any HRF.out z.now (HRE.out.chg cz) hG2 (Nat.lt_of_lt_of_le hGl cz.size) s hs hs1 hsz r HR.out A (z.lt A hAl)
 have HF := Lib.hid hf
 have HCZ := Lib.hid cz
 clear hf cz hG2
 have e1 : (1 : Int) + (nsub : Int) = ((nsub + 1 : Nat) : Int) := by omega
 go_wp2_with (first | (go_at_call 73; (with_reducible refine HF.out.mono ?_); rintro e w2 ⟨g, cap, rfl, hown, hc2⟩; have d3 : w2.cell? ⟨R, 3, none⟩ = some (.int .i64 nsub) := (World.cell?_of_block ((HCZ.out.trans hc2).block R hRl (by simp))).trans hsub; have hR2 : R < w2.heap.size := Nat.lt_of_lt_of_le hRl (HCZ.out.trans hc2).size) | (at_make; refine make_blk _ rfl (.tmp 26) (.tmp 26) 89 9 rfl _ 1 16 (by kernel_rfl) str_info .i64 .i64 (nsub + 1) (nsub + 1) rfl rfl (Nat.le_refl _) (by omega) (by omega) _ rfl ?_))
 intro w3 b3 c3 z3
 obtain ⟨G, hGd⟩ : ∃ G, w2.heap.size = G := ⟨_, rfl⟩
 rw [hGd] at b3 z3 ⊢
 obtain ⟨g', cap', hgc, _, hgl, hcell⟩ := ownsRow_cell hown (by omega)
 have hgg : g' = g := by simp at hgc; exact hgc.1.symm
 subst hgg
 have hgG : g' ≠ G := by omega
 have b3' : Blk w3 G (subCells s r (nsub + 1) 0) 9 := by
  rw [subCells_zero, ← made_one]
  exact b3
 have cellg : ∀ wr, Chg [G] w3 wr → ∀ i, i < nc → wr.cell? ⟨g', i, none⟩ = (intCells r)[i]? := fun wr hc i hi => by
  rw [← hcell i (by omega)]
  exact World.cell?_of_block ((c3.trans hc).block g' hgl (by simpa using hgG))
 have hg3 : g' < w3.heap.size := by omega
 have HB3 := Lib.hid b3'
 have HCG := Lib.hid cellg
 have HC3 := Lib.hid c3
 have HC2 := Lib.hid hc2
 clear b3 b3' cellg c3 hown hcell hc2
 go_wp2_with fail
 go_loopw [30] (fun t wr => ∃ k : Nat, k ≤ nsub + 1 ∧ t = .int .i64 k ∧ Blk wr G (subCells s r (nsub + 1) k) 9 ∧ Chg [G] w3 wr) (fun t _ => nsub + 1 - (intOf t).toNat)
 case atStart => exact ⟨0, Nat.zero_le _, rfl, HB3.out, (Chg.refl w3).mono (fun _ h => by cases h)⟩
 case round =>
  obtain ⟨k, hk, rfl, hbk, hck⟩ := hrel
  by_cases hlt : k < nsub + 1
  ·have hlt' : (k : Int) < (nsub : Int) + 1 := by omega
   have hlt2 : (k : Int) < ((nsub + 1 : Nat) : Int) := by omega
   have h2k : 2 * k + 1 < nc := by have := HNS.out; omega
   have hrl : r.length = nc := by have := HNL.out; simpa [intCells] using this
   have r0 : (intCells r)[2 * k]? = some (.int .i64 (r.getD (2 * k) (-1))) := by
    unfold intCells
    rw [List.getElem?_map, List.getElem?_eq_getElem (by omega), List.getD_eq_getElem?_getD, List.getElem?_eq_getElem (by omega)]
    rfl
   have r1 : (intCells r)[2 * k + 1]? = some (.int .i64 (r.getD (2 * k + 1) 0)) := by
    unfold intCells
    rw [List.getElem?_map, List.getElem?_eq_getElem (by omega), List.getD_eq_getElem?_getD, List.getElem?_eq_getElem (by omega)]
    rfl
   have d0 := (HCG.out wr hck (2 * k) (by omega)).trans r0
   have d1 := (HCG.out wr hck (2 * k + 1) (by omega)).trans r1
   have hlen : (2 : Int) * (k : Int) < (nc : Int) := by omega
   have hgr : g' < wr.heap.size := Nat.lt_of_lt_of_le hg3 hck.size
   have hbb := HB.out k (by omega)
   have HBK := Lib.hid hbk
   have HCK := Lib.hid hck
   clear hbk hck r0 r1
   rcases hbb with hneg | ⟨h0, h1, h2⟩
   ·have hem : subOf s r k = ByteArray.empty := by unfold subOf; rw [hneg]; rfl
    rw [hneg] at d0
    go_wp2_with fail
    exact ⟨⟨k + 1, by omega, by simp, by rw [subCells_same _ _ _ _ hem]; exact HBK.out, HCK.out⟩, by simp [intOf]; omega⟩
   ·obtain ⟨a, ha⟩ : ∃ a : Nat, r.getD (2 * k) (-1) = a := ⟨_, (Int.toNat_of_nonneg h0).symm⟩
    obtain ⟨b, hb⟩ : ∃ b : Nat, r.getD (2 * k + 1) 0 = b := ⟨_, (Int.toNat_of_nonneg (by omega)).symm⟩
    have ha2 : r.getD (2 * k) 0 = a := by
     rw [← ha, List.getD_eq_getElem?_getD, List.getD_eq_getElem?_getD, List.getElem?_eq_getElem (by omega)]
     rfl
    have hsb : subOf s r k = s.extract a b := by
     unfold subOf
     rw [ha, if_pos (by omega), ha2, hb]
     rfl
    rw [ha] at d0 h0 h1
    rw [hb] at d1 h1 h2
    have hab : a ≤ b := by omega
    have hbs : b ≤ s.size := by omega
    have hnn : (0 : Int) ≤ (a : Int) := by omega
    have hab' : (a : Int) ≤ (b : Int) := by omega
    have hbs' : (b : Int) ≤ (s.size : Int) := by omega
    have q1 : IntKind.i64.wrap (2 * (k : Int)) = 2 * (k : Int) := by rw [Go.IntWalk.i64_left]; exact Go.IntWalk.wrap64_in _ (by omega)
    have q2 : IntKind.i64.wrap (2 * (k : Int) + 1) = 2 * (k : Int) + 1 := by rw [Go.IntWalk.i64_left]; exact Go.IntWalk.wrap64_in _ (by omega)
    have q3 : (0 : Int) ≤ 2 * (k : Int) := by omega
    have q4 : (0 : Int) ≤ 2 * (k : Int) + 1 := by omega
    have q5 : 2 * (k : Int) + 1 < (nc : Int) := by omega
    have q6 : (2 * (k : Int)).toNat = 2 * k := by omega
    have q7 : (2 * (k : Int) + 1).toNat = 2 * k + 1 := by omega
    have x3 : wr.cell? ⟨G, k, none⟩ = some (.string ByteArray.empty) := by
     rw [HBK.out.cell]
     unfold subCells
     rw [List.getElem?_map, List.getElem?_range hlt]
     simp
    have f3 := HBK.out.free k
    have hGl3 := HBK.out.lt
    have HSB := Lib.hid hsb
    clear ha hb ha2 hsb
    go_wp2_with fail
    refine wp_region_ext_tail 16 rfl (by kernel_rfl) ?_
    simp only [List.take_succ_cons, List.take_zero, List.drop_succ_cons, List.drop_zero]
    repeat (quiet_step (fail))
    refine wpQuiet_nil ?_
    rintro w' ⟨y, rfl⟩
    go_wp2_with fail
    refine ⟨⟨k + 1, by omega, by simp, ?_, ?_⟩, by simp [intOf]; omega⟩
    ·rw [← subCells_set, HSB.out]
     exact (HBK.out.chg (Chg.of_below y.below) (by simp)).set k _
    ·exact ((HCK.out.trans (Chg.of_below y.below)).trans (Chg.set _ G k _)).mono (fun b h _ => by simpa using h)
  ·have hkn : k = nsub + 1 := by omega
   subst hkn
   have hlt' : ¬ ((nsub : Int) + 1 < (nsub : Int) + 1) := by omega
   have HBK := Lib.hid hbk
   have HCK := Lib.hid hck
   clear hbk hck
   go_wp2_with fail
   go_ret
   refine ⟨G, rfl, ?_, ?_⟩
   ·have hbb := HBK.out
    rw [subCells_all] at hbb
    simpa [List.range_succ] using hbb
   ·have c4 : Chg [] w wr := ((((HCZ.out.trans HC2.out).trans HC3.out).trans HCK.out)).mono (fun b hb hlt => by
     simp at hb
     have h1 := (HCZ.out.trans HC2.out).size
     omega)
    exact Ext.of (c4.below (Nat.le_refl _) (fun b hb => by cases hb))
end

end Go.Proofs.YtkbmigfkclnlaaaGreatDoor
namespace Go.Proofs.YtkbmigfkclnlaaaGreatDoor
open Go.RowKit
attribute [local go_sem] Ext.cell Ext.frozen Ext.lt Ext.lt_add Ext.cell2 Ext.frozen2

def nm (d p : ByteArray) : ByteArray := if d.toList.isEmpty = true then p else d ++ ⟨#[47]⟩ ++ p

theorem name_any (d p : ByteArray) (w : World) (hs : d.size + p.size ≤ 10000000000) :
  Calls Tryz.prog 145 #[.agg #[.string d, .string p]] w fun e w' => e = .returned (.string (nm d p)) ∧ ∃ x : Ext w, w' = x.now := by
 unfold nm
 by_cases hd : d.toList.isEmpty = true
 ·rw [if_pos hd]
  go_enter Tryz.func145, Tryz.ntmps145
  go_wp2
  go_ret
  exact ⟨rfl, Ext.alloc1 _ _⟩
 ·rw [if_neg hd]
  have hd' : d.toList.isEmpty = false := by simpa using hd
  clear hd
  go_enter Tryz.func145, Tryz.ntmps145
  go_wp2
  go_ret
  exact ⟨rfl, Ext.alloc1 _ _⟩

theorem specName_any (d p t g : ByteArray) (w : World) (hs : d.size + p.size ≤ 10000000000) :
  Calls Tryz.prog 22 #[.agg #[.string d, .string p, .string t, .string g]] w fun e w' => e = .returned (.string (nm d p)) ∧ ∃ x : Ext w, w' = x.now := by
 unfold nm
 by_cases hd : d.toList.isEmpty = true
 ·rw [if_pos hd]
  go_enter Tryz.func22, Tryz.ntmps22
  go_wp2
  go_ret
  exact ⟨rfl, Ext.alloc1 _ _⟩
 ·rw [if_neg hd]
  have hd' : d.toList.isEmpty = false := by simpa using hd
  clear hd
  go_enter Tryz.func22, Tryz.ntmps22
  go_wp2
  go_ret
  exact ⟨rfl, Ext.alloc1 _ _⟩

theorem repoString_any (d p : ByteArray) (w : World) (hs : d.size + p.size ≤ 10000000000) :
  Calls Tryz.prog 147 #[.agg #[.string d, .string p]] w fun e w' => e = .returned (.string (nm d p)) ∧ ∃ x : Ext w, w' = x.now := by
 have hn := fun W => name_any d p W hs
 go_enter Tryz.func147, Tryz.ntmps147
 go_wp2_with (go_at_call 145; (with_reducible refine (hn _).mono ?_); rintro e w' ⟨rfl, x, rfl⟩)
 go_ret
 exact ⟨rfl, Ext.via x⟩

theorem digString_any (g : ByteArray) (w : World) :
  Calls Tryz.prog 142 #[.string g] w fun e w' => e = .returned (.string g) ∧ ∃ x : Ext w, w' = x.now := by
 go_enter Tryz.func142, Tryz.ntmps142
 go_wp2
 go_ret
 exact ⟨rfl, Ext.refl w, rfl⟩

theorem meth_name (d p : ByteArray) (w : World) : (method 387 104 (.agg #[.string d, .string p]) "Name").run Tryz.prog w = .ok (145, .agg #[.string d, .string p]) w := by kernel_rfl

theorem nm_size (d p : ByteArray) : (nm d p).size ≤ d.size + 1 + p.size := by
 unfold nm
 split
 ·omega
 ·have : (⟨#[47]⟩ : ByteArray).size = 1 := rfl
  simp [ByteArray.size_append, this]

theorem trString_any (d p t : ByteArray) (w : World) (hs : d.size + p.size + t.size ≤ 10000000000) :
  Calls Tryz.prog 155 #[.agg #[.iface 104 (.agg #[.string d, .string p]), .string t]] w fun e w' => e = .returned (.string (nm d p ++ ⟨#[58]⟩ ++ t)) ∧ ∃ x : Ext w, w' = x.now := by
 have hn := fun W => name_any d p W (by omega)
 have hm := meth_name d p
 have hz := nm_size d p
 have b1 : ¬ 9223372036854775807 < (nm d p).size + 1 := by omega
 have b2 : ¬ 9223372036854775807 < (nm d p).size + 1 + t.size := by omega
 go_enter Tryz.func155, Tryz.ntmps155
 go_wp2
 refine wp_region_ext (by kernel_rfl) (by kernel_rfl) ?_
 repeat (quiet_step (first
  | (go_at_call 145; with_reducible exact calls_ext (hn _))))
 refine wpQuiet_nil ?_
 rintro w' ⟨y, rfl⟩
 go_wp2
 go_ret
 exact ⟨rfl, Ext.via y⟩

theorem crString_any (d p g : ByteArray) (w : World) (hs : d.size + p.size + g.size ≤ 10000000000) :
  Calls Tryz.prog 154 #[.agg #[.iface 104 (.agg #[.string d, .string p]), .string g]] w fun e w' => e = .returned (.string (nm d p ++ ⟨#[64]⟩ ++ g)) ∧ ∃ x : Ext w, w' = x.now := by
 have hn := fun W => name_any d p W (by omega)
 have hm := meth_name d p
 have hz := nm_size d p
 have b1 : ¬ 9223372036854775807 < (nm d p).size + 1 := by omega
 have b2 : ¬ 9223372036854775807 < (nm d p).size + 1 + g.size := by omega
 have hg := fun W => digString_any g W
 go_enter Tryz.func154, Tryz.ntmps154
 go_wp2
 refine wp_region_ext (by kernel_rfl) (by kernel_rfl) ?_
 repeat (quiet_step (first
  | (go_at_call 145; with_reducible exact calls_ext (hn _))
  | (go_at_call 142; with_reducible exact calls_ext (hg _))))
 refine wpQuiet_nil ?_
 rintro w' ⟨y, rfl⟩
 go_wp2
 go_ret
 exact ⟨rfl, Ext.via y⟩

theorem rfString_any (d p t g : ByteArray) (w : World) (hs : d.size + p.size + t.size + g.size ≤ 10000000000) :
  Calls Tryz.prog 149 #[.agg #[.iface 104 (.agg #[.string d, .string p]), .string t, .string g]] w fun e w' => e = .returned (.string (nm d p ++ ⟨#[58]⟩ ++ t ++ ⟨#[64]⟩ ++ g)) ∧ ∃ x : Ext w, w' = x.now := by
 have hn := fun W => name_any d p W (by omega)
 have hm := meth_name d p
 have hz := nm_size d p
 have b1 : ¬ 9223372036854775807 < (nm d p).size + 1 := by omega
 have b2 : ¬ 9223372036854775807 < (nm d p).size + 1 + t.size := by omega
 have b3 : ¬ 9223372036854775807 < (nm d p).size + 1 + t.size + 1 := by omega
 have b4 : ¬ 9223372036854775807 < (nm d p).size + 1 + t.size + 1 + g.size := by omega
 have hg := fun W => digString_any g W
 go_enter Tryz.func149, Tryz.ntmps149
 go_wp2
 refine wp_region_ext (by kernel_rfl) (by kernel_rfl) ?_
 repeat (quiet_step (first
  | (go_at_call 145; with_reducible exact calls_ext (hn _))
  | (go_at_call 142; with_reducible exact calls_ext (hg _))))
 refine wpQuiet_nil ?_
 rintro w' ⟨y, rfl⟩
 go_wp2
 go_ret
 exact ⟨rfl, Ext.via y⟩

def refV (d p t g : ByteArray) : Value :=
 if p.toList.isEmpty = true then .iface 139 (.string g)
 else if t.toList.isEmpty = true then
  if g.toList.isEmpty = true then .iface 104 (.agg #[.string d, .string p]) else .iface 141 (.agg #[.iface 104 (.agg #[.string d, .string p]), .string g])
 else if g.toList.isEmpty = true then .iface 143 (.agg #[.iface 104 (.agg #[.string d, .string p]), .string t])
 else .iface 108 (.agg #[.iface 104 (.agg #[.string d, .string p]), .string t, .string g])

theorem nm_empty (d p : ByteArray) : (nm d p).toList.isEmpty = (d.toList.isEmpty && p.toList.isEmpty) := by
 unfold nm
 cases hd : d.toList.isEmpty with
 | true => simp
 | false =>
  rw [ByteArray.toList_eq] at hd
  simp only [Bool.false_eq_true, if_false, Bool.false_and, ByteArray.toList_eq, ByteArray.data_append, Array.toList_append]
  cases h : d.data.toList with
  | nil => rw [h] at hd; cases hd
  | cons a l => rfl

theorem best_any (d p t g : ByteArray) (w : World) (hs : d.size + p.size ≤ 10000000000) (hp : p.toList.isEmpty = true → d.toList.isEmpty = true) (hg : p.toList.isEmpty = true → g.toList.isEmpty = false) :
  Calls Tryz.prog 52 #[.agg #[.iface 104 (.agg #[.string d, .string p]), .string t, .string g]] w fun e w' => e = .returned (refV d p t g) ∧ ∃ x : Ext w, w' = x.now := by
 have hn := fun W => name_any d p W (by omega)
 have hm := meth_name d p
 unfold refV
 by_cases h1 : p.toList.isEmpty = true
 ·have hN : (nm d p).toList.isEmpty = true := by rw [nm_empty, hp h1, h1]; rfl
  have hG := hg h1
  rw [if_pos h1]
  clear hp hg h1
  go_enter Tryz.func52, Tryz.ntmps52
  go_wp2_with (go_at_call 145; (with_reducible refine (hn _).mono ?_); rintro e w' ⟨rfl, x, rfl⟩)
  go_ret
  exact ⟨rfl, Ext.via x⟩
 ·have h1' : p.toList.isEmpty = false := by simpa using h1
  have hN : (nm d p).toList.isEmpty = false := by rw [nm_empty, h1', Bool.and_false]
  rw [if_neg h1]
  clear hp hg h1 h1'
  by_cases h2 : t.toList.isEmpty = true
  ·rw [if_pos h2]
   by_cases h3 : g.toList.isEmpty = true
   ·rw [if_pos h3]
    go_enter Tryz.func52, Tryz.ntmps52
    go_wp2_with (go_at_call 145; (with_reducible refine (hn _).mono ?_); rintro e w' ⟨rfl, x, rfl⟩)
    go_ret
    exact ⟨rfl, Ext.via x⟩
   ·rw [if_neg h3]
    have h3' : g.toList.isEmpty = false := by simpa using h3
    clear h3
    go_enter Tryz.func52, Tryz.ntmps52
    go_wp2_with (go_at_call 145; (with_reducible refine (hn _).mono ?_); rintro e w' ⟨rfl, x, rfl⟩)
    go_ret
    exact ⟨rfl, Ext.via x⟩
  ·rw [if_neg h2]
   have h2' : t.toList.isEmpty = false := by simpa using h2
   clear h2
   by_cases h3 : g.toList.isEmpty = true
   ·rw [if_pos h3]
    go_enter Tryz.func52, Tryz.ntmps52
    go_wp2_with (go_at_call 145; (with_reducible refine (hn _).mono ?_); rintro e w' ⟨rfl, x, rfl⟩)
    go_ret
    exact ⟨rfl, Ext.via x⟩
   ·rw [if_neg h3]
    have h3' : g.toList.isEmpty = false := by simpa using h3
    clear h3
    go_enter Tryz.func52, Tryz.ntmps52
    go_wp2_with (go_at_call 145; (with_reducible refine (hn _).mono ?_); rintro e w' ⟨rfl, x, rfl⟩)
    go_ret
    exact ⟨rfl, Ext.via x⟩


theorem ref_any (d p t g : ByteArray) (w : World) (hs : d.size + p.size ≤ 10000000000) (hp : p.toList.isEmpty = true → d.toList.isEmpty = true) (hg : p.toList.isEmpty = true → g.toList.isEmpty = false) :
  Calls Tryz.prog 16 #[.agg #[.string d, .string p, .string t, .string g]] w fun e w' => e = .returned (refV d p t g) ∧ ∃ x : Ext w, w' = x.now := by
 have hb := fun W => best_any d p t g W hs hp hg
 clear hp hg
 have hz : ∀ W, Calls Tryz.prog 32 #[.string d, .string p, .string t, .string g] W fun e w' => e = .returned (refV d p t g) ∧ ∃ x : Ext W, w' = x.now := by
  intro W
  go_enter Tryz.func32, Tryz.ntmps32
  go_wp2_with (go_at_call 52; (with_reducible refine (hb _).mono ?_); rintro e w' ⟨rfl, x, rfl⟩)
  go_ret
  exact ⟨rfl, x, rfl⟩
 clear hb
 go_enter Tryz.func16, Tryz.ntmps16
 go_wp2_with (go_at_call 32; (with_reducible refine (hz _).mono ?_); rintro e w' ⟨rfl, x, rfl⟩)
 go_ret
 exact ⟨rfl, Ext.via x⟩

abbrev rv (d p t g : ByteArray) : Value := .agg #[.string d, .string p, .string t, .string g]

def fitsB (d p t g : ByteArray) : Bool := decide (d.size ≤ 2147483647) && decide (p.size ≤ 2147483647) && decide (t.size ≤ 2147483647) && decide (g.size ≤ 2147483647)

theorem fits_any (d p t g : ByteArray) (w : World) :
  Calls Tryz.prog 4 #[rv d p t g] w fun e w' => e = .returned (.bool (fitsB d p t g)) ∧ ∃ x : Ext w, w' = x.now := by
 by_cases a1 : d.size ≤ 2147483647
 ·by_cases a2 : p.size ≤ 2147483647
  ·by_cases a3 : t.size ≤ 2147483647
   ·by_cases a4 : g.size ≤ 2147483647
    ·have hg : fitsB d p t g = true := by simp [fitsB, a1, a2, a3, a4]
     rw [hg]
     go_enter Tryz.func4, Tryz.ntmps4
     go_wp2
     go_ret
     exact ⟨rfl, Ext.alloc1 _ _⟩
    ·have hg : fitsB d p t g = false := by simp [fitsB, a1, a2, a3, a4]
     rw [hg]
     go_enter Tryz.func4, Tryz.ntmps4
     go_wp2
     go_ret
     exact ⟨rfl, Ext.alloc1 _ _⟩
   ·have hg : fitsB d p t g = false := by simp [fitsB, a1, a2, a3]
    rw [hg]
    go_enter Tryz.func4, Tryz.ntmps4
    go_wp2
    go_ret
    exact ⟨rfl, Ext.alloc1 _ _⟩
  ·have hg : fitsB d p t g = false := by simp [fitsB, a1, a2]
   rw [hg]
   go_enter Tryz.func4, Tryz.ntmps4
   go_wp2
   go_ret
   exact ⟨rfl, Ext.alloc1 _ _⟩
 ·have hg : fitsB d p t g = false := by simp [fitsB, a1]
  rw [hg]
  go_enter Tryz.func4, Tryz.ntmps4
  go_wp2
  go_ret
  exact ⟨rfl, Ext.alloc1 _ _⟩

def specText (d p t g : ByteArray) : ByteArray :=
 if p.toList.isEmpty = true then g
 else if t.toList.isEmpty = true then (if g.toList.isEmpty = true then nm d p else nm d p ++ (⟨#[64]⟩ ++ g))
 else (if g.toList.isEmpty = true then nm d p ++ (⟨#[58]⟩ ++ t) else nm d p ++ (⟨#[58]⟩ ++ t) ++ (⟨#[64]⟩ ++ g))

theorem specText_any (d p t g : ByteArray) (w : World) (hs : d.size + p.size + t.size + g.size ≤ 10000000000) :
  Calls Tryz.prog 12 #[rv d p t g] w fun e w' => e = .returned (.string (specText d p t g)) ∧ ∃ x : Ext w, w' = x.now := by
 have hn := fun W => specName_any d p t g W (by omega)
 have hz := nm_size d p
 unfold specText
 by_cases h1 : p.toList.isEmpty = true
 ·rw [if_pos h1]
  go_enter Tryz.func12, Tryz.ntmps12
  go_wp2_with (go_at_call 22; (with_reducible refine (hn _).mono ?_); rintro e w' ⟨rfl, x, rfl⟩)
  go_ret
  exact ⟨rfl, Ext.alloc1 _ _⟩
 ·rw [if_neg h1]
  have h1' : p.toList.isEmpty = false := by simpa using h1
  clear h1
  by_cases h2 : t.toList.isEmpty = true
  ·rw [if_pos h2]
   by_cases h3 : g.toList.isEmpty = true
   ·rw [if_pos h3]
    go_enter Tryz.func12, Tryz.ntmps12
    go_wp2_with (go_at_call 22; (with_reducible refine (hn _).mono ?_); rintro e w' ⟨rfl, x, rfl⟩)
    go_ret
    exact ⟨rfl, Ext.via x⟩
   ·rw [if_neg h3]
    have h3' : g.toList.isEmpty = false := by simpa using h3
    clear h3
    go_enter Tryz.func12, Tryz.ntmps12
    go_wp2_with (go_at_call 22; (with_reducible refine (hn _).mono ?_); rintro e w' ⟨rfl, x, rfl⟩)
    go_ret
    exact ⟨rfl, Ext.via x⟩
  ·rw [if_neg h2]
   have h2' : t.toList.isEmpty = false := by simpa using h2
   clear h2
   by_cases h3 : g.toList.isEmpty = true
   ·rw [if_pos h3]
    go_enter Tryz.func12, Tryz.ntmps12
    go_wp2_with (go_at_call 22; (with_reducible refine (hn _).mono ?_); rintro e w' ⟨rfl, x, rfl⟩)
    go_ret
    exact ⟨rfl, Ext.via x⟩
   ·rw [if_neg h3]
    have h3' : g.toList.isEmpty = false := by simpa using h3
    clear h3
    go_enter Tryz.func12, Tryz.ntmps12
    go_wp2_with (go_at_call 22; (with_reducible refine (hn _).mono ?_); rintro e w' ⟨rfl, x, rfl⟩)
    go_ret
    exact ⟨rfl, Ext.via x⟩


end Go.Proofs.YtkbmigfkclnlaaaGreatDoor
