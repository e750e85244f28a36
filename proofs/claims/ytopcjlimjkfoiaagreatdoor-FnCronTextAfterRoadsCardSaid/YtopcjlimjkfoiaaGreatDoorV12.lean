/-
FnCronTextAfterRoads: the calendar, the schedules, their texts and the zones, part 12 of 34.
-/
import Derived.Test.YtopcjlimjkfoiaaGreatDoorV11
set_option linter.all false
namespace Go.Proofs.YtopcjlimjkfoiaaGreatDoor
open Go.RowKit
attribute [local go_sem] Ext.cell Ext.frozen Ext.lt Ext.lt_add Ext.cell2 Ext.frozen2

def zeroSet : Array Value := Array.replicate 64 (.bool false)
theorem zeroSet_lit : zeroSet = #[.bool false, .bool false, .bool false, .bool false, .bool false, .bool false, .bool false, .bool false, .bool false, .bool false, .bool false, .bool false, .bool false, .bool false, .bool false, .bool false, .bool false, .bool false, .bool false, .bool false, .bool false, .bool false, .bool false, .bool false, .bool false, .bool false, .bool false, .bool false, .bool false, .bool false, .bool false, .bool false, .bool false, .bool false, .bool false, .bool false, .bool false, .bool false, .bool false, .bool false, .bool false, .bool false, .bool false, .bool false, .bool false, .bool false, .bool false, .bool false, .bool false, .bool false, .bool false, .bool false, .bool false, .bool false, .bool false, .bool false, .bool false, .bool false, .bool false, .bool false, .bool false, .bool false, .bool false, .bool false] := rfl
theorem zeroSet_bs : Bs zeroSet 64 := Bs.falses 64

theorem zeroLit_bs : Bs #[.bool false, .bool false, .bool false, .bool false, .bool false, .bool false, .bool false, .bool false, .bool false, .bool false, .bool false, .bool false, .bool false, .bool false, .bool false, .bool false, .bool false, .bool false, .bool false, .bool false, .bool false, .bool false, .bool false, .bool false, .bool false, .bool false, .bool false, .bool false, .bool false, .bool false, .bool false, .bool false, .bool false, .bool false, .bool false, .bool false, .bool false, .bool false, .bool false, .bool false, .bool false, .bool false, .bool false, .bool false, .bool false, .bool false, .bool false, .bool false, .bool false, .bool false, .bool false, .bool false, .bool false, .bool false, .bool false, .bool false, .bool false, .bool false, .bool false, .bool false, .bool false, .bool false, .bool false, .bool false] 64 := by
  rw [← zeroSet_lit]
  exact zeroSet_bs

theorem bs_one {A : Array Value} {n : Nat} (h : Bs A n) (j : Nat) (hj : j < n) : ∃ b, A[j]? = some (.bool b) := h.2 j hj

theorem idx63 {cs : Array Value} (h : Bs cs 63) (i : Nat) (hi : i < 63) : ∃ b, ∀ w, (Instr.index 35 (.agg cs) (.int .i64 i)).run Tryz.prog w = .ok (.bool b) w := by
  obtain ⟨b, hb⟩ := h.2 i hi
  refine ⟨b, fun w => ?_⟩
  have h1 : (i : Int) < 63 := by omega
  have h2 : (0 : Int) ≤ (i : Int) := by omega
  have hu : Tryz.prog.underlying 35 = some (.array 63 4) := by kernel_rfl
  have hv : aggT Tryz.prog 4 = false := by kernel_rfl
  have hs : (Tryz.prog.info? 4).map (·.size) = some 1 := by kernel_rfl
  obtain ⟨n, hn, hn1⟩ := Option.map_eq_some_iff.1 hs
  have hag : (isAgg 4).run Tryz.prog w = .ok false w := by
    unfold aggT at hv
    cases hq : Tryz.prog.underlying 4 with
    | none => exact absurd (show (Tryz.prog.underlying 4).isSome = true from by kernel_rfl) (by rw [hq]; decide)
    | some d =>
      rw [hq] at hv
      unfold isAgg
      rw [Sem.run_bind, run_underlying hq w]
      cases d <;> simp_all [aggD]
  unfold Instr.index
  simp [Sem.run_bind, run_underlying hu, asIntOf, h1, h2, part, sizeOf, typeInfo, hn, hn1, hag, hb]
  intro h9
  omega

set_option maxRecDepth 1000000 in
set_option maxHeartbeats 1000000 in
theorem union_any {A B : Array Value} (hA : Bs A 64) (hB : Bs B 64) (w : World) :
    Calls Tryz.prog 90 #[.agg A, .agg B] w fun e w' => ∃ C, Bs C 64 ∧ e = .returned (.agg C) ∧ ∃ y : Ext w, w' = y.now := by
  have hBB := Lib.hid (fun o => show BB (((w.alloc (.cells A 37)).alloc (.cells B 37)).alloc o) (w.heap.size + 1) 64 from by
    have := (BB.alloc (w := w.alloc (.cells A 37)) hB 37).grow o
    simpa using this)
  go_enter Tryz.func90, Tryz.ntmps90
  go_wp2_with (with_reducible refine at_load 35 ?_; go_loud (refine wpList_load_bools rfl _ _ rfl (w.heap.size + 1) 1 64 63 rfl (hBB.out _) (by decide) (by kernel_rfl) (by kernel_rfl) ?_))
  intro cs hcs
  rw [← zeroSet_lit]
  have hG0 : BB (((w.alloc (.cells A 37)).alloc (.cells B 37)).alloc (.cells zeroSet 37)) w.heap.size 64 := (((BB.alloc (w := w) hA 37).grow _).grow _)
  have hG1 := hBB.out (.cells zeroSet 37)
  have hG2 : BB (((w.alloc (.cells A 37)).alloc (.cells B 37)).alloc (.cells zeroSet 37)) (w.heap.size + 1 + 1) 64 := by
    have := BB.alloc (w := (w.alloc (.cells A 37)).alloc (.cells B 37)) zeroSet_bs 37
    simpa using this
  obtain ⟨x0, hx0⟩ : ∃ x : Ext w, ((w.alloc (.cells A 37)).alloc (.cells B 37)).alloc (.cells zeroSet 37) = x.now := ⟨((Ext.one _ _).trans (Ext.one _ _)).trans (Ext.one _ _), rfl⟩
  have hl0 : w.heap.size ≤ w.heap.size := Nat.le_refl _
  have hl1 : w.heap.size ≤ w.heap.size + 1 := by omega
  have hl2 : w.heap.size ≤ w.heap.size + 1 + 1 := by omega
  rw [hx0] at hG0 hG1 hG2 ⊢
  have hne1 : ¬ w.heap.size = w.heap.size + 1 := by omega
  have hne2 : ¬ w.heap.size = w.heap.size + 1 + 1 := by omega
  clear hBB hx0
  generalize w.heap.size + 1 + 1 = G2 at *
  generalize w.heap.size + 1 = G1 at *
  have hHS := Lib.hid (show ∀ (x : Ext w) G o v, w.heap.size ≤ G → ∃ y : Ext w, x.now.setCell ⟨G, o, none⟩ v = y.now from fun x G o v hG => Ext.of (x.below.setCell (p := ⟨G, o, none⟩) hG v))
  have hHR := Lib.hid (show ∀ (x : Ext w) G o vs, w.heap.size ≤ G → ∃ y : Ext w, x.now.setCells G o vs = y.now from fun x G o vs hG => Ext.rows G hG vs o x)
  generalize w.heap.size = G0 at *
  go_wp2_with fail
  go_loopw [5, 6, 9] (fun _ _ t9 wr => ∃ i : Nat, t9 = .int .i64 i ∧ i ≤ 63 ∧ BB wr G0 64 ∧ BB wr G1 64 ∧ BB wr G2 64 ∧ ∃ x : Ext w, wr = x.now) (fun _ _ t _ => 63 - (intOf t).toNat)
  case atStart => exact ⟨0, rfl, by decide, hG0, hG1, hG2, x0, rfl⟩
  case round =>
    obtain ⟨i, rfl, hi, h0, h1, h2, x, rfl⟩ := hrel
    by_cases hlt : i < 63
    · have hlt' : (i : Int) < 63 := by omega
      obtain ⟨b, hb⟩ := idx63 hcs i hlt
      obtain ⟨c, hc⟩ := h0.at_ (1 + i) (by omega)
      have hf := h0.fz (1 + i) (by omega)
      have hbl := h0.lt
      have H0 := Lib.hid h0
      have H1 := Lib.hid h1
      have H2 := Lib.hid h2
      clear h0 h1 h2
      cases c
      · go_wp2
        refine ⟨⟨i + 1, by simp, by omega, H0.out.set _ _ _, H1.out.set _ _ _, H2.out.set _ _ _, hHS.out _ _ _ _ hl0⟩, by simp [intOf]; omega⟩
      · go_wp2
        refine ⟨⟨i + 1, by simp, by omega, H0.out.set _ _ _, H1.out.set _ _ _, H2.out.set _ _ _, hHS.out _ _ _ _ hl0⟩, by simp [intOf]; omega⟩
    · have hlt' : ¬ (i : Int) < 63 := by omega
      obtain rfl : i = 63 := by omega
      obtain ⟨c, hc⟩ := h0.at_ 0 (by omega)
      obtain ⟨d, hd⟩ := h1.at_ 0 (by omega)
      have hf := h0.fz 0 (by omega)
      have hbl := h0.lt
      have H0 := Lib.hid h0
      have H1 := Lib.hid h1
      have H2 := Lib.hid h2
      clear h0 h1 h2
      cases c
      · go_wp2_with (first | (with_reducible refine at_load 37 ?_; go_loud (refine wpList_load_bools rfl _ _ rfl G0 0 64 64 rfl (H0.out.set _ _ _) (by decide) (by kernel_rfl) (by kernel_rfl) ?_)))
        intro cs2 hcs2
        obtain ⟨y, hy⟩ := hHS.out x G0 0 (.bool d) hl0
        have K2 := H2.out.set G0 0 d
        rw [hy] at K2 ⊢
        clear hy
        refine wpList_store_bools rfl _ _ _ rfl G2 64 cs2 rfl rfl K2 hcs2 (by kernel_rfl) ?_
        rintro _ rfl
        replace K2 := K2.rows cs2 hcs2 (G := G2) (fun _ => rfl)
        obtain ⟨z, hz⟩ := hHR.out y G2 0 cs2.toList hl2
        rw [hz] at K2 ⊢
        clear hz
        go_wp2
        exact ret_bools rfl G2 64 rfl K2 (by kernel_rfl) (by kernel_rfl) rfl (fun C hC => ⟨C, hC, rfl, z, rfl⟩)
      · go_wp2_with (first | (with_reducible refine at_load 37 ?_; go_loud (refine wpList_load_bools rfl _ _ rfl G0 0 64 64 rfl (H0.out.set _ _ _) (by decide) (by kernel_rfl) (by kernel_rfl) ?_)))
        intro cs2 hcs2
        obtain ⟨y, hy⟩ := hHS.out x G0 0 (.bool true) hl0
        have K2 := H2.out.set G0 0 true
        rw [hy] at K2 ⊢
        clear hy
        refine wpList_store_bools rfl _ _ _ rfl G2 64 cs2 rfl rfl K2 hcs2 (by kernel_rfl) ?_
        rintro _ rfl
        replace K2 := K2.rows cs2 hcs2 (G := G2) (fun _ => rfl)
        obtain ⟨z, hz⟩ := hHR.out y G2 0 cs2.toList hl2
        rw [hz] at K2 ⊢
        clear hz
        go_wp2
        exact ret_bools rfl G2 64 rfl K2 (by kernel_rfl) (by kernel_rfl) rfl (fun C hC => ⟨C, hC, rfl, z, rfl⟩)

end Go.Proofs.YtopcjlimjkfoiaaGreatDoor
