/-
FnCronTextAfterRoads: the calendar, the schedules, their texts and the zones, part 15 of 34.
-/
import Derived.Test.YtopcjlimjkfoiaaGreatDoorV14
import Derived.Test.YtopcjlimjkfoiaaGreatDoorV04
import Derived.Deep.WholeRow
import Derived.Test.YtopcjlimjkfoiaaGreatDoorV11
import Derived.Laws.Tables
set_option linter.all false
namespace Go.Proofs.YtopcjlimjkfoiaaGreatDoor
open Go.RowKit
attribute [local go_sem] Ext.cell Ext.frozen Ext.lt Ext.lt_add Ext.cell2 Ext.frozen2

def FieldFine (k lo hi : Nat) (l : List Nat) : Prop := ∀ p ∈ pieces 44 l, p ≠ [] ∧ ItemFine k lo hi p

structure FMem (w : World) (k lo hi G2 G4 G6 g : Nat) (ds : List ByteArray) (wr : World) : Prop where
  b0 : wr.cell? ⟨G2, 0, none⟩ = some (.int .i64 lo)
  b1 : wr.cell? ⟨G2, 1, none⟩ = some (.int .i64 hi)
  b2 : wr.cell? ⟨G2, 2, none⟩ = some (.int .i64 k)
  lt2 : G2 < wr.heap.size
  s4 : BB wr G4 64
  s6 : BB wr G6 64
  row : StrRow wr g ds
  up : ∃ x : Ext w, wr = x.now

theorem FMem.ext {w : World} {k lo hi G2 G4 G6 g : Nat} {ds : List ByteArray} {wr : World} (h : FMem w k lo hi G2 G4 G6 g ds wr) (x : Ext wr) : FMem w k lo hi G2 G4 G6 g ds x.now := by
  obtain ⟨y, hy⟩ := h.up
  subst hy
  exact ⟨by rw [x.cell _ _ h.lt2]; exact h.b0, by rw [x.cell _ _ h.lt2]; exact h.b1, by rw [x.cell _ _ h.lt2]; exact h.b2, x.lt _ h.lt2, h.s4.ext x, h.s6.ext x, h.row.ext x, ⟨y.trans x, rfl⟩⟩

theorem FMem.rows {w : World} {k lo hi G2 G4 G6 g : Nat} {ds : List ByteArray} {wr : World} (h : FMem w k lo hi G2 G4 G6 g ds wr) (G : Nat) (cs : Array Value) (hc : Bs cs 64) (h2 : G2 ≠ G) (hg : g ≠ G) (hw : w.heap.size ≤ G) :
    FMem w k lo hi G2 G4 G6 g ds (wr.setCells G 0 cs.toList) := by
  obtain ⟨y, hy⟩ := h.up
  refine ⟨?_, ?_, ?_, by rw [setCells_lt]; exact h.lt2, h.s4.rows cs hc (fun _ => rfl), h.s6.rows cs hc (fun _ => rfl), ⟨by rw [setCells_lt]; exact h.row.lt, fun i hi => ?_⟩, ?_⟩
  · rw [World.cell?_setCells_out G _ 0 wr _ (fun h1 _ => absurd h1 h2)]; exact h.b0
  · rw [World.cell?_setCells_out G _ 0 wr _ (fun h1 _ => absurd h1 h2)]; exact h.b1
  · rw [World.cell?_setCells_out G _ 0 wr _ (fun h1 _ => absurd h1 h2)]; exact h.b2
  · rw [World.cell?_setCells_out G _ 0 wr _ (fun h1 _ => absurd h1 hg)]; exact h.row.at_ i hi
  · subst hy
    exact Ext.rows G hw cs.toList 0 y

set_option maxRecDepth 1000000 in
set_option maxHeartbeats 4000000 in
theorem field_any (k lo hi : Nat) (hk : k < 6) (hlo : lo < 60) (hhi : hi < 60) (s : ByteArray) (w : World) (hs : s.size < 100000000000) :
    Calls Tryz.prog 69 #[.agg #[.int .i64 lo, .int .i64 hi, .int .i64 k], .string s] w fun e w' => SetRes (FieldFine k lo hi (nats s)) e ∧ ∃ y : Ext w, w' = y.now := by
  have hp := Lib.hid (fun W => pieces_c s 44 44 rfl (by decide) W hs)
  have hit := Lib.hid (fun (d : ByteArray) (hd : d.size < 100000000000) (W : World) => item_any k lo hi hk hlo hhi d W hd)
  have hun := Lib.hid (fun (A B : Array Value) (hA : Bs A 64) (hB : Bs B 64) (W : World) => union_any hA hB W)
  have hw := Lib.hid (fun (a b : Nat) (ha : a < 1000) (hb : b < 1000) (W : World) => worse_any a b ha hb W)
  have hw2 := Lib.hid (fun (a : Nat) (ha : a < 1000) (W : World) => (show Calls Tryz.prog 26 #[.int .i64 a, .int .i64 2] W fun e w' => e = .returned (.int .i64 (worseV a 2 : Nat)) ∧ w' = W from worse_any a 2 ha (by decide) W))
  go_enter Tryz.func69, Tryz.ntmps69
  go_wp2_with (go_at_call 88; (with_reducible refine (hp.out _).mono ?_))
  rw [← zeroSet_lit]
  rintro e w1 ⟨g, cap, ds, rfl, ⟨hds, hlen⟩, hrow, y, rfl⟩
  have hM : FMem w k lo hi w.heap.size (w.heap.size + 1) (w.heap.size + 1 + 1) g ds y.now := by
    refine ⟨?_, ?_, ?_, ?_, ?_, ?_, hrow, ⟨(((Ext.one w _).trans (Ext.one _ _)).trans (Ext.one _ _)).trans y, rfl⟩⟩
    · rw [y.cell _ _ (by simp; omega)]; simp [go_sem]
    · rw [y.cell _ _ (by simp; omega)]; simp [go_sem]
    · rw [y.cell _ _ (by simp; omega)]; simp [go_sem]
    · exact y.lt _ (by simp; omega)
    · have := ((BB.alloc (w := w.alloc (Obj.cells #[Value.int IntKind.i64 lo, Value.int IntKind.i64 hi, Value.int IntKind.i64 k] 129)) zeroSet_bs 37).grow (.cells zeroSet 37)).ext y
      simpa using this
    · have := (BB.alloc (w := (w.alloc (Obj.cells #[Value.int IntKind.i64 lo, Value.int IntKind.i64 hi, Value.int IntKind.i64 k] 129)).alloc (.cells zeroSet 37)) zeroSet_bs 37).ext y
      simpa using this
  have hpos : 0 < ds.length := by
    rcases ds with _ | ⟨d0, r⟩
    · exact absurd hds.symm (pieces_ne _ _)
    · simp
  have hg6 : g ≠ w.heap.size + 1 + 1 := by
    intro e
    obtain ⟨b, hb⟩ := hM.s6.at_ 0 (by decide)
    have hr := hM.row.get 0 hpos
    rw [e, hb] at hr
    cases hr
  have hss := Lib.hid (fun (d : ByteArray) (hd : d ∈ ds) => pieces_small hds d hd)
  have HDS := Lib.hid hds
  have hnn : (ds.length : Int) < 100000000002 := by omega
  clear hds hrow hlen hpos
  obtain ⟨G6, hG6⟩ : ∃ q, q = w.heap.size + 1 + 1 := ⟨_, rfl⟩
  obtain ⟨G4, hG4⟩ : ∃ q, q = w.heap.size + 1 := ⟨_, rfl⟩
  obtain ⟨G2, hG2⟩ : ∃ q, q = w.heap.size := ⟨_, rfl⟩
  rw [← hG6] at hM hg6 ⊢
  rw [← hG4] at hM ⊢
  rw [← hG2] at hM ⊢
  have HG := Lib.hid (show G2 ≠ G6 ∧ g ≠ G6 ∧ w.heap.size ≤ G6 ∧ w.heap.size ≤ G4 ∧ G2 ≠ G4 from ⟨by omega, hg6, by omega, by omega, by omega⟩)
  clear hG6 hG4 hG2 hg6
  generalize hyw : y.now = wy at *
  clear hyw y
  go_wp2_with fail
  go_loopw [7, 15] (fun t7 t15 wr => ∃ i vd : Nat, t15 = .int .i64 i ∧ t7 = .int .i64 vd ∧ i ≤ ds.length ∧ vd ≤ 2 ∧ (vd = 1 → ∀ j, j < i → nats (ds.getD j ByteArray.empty) ≠ [] ∧ ItemFine k lo hi (nats (ds.getD j ByteArray.empty))) ∧ FMem w k lo hi G2 G4 G6 g ds wr) (fun _ t _ => ds.length - (intOf t).toNat)
  case atStart => exact ⟨0, 1, rfl, rfl, Nat.zero_le _, by decide, fun _ j hj => absurd hj (Nat.not_lt_zero _), hM⟩
  case round =>
    obtain ⟨i, vd, rfl, rfl, hi1, hvd, hall, hF⟩ := hrel
    clear hM
    have HALL := Lib.hid hall
    have HF := Lib.hid hF
    have hl2 := hF.lt2
    have hlg := hF.row.lt
    have hb0 := hF.b0
    have hb1 := hF.b1
    have hb2 := hF.b2
    by_cases hlt : i < ds.length
    · have hlt' : (i : Int) < (ds.length : Int) := by omega
      have hci := hF.row.get i hlt
      have hdm : ds.getD i ByteArray.empty ∈ ds := by
        rw [List.getD_eq_getElem?_getD, List.getElem?_eq_getElem hlt]
        exact List.getElem_mem hlt
      have hsz := hss.out _ hdm
      clear hF hall hdm
      obtain ⟨d, hd⟩ : ∃ d, d = ds.getD i ByteArray.empty := ⟨_, rfl⟩
      rw [← hd] at hci hsz
      have HD := Lib.hid hd
      clear hd
      by_cases he : nats d = []
      · have he' : (d.toList == ([] : List UInt8)) = true := by rw [lit_nats]; exact decide_eq_true he
        have HE := Lib.hid he
        clear he
        have hww := Lib.hid (hw2.out vd (by omega))
        go_wp2_with (go_at_call 26; (with_reducible refine (hww.out _).mono ?_); rintro e w2 ⟨rfl, rfl⟩)
        refine ⟨⟨i + 1, worseV vd 2, by simp, rfl, by omega, by unfold worseV; split <;> omega, fun h => absurd (worse_fine.1 h).2 (by decide), HF.out⟩, by simp [intOf]; omega⟩
      · have he' : (d.toList == ([] : List UInt8)) = false := by rw [lit_nats]; exact decide_eq_false he
        have HE := Lib.hid he
        clear he
        have hi := Lib.hid (hit.out d (by omega))
        go_wp2_with (go_at_call 89; (with_reducible refine (hi.out _).mono ?_))
        rintro e w1 ⟨⟨C1, v1, rfl, hC1, hv1, hf1⟩, x1, rfl⟩
        have HF1 := Lib.hid hf1
        have hww := Lib.hid (hw.out vd v1 (by omega) (by omega))
        clear hf1
        have hN2 : G2 ≠ x1.now.heap.size := by have := x1.le; omega
        have hNg : g ≠ x1.now.heap.size := by have := x1.le; omega
        have hNw : w.heap.size ≤ x1.now.heap.size := by
          obtain ⟨x, hx⟩ := HF.out.up
          have h1 := x.le
          rw [← hx] at h1
          have := x1.le
          omega
        have M1 := Lib.hid (((HF.out.ext x1).ext (Ext.one _ (.cells zeroSet 37))).rows x1.now.heap.size C1 hC1 hN2 hNg hNw)
        have B1 := Lib.hid ((BB.alloc (w := x1.now) zeroSet_bs 37).rows C1 hC1 (G := x1.now.heap.size) (fun _ => rfl))
        clear hN2 hNg hNw
        go_wp2_with (first
          | (with_reducible refine at_store 37 ?_; (refine wpList_store_bools rfl _ _ _ rfl x1.now.heap.size 64 C1 rfl rfl (BB.alloc (w := x1.now) zeroLit_bs 37) hC1 (by kernel_rfl) ?_); intro w2 hw2; rw [← zeroSet_lit] at hw2; have M2 := Lib.hid M1.out; have B2 := Lib.hid B1.out; have e2 : w2 = (x1.now.alloc (.cells zeroSet 37)).setCells x1.now.heap.size 0 C1.toList := hw2; rw [show (Ext.one x1.now (.cells zeroSet 37)).now = x1.now.alloc (.cells zeroSet 37) from rfl, ← e2] at M2; rw [← e2] at B2; clear hw2 e2 M1 B1)
          | (with_reducible refine at_load 37 ?_; (refine wpList_load_bools rfl _ _ rfl G6 0 64 64 rfl M2.out.s6 (by decide) (by kernel_rfl) (by kernel_rfl) ?_); intro cs6 hcs6)
          | (with_reducible refine at_load 37 ?_; (refine wpList_load_bools rfl _ _ rfl x1.now.heap.size 0 64 64 rfl B2.out (by decide) (by kernel_rfl) (by kernel_rfl) ?_); intro csN hcsN)
          | (go_at_call 90; (with_reducible refine (hun.out _ _ hcs6 hcsN _).mono ?_); rintro e w3 ⟨C2, hC2, rfl, x3, rfl⟩)
          | (go_at_call 26; (with_reducible refine (hww.out _).mono ?_); rintro e w4 ⟨rfl, rfl⟩)
          | (with_reducible refine at_store 37 ?_; (refine wpList_store_bools rfl _ _ _ rfl G6 64 C2 rfl rfl (M2.out.ext x3).s6 hC2 (by kernel_rfl) ?_); intro w5 hw5; have M5 := Lib.hid ((M2.out.ext x3).rows G6 C2 hC2 HG.out.1 HG.out.2.1 HG.out.2.2.1); rw [← hw5] at M5; clear hw5))
        refine ⟨⟨i + 1, worseV vd v1, by simp, rfl, by omega, by unfold worseV; split <;> omega, fun h j hj => ?_, M5.out⟩, by simp [intOf]; omega⟩
        by_cases e : j = i
        · subst e
          rw [← HD.out]
          exact ⟨HE.out, HF1.out (worse_fine.1 h).2⟩
        · exact HALL.out (worse_fine.1 h).1 j (by omega)
    · obtain rfl : i = ds.length := by omega
      clear hall hF
      have hup := HF.out.up
      obtain ⟨x, hx⟩ := hup
      subst hx
      by_cases c1 : vd = 1
      · have c1' : (((vd : Nat) : Int) != 1) = false := by rw [c1]; rfl
        have HFI := Lib.hid (show FieldFine k lo hi (nats s) from by
          intro p hp
          rw [← HDS.out] at hp
          obtain ⟨d, hd, rfl⟩ := List.mem_map.1 hp
          obtain ⟨j, hj, rfl⟩ := List.getElem_of_mem hd
          have := HALL.out c1 j hj
          rwa [List.getD_eq_getElem?_getD, List.getElem?_eq_getElem hj] at this)
        go_wp2_with (first
          | (with_reducible refine at_load 37 ?_; (refine wpList_load_bools rfl _ _ rfl G6 0 64 64 rfl HF.out.s6 (by decide) (by kernel_rfl) (by kernel_rfl) ?_); intro cs6 hcs6)
          | (with_reducible refine at_store 37 ?_; (refine wpList_store_bools rfl _ _ _ rfl G4 64 cs6 rfl rfl HF.out.s4 hcs6 (by kernel_rfl) ?_); intro w5 hw5; have M5 := Lib.hid (HF.out.s4.rows cs6 hcs6 (G := G4) (fun _ => rfl)); rw [← hw5] at M5; obtain ⟨y5, rfl⟩ : ∃ y5 : Ext w, w5 = y5.now := (by obtain ⟨q, hq⟩ := Ext.rows G4 HG.out.2.2.2.1 cs6.toList 0 x; exact ⟨q, by rw [hw5]; exact hq⟩); clear hw5))
        exact ret_bools2 rfl G4 64 rfl M5.out (by kernel_rfl) (by kernel_rfl) rfl (fun C hC => ⟨⟨C, 1, rfl, hC, by decide, fun _ => HFI.out⟩, y5, rfl⟩)
      · have c1' : (((vd : Nat) : Int) != 1) = true := bne_iff_ne.2 (by omega)
        go_wp2_with (with_reducible refine at_store 37 ?_; (refine wpList_store_bools rfl _ _ _ rfl G4 64 _ rfl rfl HF.out.s4 zeroLit_bs (by kernel_rfl) ?_); intro w5 hw5; have M5 := Lib.hid (HF.out.s4.rows _ zeroLit_bs (G := G4) (fun _ => rfl)); rw [← hw5] at M5; obtain ⟨y5, rfl⟩ : ∃ y5 : Ext w, w5 = y5.now := (by obtain ⟨q, hq⟩ := Ext.rows G4 HG.out.2.2.2.1 _ 0 x; exact ⟨q, by rw [hw5]; exact hq⟩); clear hw5)
        exact ret_bools2 rfl G4 64 rfl M5.out (by kernel_rfl) (by kernel_rfl) rfl (fun C hC => ⟨⟨C, vd, rfl, hC, hvd, fun h => absurd h c1⟩, y5, rfl⟩)

end Go.Proofs.YtopcjlimjkfoiaaGreatDoor
namespace Go.Proofs.YtopcjlimjkfoiaaGreatDoor
open Go Go.RowKit

inductive Pl where
  | nil
  | read (i : Nat) (r : Pl)
  | step (i : Nat) (r : Pl)
  | fork (i j : Nat) (r1 r2 : Pl)

def Pl.len : Pl → Nat
  | .nil => 0
  | .read _ r => r.len + 1
  | .step _ r => r.len + 1
  | .fork _ _ r1 _ => r1.len + 1

section
variable {P : Program} {ops : Array Oper} {md : Region.Mode} {C : World → Prop} {Q : Exit → Act → World → Prop}

def stepAt (P : Program) (ops : Array Oper) (Q : Exit → Act → World → Prop) (i : Nat) (K : Act → World → Prop) (a : Act) (w : World) : Prop :=
  match ops[i]? with
  | none => False
  | some o => if Region.wanted o (yielded ops a.tmps) then o.wp P a w K Q else K (a.put o.dst undef) w

def wpPl (P : Program) (ops : Array Oper) (C : World → Prop) (Q : Exit → Act → World → Prop) (L : Act → World → Prop) : Pl → Act → World → Prop
  | .nil, a, w => L a w
  | .read i r, a, w =>
    match ops[i]? with
    | none => False
    | some o => if Region.wanted o (yielded ops a.tmps) then ∃ v, (∀ w, C w → readAt P o a w v) ∧ wpPl P ops C Q L r (a.put o.dst v) w else wpPl P ops C Q L r (a.put o.dst undef) w
  | .step i r, a, w => stepAt P ops Q i (fun a' w' => C w' ∧ wpPl P ops C Q L r a' w') a w
  | .fork i j r1 r2, a, w => stepAt P ops Q i (fun a' w' => C w' ∧ wpPl P ops C Q L r1 a' w') a w ∧ stepAt P ops Q j (fun a' w' => C w' ∧ wpPl P ops C Q L r2 a' w') a w

theorem pl_read {L : Act → World → Prop} {i : Nat} {r : Pl} {a : Act} {w : World} {o : Oper} (ho : ops[i]? = some o)
    (h : ∀ K : Act → Prop, (∀ a, wpPl P ops C Q L r a w → K a) → if Region.wanted o (yielded ops a.tmps) then ∃ v, (∀ w, C w → readAt P o a w v) ∧ K (a.put o.dst v) else K (a.put o.dst undef)) :
    wpPl P ops C Q L (.read i r) a w := by
  unfold wpPl
  simp only [ho]
  exact h _ (fun _ h => h)

theorem pl_at {K : Act → World → Prop} {i : Nat} {a : Act} {w : World} {o : Oper} (ho : ops[i]? = some o) (hw : Region.wanted o (yielded ops a.tmps) = true) (h : o.wp P a w K Q) : stepAt P ops Q i K a w := by
  unfold stepAt
  simp only [ho, hw, if_true]
  exact h

def plB (md : Region.Mode) (ops : Array Oper) (n g : Nat) : Pl → Array Bool → Bool
  | .nil, listed => Region.seqB md ops g n listed
  | .read i r, listed => decide (i < n) && (Region.ready md ops listed).contains i && Region.free md ops listed i && plB md ops n g r (listed.setIfInBounds i true)
  | .step i r, listed => decide (i < n) && decide (Region.ready md ops listed = [i]) && plB md ops n g r (listed.setIfInBounds i true)
  | .fork i j r1 r2, listed => decide (i < n) && decide (j < n) && decide (Region.ready md ops listed = [i, j]) && decide (r1.len = r2.len) && plB md ops n g r1 (listed.setIfInBounds i true) && plB md ops n g r2 (listed.setIfInBounds j true)

def plOk (md : Region.Mode) (ops : Array Oper) (n : Nat) (plan : Pl) : Bool :=
  Region.noSelect ops && decide (n < ops.size) && decide (plan.len = n) && Region.sinkB md ops n && Region.chainB md ops n && plB md ops n (ops.size - n) plan (Array.replicate ops.size false)

theorem wpOp_stepAt {K K' : Act → World → Prop} {i : Nat} {a : Act} {w : World} (h : stepAt P ops Q i K a w) (hK : ∀ a' w', K a' w' → K' a' w') : wpOp P ops Q i K' a w := by
  unfold stepAt at h
  unfold wpOp
  cases hi : ops[i]? with
  | none => simp only [hi] at h
  | some o =>
    simp only [hi] at h ⊢
    split
    · rename_i hw
      simp only [hw, if_true] at h
      exact .inl (Oper.wp_mono (fun a' w' h' => hK a' w' h') h)
    · rename_i hw
      simp only [hw] at h
      exact hK _ _ h

theorem wpAnyT_pl {n g : Nat} {L : Act → World → Prop} (hsel : Region.noSelect ops = true) (hQ : ∀ c a (d : Option Tmp) (v : Value) w, Q (.panic c) (a.put d v) w → Q (.panic c) a w)
    (hs : Region.sinkB md ops n = true) (hc : Region.chainB md ops n = true) (hn : n < ops.size) :
    ∀ (plan : Pl) (listed : Array Bool) (a : Act) (w : World), HeadInv md ops n listed → plB md ops n g plan listed = true → C w → wpPl P ops C Q L plan a w →
      wpAnyT P md ops Q C n (fun listed' a' w' => Region.seqB md ops g n listed' = true ∧ L a' w') plan.len listed a w
  | .nil, listed, a, w, _, hB, hC, h => ⟨hC, by simpa [plB] using hB, h⟩
  | .read i r, listed, a, w, inv, hB, hC, h => by
    simp only [plB, Bool.and_eq_true, decide_eq_true_eq] at hB
    obtain ⟨⟨⟨hin, hr⟩, hf⟩, hB'⟩ := hB
    have hr' : i ∈ Region.ready md ops listed := by simpa using hr
    unfold wpPl at h
    cases hi : ops[i]? with
    | none => simp only [hi] at h
    | some o =>
      simp only [hi] at h
      have hex : ∃ v, YieldsIf P ops C o v a ∧ wpPl P ops C Q L r (a.put o.dst v) w := by
        by_cases hw : Region.wanted o (yielded ops a.tmps) = true
        · simp only [hw, if_true] at h
          obtain ⟨v, h1, h2⟩ := h
          exact ⟨v, .inl ⟨hw, fun w' hw' => readAt_run (h1 w' hw')⟩, h2⟩
        · simp only [hw] at h
          exact ⟨undef, .inr ⟨by simpa using hw, rfl⟩, h⟩
      obtain ⟨v, hy, hK⟩ := hex
      exact wpAnyT_first hi (Region.noSelect_spec hsel) (fun c a w => hQ c a _ _ w) hs hc hn hin (fun listed' a' w' hL => seqB_ready hL.1) r.len listed a w inv (Region.free_spec hi hf) hr' hy hC
        (wpAnyT_pl hsel hQ hs hc hn r _ _ _ (inv.set hr' hin) hB' hC hK)
  | .step i r, listed, a, w, inv, hB, hC, h => by
    simp only [plB, Bool.and_eq_true, decide_eq_true_eq] at hB
    obtain ⟨⟨hin, hr⟩, hB'⟩ := hB
    have hr' : i ∈ Region.ready md ops listed := by rw [hr]; simp
    refine ⟨hC, fun h0 => (by rw [h0] at hr; cases hr), fun j hj => ?_⟩
    rw [hr] at hj
    have hji : j = i := by simpa using hj
    subst hji
    refine ⟨hin, ?_⟩
    unfold wpPl at h
    exact wpOp_stepAt h (fun a' w' h' => wpAnyT_pl hsel hQ hs hc hn r _ _ _ (inv.set hr' hin) hB' h'.1 h'.2)
  | .fork i j r1 r2, listed, a, w, inv, hB, hC, h => by
    simp only [plB, Bool.and_eq_true, decide_eq_true_eq] at hB
    obtain ⟨⟨⟨⟨⟨hin, hjn⟩, hr⟩, hlen⟩, hB1⟩, hB2⟩ := hB
    have hri : i ∈ Region.ready md ops listed := by rw [hr]; simp
    have hrj : j ∈ Region.ready md ops listed := by rw [hr]; simp
    unfold wpPl at h
    refine ⟨hC, fun h0 => (by rw [h0] at hr; cases hr), fun x hx => ?_⟩
    rw [hr] at hx
    simp at hx
    rcases hx with hx | hx
    · rw [hx]
      exact ⟨hin, wpOp_stepAt h.1 (fun a' w' h' => wpAnyT_pl hsel hQ hs hc hn r1 _ _ _ (inv.set hri hin) hB1 h'.1 h'.2)⟩
    · rw [hx]
      refine ⟨hjn, wpOp_stepAt h.2 (fun a' w' h' => ?_)⟩
      have := wpAnyT_pl hsel hQ hs hc hn r2 _ _ _ (inv.set hrj hjn) hB2 h'.1 h'.2
      rw [← hlen] at this
      exact this

theorem wp_region_pl {id : Nat} {a : Act} {w : World} {l : List Oper} (n : Nat) (plan : Pl) (C : World → Prop) (hm : P.follows .mixedOrders = true) (hB : plOk .any l.toArray n plan = true)
    (hQ : ∀ c a (d : Option Tmp) (v : Value) w, Q (.panic c) (a.put d v) w → Q (.panic c) a w) (hC : C w.drew)
    (h : wpPl P l.toArray C Q (wpList P l.toArray Q (l.drop n)) plan a w.drew) : (Code.region id l.toArray true).wp P Q a w := by
  simp only [plOk, Bool.and_eq_true, decide_eq_true_eq] at hB
  obtain ⟨⟨⟨⟨⟨hsel, hn⟩, hlen⟩, hs⟩, hc⟩, hplan⟩ := hB
  have hdl : (l.drop n).length = l.toArray.size - n := by simp
  have inv0 : HeadInv .any l.toArray n (Array.replicate l.toArray.size false) :=
    ⟨by simp, fun j oj _ hl => (by rw [getD_replicate_false] at hl; cases hl), fun t _ ht => getD_in (by simpa using ht) (getD_replicate_false _ _)⟩
  have H := wpAnyT_pl (md := .any) (g := l.toArray.size - n) hsel hQ hs hc hn plan _ a w.drew inv0 hplan hC h
  refine wp_region_any hm ?_
  have := wpAny_of_headT (Q := Q) (g := l.toArray.size - n) (fun listed a' w' hL => by
    have := wpAny_of_seq (md := .any) (Q' := Q) (l.drop n) n listed a' w' (fun j => by simp [List.getElem?_drop]) (by rw [hdl]; exact hL.1) hL.2
    rwa [hdl] at this) _ _ _ _ H
  have hn' : n < l.length := by simpa using hn
  rw [hlen, show n + (l.toArray.size - n) = l.toArray.size by simp; omega] at this
  exact this

end
end Go.Proofs.YtopcjlimjkfoiaaGreatDoor
namespace Go.Proofs.YtopcjlimjkfoiaaGreatDoor
open Go.RowKit
attribute [local go_sem] Ext.cell Ext.frozen Ext.lt Ext.lt_add Ext.cell2 Ext.frozen2

theorem BB.rowsAt {w : World} {g n : Nat} (h : BB w g n) {G m : Nat} (o : Nat) (cs : Array Value) (hc : Bs cs m) (hn : g = G → o + m ≤ n) : BB (w.setCells G o cs.toList) g n := by
  refine ⟨by rw [setCells_lt]; exact h.lt, fun j hj => ?_, fun j hj => by rw [World.frozen?_setCells]; exact h.fz j hj⟩
  by_cases e : g = G
  · subst e
    have hm := hn rfl
    by_cases hin : o ≤ j ∧ j < o + m
    · have := World.cell?_setCells_in g cs.toList o w (fun j hj => by obtain ⟨b, hb⟩ := h.at_ (o + j) (by have : j < cs.size := by simpa using hj
                                                                                                          rw [hc.1] at this; omega); rw [hb]; rfl) (j - o) (by simp [hc.1]; omega)
      obtain ⟨b, hb⟩ := hc.2 (j - o) (by omega)
      refine ⟨b, ?_⟩
      rw [show o + (j - o) = j by omega] at this
      rw [this, ← hb]
      simp
    · rw [World.cell?_setCells_out g cs.toList o w _ (fun _ _ => by simp [hc.1]; omega)]
      exact h.at_ j hj
  · rw [World.cell?_setCells_out G cs.toList o w _ (fun h1 _ => absurd h1 e)]
    exact h.at_ j hj

theorem run_storeVar_boolsAt {P : Program} {w : World} {ty : TypeId} {g n m : Nat} (o : Nat) (hb : BB w g n) {cs : Array Value} (hc : Bs cs m) (hm : o + m ≤ n) (hi : (P.info? ty).map (·.size) = some m) :
    (storeVar ty ⟨g, o, none⟩ (.agg cs)).run P w = .ok () (w.setCells g o cs.toList) := by
  have hr := run_storeCells_cells (P := P) g o cs.toList 0 w
    (fun j hj => by obtain ⟨b, hb⟩ := hb.at_ (o + j) (by have : j < cs.size := by simpa using hj
                                                         rw [hc.1] at this; omega); rw [Nat.add_zero, hb]; rfl)
    (fun j hj => by rw [Nat.add_zero]; exact hb.fz (o + j) (by have : j < cs.size := by simpa using hj
                                                               rw [hc.1] at this; omega))
    (fun v hv => by
      obtain ⟨j, hj, rfl⟩ := List.getElem_of_mem hv
      obtain ⟨b, hb⟩ := hc.2 j (by simpa [hc.1] using hj)
      rw [Array.getElem?_eq_some_iff] at hb
      obtain ⟨_, hb⟩ := hb
      rw [Array.getElem_toList, hb]
      rfl)
  rw [Nat.add_zero] at hr
  cases hq : P.info? ty with
  | none => simp [hq] at hi
  | some i =>
    have hs : cs.size = i.size := by simp [hq] at hi; rw [hc.1]; omega
    simp [storeVar, sizeOf, typeInfo, hq, Value.cells, hs, hr]

section
variable {P : Program} {ops : Array Oper} {rest : List Oper} {o : Oper} {a : Act} {w : World} {Q : Exit → Act → World → Prop}
theorem wpList_alloc_bools (hg : o.guard = none) (ty : TypeId) (ho : o.op = .alloc ty) (n : Nat) (hz : (P.info? ty).map (fun i => (i.zero, i.size)) = some (some (.agg (Array.replicate n (.bool false))), n))
    (h : ∀ cs, Bs cs n → wpList P ops Q rest (a.put o.dst (.pointer (some ⟨w.heap.size, 0, none⟩))) (w.alloc (.cells cs ty))) : wpList P ops Q (o :: rest) a w := by
  refine wpList_plain hg fun K hK => ?_
  have hzr := (zero_of_info hz).1 w
  have h1 := h _ (Bs.falses n)
  unfold Oper.wp execOp
  simp only [ho]
  simp [Instr.alloc, Sem.run_bind, hzr, newVar, newRow, Value.cells, go_sem]
  exact hK _ _ h1
end

section
variable {P : Program} {ops : Array Oper} {C : World → Prop} {Q : Exit → Act → World → Prop}
theorem stepAt_of {K0 : Act → World → Prop} {i : Nat} {a : Act} {w : World} {o : Oper} (ho : ops[i]? = some o) (hw : Region.wanted o (yielded ops a.tmps) = true)
    (h : ∀ K : Act → World → Prop, (∀ a w, K0 a w → K a w) → o.wp P a w K Q) : stepAt P ops Q i K0 a w :=
  pl_at ho hw (h K0 (fun _ _ h => h))
end

theorem info39 : (Tryz.prog.info? 39).map (fun i => (i.zero, i.size)) = some (some (.agg (Array.replicate 384 (.bool false))), 384) := by kernel_rfl

def SixFine (ds : List ByteArray) : Prop := ∀ j, j < 6 → FieldFine j (kLow j) (kHigh j) (nats (ds.getD j ByteArray.empty))
def SixRes (ds : List ByteArray) (e : Ending) : Prop := ∃ (C : Array Value) (v : Nat), e = .returned (.tuple #[.agg C, .int .i64 v]) ∧ Bs C 384 ∧ v ≤ 2 ∧ (v = 1 → SixFine ds)

end Go.Proofs.YtopcjlimjkfoiaaGreatDoor
namespace Go.Proofs.YtopcjlimjkfoiaaGreatDoor
open Go.RowKit

def mcell (j : Nat) (v : Value) : Prop := (j ≠ 1 ∧ ∃ b, v = .bool b) ∨ (j = 1 ∧ ∃ n, v = .int .i64 n)
theorem mcell.one {j : Nat} {v : Value} (h : mcell j v) : v.oneCell' = true := by
  rcases h with ⟨_, b, rfl⟩ | ⟨_, n, rfl⟩ <;> rfl

def MS (cs : Array Value) : Prop := cs.size = 387 ∧ ∀ j, j < 387 → ∃ v, cs[j]? = some v ∧ mcell j v
structure MB (w : World) (g : Nat) : Prop where
  lt : g < w.heap.size
  at_ : ∀ j, j < 387 → ∃ v, w.cell? ⟨g, j, none⟩ = some v ∧ mcell j v
  fz : ∀ j, j < 387 → w.frozen? ⟨g, j, none⟩ = false

theorem MB.alloc {w : World} {cs : Array Value} (h : MS cs) (t : TypeId) : MB (w.alloc (.cells cs t)) w.heap.size := by
  refine ⟨by simp, fun j hj => ?_, fun j hj => ?_⟩
  · obtain ⟨v, hv, hm⟩ := h.2 j hj
    refine ⟨v, ?_, hm⟩
    rw [cell_of_row _ _ j cs t (0, 0) (heap_alloc_new w _)]
    exact hv
  · have h1 := heap_alloc_new w (.cells cs t)
    unfold World.frozen?
    simp only [h1]
    simp

theorem MB.ext {w : World} {g : Nat} (h : MB w g) (x : Ext w) : MB x.now g :=
  ⟨x.lt _ h.lt, fun j hj => by rw [x.cell _ _ h.lt]; exact h.at_ j hj, fun j hj => by rw [x.frozen _ _ h.lt]; exact h.fz j hj⟩

theorem MB.grow {w : World} {g : Nat} (h : MB w g) (o : Obj) : MB (w.alloc o) g := h.ext (Ext.one w o)

theorem MB.set {w : World} {g : Nat} (h : MB w g) (G o : Nat) (ho : o ≠ 1) (b : Bool) : MB (w.setCell ⟨G, o, none⟩ (.bool b)) g := by
  refine ⟨by simpa [World.setCell] using h.lt, fun j hj => ?_, fun j hj => by rw [World.frozen?_setCell]; exact h.fz j hj⟩
  obtain ⟨c, hc, hm⟩ := h.at_ j hj
  by_cases e : (⟨G, o, none⟩ : Addr) = ⟨g, j, none⟩
  · have ho' : j ≠ 1 := by cases e; exact ho
    rw [e]
    exact ⟨.bool b, World.cell?_setCell_same _ _ _ hc, .inl ⟨ho', b, rfl⟩⟩
  · exact ⟨c, by rw [World.cell?_setCell_other _ _ _ _ e]; exact hc, hm⟩

theorem MB.rows {w : World} {g : Nat} (h : MB w g) {G : Nat} (cs : Array Value) (hc : MS cs) : MB (w.setCells G 0 cs.toList) g := by
  refine ⟨by rw [setCells_lt]; exact h.lt, fun j hj => ?_, fun j hj => by rw [World.frozen?_setCells]; exact h.fz j hj⟩
  by_cases e : g = G
  · subst e
    have := World.cell?_setCells_in g cs.toList 0 w (fun j hj => by obtain ⟨b, hb, _⟩ := h.at_ j (by simpa [hc.1] using hj); simp only [Nat.zero_add]; rw [hb]; rfl) j (by simp [hc.1]; omega)
    obtain ⟨b, hb, hm⟩ := hc.2 j hj
    refine ⟨b, ?_, hm⟩
    rw [Nat.zero_add] at this
    rw [this, ← hb]
    simp
  · rw [World.cell?_setCells_out G cs.toList 0 w _ (fun h1 _ => absurd h1 e)]
    exact h.at_ j hj

theorem MB.other {w : World} {g : Nat} (h : MB w g) {G : Nat} (o : Nat) (vs : List Value) (hn : g ≠ G) : MB (w.setCells G o vs) g := by
  refine ⟨by rw [setCells_lt]; exact h.lt, fun j hj => ?_, fun j hj => by rw [World.frozen?_setCells]; exact h.fz j hj⟩
  rw [World.cell?_setCells_out G vs o w _ (fun h1 _ => absurd h1 hn)]
  exact h.at_ j hj

theorem BB.other {w : World} {g n : Nat} (h : BB w g n) {G : Nat} (o : Nat) (vs : List Value) (hn : g ≠ G) : BB (w.setCells G o vs) g n := by
  refine ⟨by rw [setCells_lt]; exact h.lt, fun j hj => ?_, fun j hj => by rw [World.frozen?_setCells]; exact h.fz j hj⟩
  rw [World.cell?_setCells_out G vs o w _ (fun h1 _ => absurd h1 hn)]
  exact h.at_ j hj

theorem MB.get {P : Program} {w : World} {g : Nat} (h : MB w g) : ∃ cs, MS cs ∧ (loadCellsFrom ⟨g, 0, none⟩ 0 387 #[]).run P w = .ok cs w := by
  have hadd : ∀ j, (⟨g, 0, none⟩ : Addr).add j = ⟨g, 0 + j, none⟩ := fun j => by unfold Addr.add; split <;> simp_all
  have hl := run_loadCells (P := P) w ⟨g, 0, none⟩ 387 (fun j => (w.cell? ⟨g, j, none⟩).getD undef) (fun j hj => by
    obtain ⟨b, hb, _⟩ := h.at_ j hj
    rw [hadd, Nat.zero_add, hb]
    rfl)
  refine ⟨_, ⟨by simp, fun j hj => ?_⟩, hl⟩
  obtain ⟨b, hb, hm⟩ := h.at_ j hj
  refine ⟨b, ?_, hm⟩
  simp [hj, hb]

section
variable {P : Program} {ops : Array Oper} {rest : List Oper} {o : Oper} {a : Act} {w : World} {Q : Exit → Act → World → Prop}

theorem run_loadVar_mean {ty : TypeId} {g : Nat} (hb : MB w g) (hu : aggT P ty = true) (hi : (P.info? ty).map (·.size) = some 387) :
    ∃ cs, MS cs ∧ (loadVar ty ⟨g, 0, none⟩).run P w = .ok (.agg cs) w := by
  obtain ⟨cs, hc, hl⟩ := hb.get (P := P)
  obtain ⟨d, hu, hd⟩ := aggT.out hu
  refine ⟨cs, hc, ?_⟩
  cases hq : P.info? ty with
  | none => simp [hq] at hi
  | some i =>
    have hs : i.size = 387 := by simpa [hq] using hi
    have hagg : (isAgg ty).run P w = .ok true w := by
      unfold isAgg
      rw [Sem.run_bind, run_underlying hu w]
      cases d <;> simp_all [aggD]
    have hl' : (loadCells ⟨g, 0, none⟩ 387).run P w = .ok cs w := hl
    simp [loadVar, Sem.run_bind, hagg, sizeOf, typeInfo, hq, hs, hl']

theorem run_storeVar_mean {ty : TypeId} {g : Nat} (hb : MB w g) {cs : Array Value} (hc : MS cs) (hi : (P.info? ty).map (·.size) = some 387) :
    (storeVar ty ⟨g, 0, none⟩ (.agg cs)).run P w = .ok () (w.setCells g 0 cs.toList) := by
  have hr := run_storeCells_cells (P := P) g 0 cs.toList 0 w
    (fun j hj => by obtain ⟨b, hb, _⟩ := hb.at_ j (by simpa [hc.1] using hj); simp only [Nat.zero_add]; rw [hb]; rfl)
    (fun j hj => by simp only [Nat.zero_add]; exact hb.fz j (by simpa [hc.1] using hj))
    (fun v hv => by
      obtain ⟨j, hj, rfl⟩ := List.getElem_of_mem hv
      obtain ⟨b, hb, hm⟩ := hc.2 j (by simpa [hc.1] using hj)
      rw [Array.getElem?_eq_some_iff] at hb
      obtain ⟨_, hb⟩ := hb
      rw [Array.getElem_toList, hb]
      exact hm.one)
  cases hq : P.info? ty with
  | none => simp [hq] at hi
  | some i =>
    have hs : cs.size = i.size := by simp [hq] at hi; rw [hc.1]; omega
    have hr' : (storeCells ⟨g, 0, none⟩ cs.toList 0).run P w = .ok () (w.setCells g 0 cs.toList) := hr
    simp [storeVar, sizeOf, typeInfo, hq, Value.cells, hs, hr']

theorem wpList_load_mean (hg : o.guard = none) (ty : TypeId) (x : Operand) (ho : o.op = .load ty x) (g : Nat) (hx : a.eval x = .pointer (some ⟨g, 0, none⟩)) (hb : MB w g) (hu : aggT P ty = true)
    (hi : (P.info? ty).map (·.size) = some 387) (h : ∀ cs, MS cs → wpList P ops Q rest (a.put o.dst (.agg cs)) w) : wpList P ops Q (o :: rest) a w := by
  obtain ⟨cs, hc, hl⟩ := run_loadVar_mean (P := P) hb hu hi
  refine wpList_plain hg fun K hK => ?_
  unfold Oper.wp execOp
  simp only [ho, hx, Instr.loadAt, Instr.sureAddr, Sem.run_bind, Sem.run_pure, Result.andThen_ok, hl]
  exact hK _ _ (h cs hc)

theorem wpList_store_mean (hg : o.guard = none) (ty : TypeId) (x y : Operand) (ho : o.op = .store ty x y) (g : Nat) (cs : Array Value) (hx : a.eval x = .pointer (some ⟨g, 0, none⟩)) (hy : a.eval y = .agg cs)
    (hb : MB w g) (hc : MS cs) (hi : (P.info? ty).map (·.size) = some 387)
    (h : ∀ w', w' = w.setCells g 0 cs.toList → wpList P ops Q rest (a.put o.dst undef) w') : wpList P ops Q (o :: rest) a w := by
  refine wpList_plain hg fun K hK => ?_
  unfold Oper.wp execOp
  simp only [ho, hx, hy, Instr.storeAt, Instr.sureAddr, Sem.run_bind, Sem.run_pure, Result.andThen_ok, run_storeVar_mean hb hc hi]
  exact hK _ _ (h _ rfl)

theorem ret_mean2 {fn : Func} {R : Ending → World → Prop} {p q : Tmp} {ty : TypeId} (h : fn.results = #[.cell p ty, .tmp q]) (g : Nat) (hp : a.tmps.getD p undef = .pointer (some ⟨g, 0, none⟩)) (hb : MB w g)
    (hu : aggT P ty = true) (hi : (P.info? ty).map (·.size) = some 387) (hd : a.defers = []) (hR : ∀ cs, MS cs → R (.returned (.tuple #[.agg cs, a.tmps.getD q undef])) w) : bodyPost P fn R .ret a w := by
  obtain ⟨cs, hc, hl⟩ := run_loadVar_mean (P := P) hb hu hi
  have hp' : a.tmps[p]?.getD undef = .pointer (some ⟨g, 0, none⟩) := by simpa using hp
  exact bodyPost_ret (v := .tuple #[.agg cs, a.tmps.getD q undef]) (by simp [results, h, hp', asAddr, hl, Sem.run_bind]) hd (hR cs hc)

theorem wpList_alloc_mean (hg : o.guard = none) (ty : TypeId) (ho : o.op = .alloc ty) (z : Array Value) (hm : MS z) (hz : (P.info? ty).map (fun i => (i.zero, i.size)) = some (some (.agg z), 387))
    (h : ∀ cs, MS cs → wpList P ops Q rest (a.put o.dst (.pointer (some ⟨w.heap.size, 0, none⟩))) (w.alloc (.cells cs ty))) : wpList P ops Q (o :: rest) a w := by
  refine wpList_plain hg fun K hK => ?_
  have hzr := (zero_of_info hz).1 w
  have h1 := h _ hm
  unfold Oper.wp execOp
  simp only [ho]
  simp [Instr.alloc, Sem.run_bind, hzr, newVar, newRow, Value.cells, go_sem]
  exact hK _ _ h1

theorem wpList_build_mean (hg : o.guard = none) (ty : TypeId) (parts : Array (Nat × Operand)) (ho : o.op = .build ty parts) (hb : ∃ cs, MS cs ∧ P.built ty (parts.toList.map fun (i, x) => (i, a.eval x)) = some cs)
    (h : ∀ cs, MS cs → wpList P ops Q rest (a.put o.dst (.agg cs)) w) : wpList P ops Q (o :: rest) a w := by
  obtain ⟨cs, hc, hb⟩ := hb
  rw [← Array.toList_map] at hb
  refine wpList_plain hg fun K hK => ?_
  refine wp_build ty parts ho (by rw [hb]; rfl) ?_
  rw [hb]
  exact hK _ _ (h cs hc)
end

section
variable {P : Program} {ops : Array Oper} {rest : List Oper} {a : Act} {w : World} {Q : Exit → Act → World → Prop}
theorem at_build (T : TypeId) {ps : Array (Nat × Operand)} {d : Option Tmp} {t : TypeId} {p : String} {af : Array Edge} {g : Option (Nat × Bool)} (h : wpList P ops Q (⟨d, .build T ps, t, p, af, g⟩ :: rest) a w) : wpList P ops Q (⟨d, .build T ps, t, p, af, g⟩ :: rest) a w := h
end

def zeroMean : Array Value := #[.bool false, .int .i64 0] ++ Array.replicate 384 (.bool false) ++ #[.bool false]
theorem zeroMean_ms : MS zeroMean := by
  refine ⟨by simp [zeroMean], fun j hj => ?_⟩
  unfold zeroMean
  rcases (show j = 0 ∨ j = 1 ∨ (2 ≤ j ∧ j < 386) ∨ j = 386 by omega) with rfl | rfl | h | rfl
  · refine ⟨.bool false, ?_, .inl ⟨by decide, _, rfl⟩⟩
    rw [Array.getElem?_append_left (by simp), Array.getElem?_append_left (by simp)]
    rfl
  · refine ⟨.int .i64 0, ?_, .inr ⟨rfl, _, rfl⟩⟩
    rw [Array.getElem?_append_left (by simp), Array.getElem?_append_left (by simp)]
    rfl
  · refine ⟨.bool false, ?_, .inl ⟨by omega, _, rfl⟩⟩
    rw [Array.getElem?_append_left (by simp; omega), Array.getElem?_append_right (by simp; omega), Array.getElem?_replicate, if_pos (by simp; omega)]
  · refine ⟨.bool false, ?_, .inl ⟨by omega, _, rfl⟩⟩
    rw [Array.getElem?_append_right (by simp)]
    simp

theorem info41 : (Tryz.prog.info? 41).map (fun i => (i.zero, i.size)) = some (some (.agg zeroMean), 387) := by kernel_rfl

theorem built_none : ∃ cs, MS cs ∧ Tryz.prog.built 41 [] = some cs := ⟨zeroMean, zeroMean_ms, by kernel_rfl⟩

theorem MS.put {cs : Array Value} (h : MS cs) (j : Nat) (v : Value) (hv : mcell j v) : MS (cs.setIfInBounds j v) := by
  refine ⟨by simp [h.1], fun i hi => ?_⟩
  by_cases e : j = i
  · subst e
    exact ⟨v, by simp [h.1, hi], hv⟩
  · obtain ⟨u, hu, hm⟩ := h.2 i hi
    exact ⟨u, by rw [Array.getElem?_setIfInBounds_ne e]; exact hu, hm⟩

theorem built_places (parts : List (Nat × Value)) : Tryz.prog.built 41 parts = Instr.fill (fun i => #[((0 : Nat), (1 : Nat)), (1, 1), (2, 384), (386, 1)][i]?) zeroMean parts := by kernel_rfl

theorem built_every (n : Int) : ∃ cs, MS cs ∧ Tryz.prog.built 41 [(0, .bool true), (1, .int .i64 n)] = some cs := by
  refine ⟨(zeroMean.setIfInBounds 0 (.bool true)).setIfInBounds 1 (.int .i64 n), (zeroMean_ms.put 0 _ (.inl ⟨by decide, _, rfl⟩)).put 1 _ (.inr ⟨rfl, _, rfl⟩), ?_⟩
  rw [built_places]
  simp [Instr.fill, Value.cells, zeroMean]

theorem fold_ms (off : Nat) : ∀ (l : List (Value × Nat)) (A : Array Value), MS A → (∀ c j, (c, j) ∈ l → mcell (off + j) c) → MS (l.foldl (fun cs x => cs.setIfInBounds (off + x.2) x.1) A)
  | [], _, h, _ => h
  | (c, j) :: r, A, h, hl => by
    simp only [List.foldl_cons]
    exact fold_ms off r _ (h.put _ _ (hl c j (List.mem_cons_self ..))) fun c j hm => hl c j (List.mem_cons_of_mem _ hm)

theorem built_fields {C : Array Value} (hC : Bs C 384) : ∃ cs, MS cs ∧ Tryz.prog.built 41 [(2, .agg C)] = some cs := by
  have hz : zeroMean.size = 387 := zeroMean_ms.1
  refine ⟨C.zipIdx.toList.foldl (fun cs x => cs.setIfInBounds (2 + x.2) x.1) zeroMean, fold_ms 2 _ _ zeroMean_ms ?_, ?_⟩
  · intro c j hm
    have hm' : (c, j) ∈ C.zipIdx := Array.mem_def.2 hm
    have hj := Array.mem_zipIdx_iff_getElem?.1 hm'
    have hlt : j < 384 := by
      rw [← hC.1]
      rcases Nat.lt_or_ge j C.size with h | h
      · exact h
      · rw [Array.getElem?_eq_none h] at hj; cases hj
    obtain ⟨b, hb⟩ := hC.2 j hlt
    rw [hb] at hj
    cases hj
    exact .inl ⟨by omega, b, rfl⟩
  · rw [built_places]
    simp only [Instr.fill, Value.cells, hC.1, hz]
    rw [Array.foldl_toList]
    rfl

end Go.Proofs.YtopcjlimjkfoiaaGreatDoor
