/-
FnCronTextAfterRoads: the calendar, the schedules, their texts and the zones, part 24 of 34.
-/
import Derived.Test.YtopcjlimjkfoiaaGreatDoorV23
set_option linter.all false
namespace Go.Proofs.YtopcjlimjkfoiaaGreatDoor
open Go.RowKit
attribute [local go_sem] Ext.cell Ext.frozen Ext.lt Ext.lt_add Ext.cell2 Ext.frozen2

theorem cnt_none (o : Nat) : ∀ k, cntU o (-1) k = cntK o k
  | 0 => rfl
  | k + 1 => by
    have h := cnt_none o k
    have e : usedK o (-1) k = takesK o k := by
      unfold usedK
      rw [decide_eq_true (by omega), Bool.and_true]
    unfold cntU cntK
    rw [h, e]

theorem cnt_five (o : Nat) : ∀ k, k ≤ 5 → cntU o 5 k = cntK o k
  | 0, _ => rfl
  | k + 1, hk => by
    have h := cnt_five o k (by omega)
    have e : usedK o 5 k = takesK o k := by
      unfold usedK
      rw [decide_eq_true (by omega), Bool.and_true]
    unfold cntU cntK
    rw [h, e]

theorem cnt_zero {o : Nat} (ht : takesK o 0 = true) : ∀ k, cntK o (k + 1) = cntU o 0 (k + 1) + 1
  | 0 => by
    have e : usedK o 0 0 = false := by unfold usedK; rw [ht]; rfl
    unfold cntU cntK
    rw [ht, e]
    rfl
  | k + 1 => by
    have h := cnt_zero ht k
    have e : usedK o 0 (k + 1) = takesK o (k + 1) := by
      unfold usedK
      rw [decide_eq_true (by omega), Bool.and_true]
    rw [show cntK o (k + 1 + 1) = cntK o (k + 1) + if takesK o (k + 1) then 1 else 0 from rfl, show cntU o 0 (k + 1 + 1) = cntU o 0 (k + 1) + if usedK o 0 (k + 1) then 1 else 0 from rfl, h, e]
    omega

theorem cntK_le (o : Nat) (k : Nat) (d : Nat) : cntK o k ≤ cntK o (k + d) := by
  have := cntU_le o (-1) d k
  rwa [cnt_none, cnt_none] at this

theorem cntK_lt {o k : Nat} (hk : k < 6) (h : takesK o k = true) : cntK o k < cntK o 6 := by
  have h1 := cntK_le o (k + 1) (6 - (k + 1))
  rw [show k + 1 + (6 - (k + 1)) = 6 by omega, show cntK o (k + 1) = cntK o k + if takesK o k then 1 else 0 from rfl, h] at h1
  simp at h1
  omega

theorem map_getD_nats (ds : List ByteArray) (i : Nat) : (ds.map nats).getD i [] = nats (ds.getD i ByteArray.empty) := by
  rw [List.getD_eq_getElem?_getD, List.getD_eq_getElem?_getD, List.getElem?_map]
  cases ds[i]? with
  | none => rfl
  | some d => rfl

theorem full_none {o : Nat} {dw : List ByteArray} (j : Nat) (hj : j < 6) (ht : takesK o j = true) : cntK o j < cntK o 6 ∧ nats (dw.getD (cntK o j) ByteArray.empty) = fullK o (-1) (dw.map nats) j := by
  refine ⟨cntK_lt hj ht, ?_⟩
  have e : usedK o (-1) j = true := by unfold usedK; rw [ht, decide_eq_true (by omega)]; rfl
  unfold fullK
  rw [e, if_pos rfl, cnt_none, map_getD_nats]

theorem full_five {o : Nat} {dw : List ByteArray} (hl : dw.length + 1 = cntK o 6) (hc : dw.length = cntU o 5 6) (j : Nat) (hj : j < 6) (ht : takesK o j = true) :
    cntK o j < cntK o 6 ∧ nats ((dw ++ [(⟨#[42]⟩ : ByteArray)]).getD (cntK o j) ByteArray.empty) = fullK o 5 (dw.map nats) j := by
  have hlt := cntK_lt hj ht
  refine ⟨hlt, ?_⟩
  unfold fullK
  by_cases h5 : j = 5
  · subst h5
    have e : usedK o 5 5 = false := by unfold usedK; simp
    have e2 : dw.length = cntK o 5 := by
      rw [hc, show cntU o 5 6 = cntU o 5 5 + if usedK o 5 5 then 1 else 0 from rfl, e, cnt_five o 5 (Nat.le_refl _)]
      rfl
    rw [e, if_neg (by decide), ← e2, List.getD_eq_getElem?_getD, List.getElem?_append_right (Nat.le_refl _), Nat.sub_self]
    rfl
  · have e : usedK o 5 j = true := by unfold usedK; rw [ht, decide_eq_true (by omega)]; rfl
    have h5 : cntK o j < dw.length := by
      have e5 : usedK o 5 5 = false := by unfold usedK; simp
      have h6 := cntK_le o (j + 1) (5 - (j + 1))
      rw [show j + 1 + (5 - (j + 1)) = 5 by omega, show cntK o (j + 1) = cntK o j + if takesK o j then 1 else 0 from rfl, ht] at h6
      have e2 : dw.length = cntK o 5 := by
        rw [hc, show cntU o 5 6 = cntU o 5 5 + if usedK o 5 5 then 1 else 0 from rfl, e5, cnt_five o 5 (Nat.le_refl _)]
        rfl
      simp at h6
      omega
    rw [e, if_pos rfl, cnt_five o j (by omega), map_getD_nats, List.getD_eq_getElem?_getD, List.getElem?_append_left h5, ← List.getD_eq_getElem?_getD]

theorem full_zero {o : Nat} {dw : List ByteArray} (h0 : takesK o 0 = true) (j : Nat) (hj : j < 6) (ht : takesK o j = true) :
    cntK o j < cntK o 6 ∧ nats (((⟨#[48]⟩ : ByteArray) :: dw).getD (cntK o j) ByteArray.empty) = fullK o 0 (dw.map nats) j := by
  refine ⟨cntK_lt hj ht, ?_⟩
  unfold fullK
  cases j with
  | zero =>
    have e : usedK o 0 0 = false := by unfold usedK; simp
    rw [e, if_neg (by decide)]
    rfl
  | succ j =>
    have e : usedK o 0 (j + 1) = true := by unfold usedK; rw [ht, decide_eq_true (by omega)]; rfl
    rw [e, if_pos rfl, cnt_zero h0, map_getD_nats]
    rfl

theorem str_appends (w : World) {ops : Array Oper} {rest : List Oper} {o : Oper} {a : Act} {Q : Exit → Act → World → Prop} (hgd : o.guard = none) (s x : Operand)
    (ho : o.op = .call { callee := .builtin .append, args := #[s, x], argTypes := #[85, 85] }) (base n : Nat) (v : Value) (xs : List Value) (hs : a.eval s = v)
    (hown : w.ownsRow base 9 1 v n xs) (g c : Nat) (ds : List ByteArray) (hx : a.eval x = .slice (some ⟨g, 0, none⟩) ds.length c) (hpos : 0 < ds.length)
    (hnews : StrRow w g ds) (hn : n + ds.length < 1000000000000) (hbase : base ≤ w.heap.size)
    (h : ∀ g cap w', w'.ownsRow base 9 1 (.slice (some ⟨g, 0, none⟩) (n + ds.length) cap) (n + ds.length) (xs ++ ds.map Value.string) → w.grownBy w' v.ownBlock → wpList Tryz.prog ops Q rest (a.put o.dst (.slice (some ⟨g, 0, none⟩) (n + ds.length) cap)) w') :
    wpList Tryz.prog ops Q (o :: rest) a w := by
  obtain ⟨i, hi, hz0, hz1, hz2⟩ := info_parts str_info
  refine wpList_append_lies w hgd s x 85 ho base 9 i _ 1 16 (by kernel_rfl) hi hz0 hz1 hz2 rfl (by omega) v n xs hs hown ⟨g, 0, none⟩ ds.length c (ds.map Value.string) hx (by simp) ?_ ?_ hpos (by simp [maxLen]; omega) (by omega) hbase _ rfl (fun g cap w' a1 a2 _ _ => h g cap w' a1 a2)
  · intro j u hu
    have hj : j < ds.length := by
      rcases Nat.lt_or_ge j ds.length with h | h
      · exact h
      · rw [List.getElem?_eq_none (by simpa using h)] at hu; cases hu
    have := hnews.at_ j hj
    rw [hu] at this
    by_cases h0 : j = 0
    · subst h0; simpa [Addr.add] using this
    · simpa [Addr.add, h0] using this
  · intro u hu
    obtain ⟨d, _, rfl⟩ := List.mem_map.1 hu
    rfl

theorem ownsRow_ext {w : World} {base : Nat} {e : TypeId} {size : Nat} {v : Value} {n : Nat} {xs : List Value} (h : w.ownsRow base e size v n xs) (x : Ext w) : x.now.ownsRow base e size v n xs := by
  obtain ⟨h1, h2⟩ := h
  refine ⟨h1, ?_⟩
  rcases h2 with h2 | ⟨g, cap, cur, h3, h4, h5, h6⟩
  · exact .inl h2
  · exact .inr ⟨g, cap, cur, h3, h4, by rw [x.block _ (Array.getElem?_eq_some_iff.1 h5).1]; exact h5, h6⟩

theorem ownsRow_str {w : World} {base g n cap : Nat} {ds : List ByteArray} (h : w.ownsRow base 9 1 (.slice (some ⟨g, 0, none⟩) n cap) n (ds.map Value.string)) (hn : 0 < n) : StrRow w g ds := by
  obtain ⟨g2, cap2, he2, _, hgl, hcell⟩ := ownsRow_cell h hn
  cases he2
  have hl := h.1
  rw [List.length_map] at hl
  exact ⟨hgl, fun i hi => hcell i (by omega)⟩

def KeepBut (w w' : World) (g : Nat) : Prop := w.heap.size ≤ w'.heap.size ∧ ∀ b, b < w.heap.size → b ≠ g → w'.heap[b]? = w.heap[b]?
theorem KeepBut.of {w : World} (x : Ext w) (g : Nat) : KeepBut w x.now g := ⟨x.le, fun b hb _ => x.block b hb⟩
theorem KeepBut.then {w w1 : World} {g : Nat} (h : KeepBut w w1 g) (x : Ext w1) : KeepBut w x.now g :=
  ⟨Nat.le_trans h.1 x.le, fun b hb hg => (x.block b (by have := h.1; omega)).trans (h.2 b hb hg)⟩
theorem KeepBut.grown {w w1 : World} {g h : Nat} (x : Ext w) (hg : x.now.grownBy w1 (some h)) (hh : h = g ∨ w.heap.size ≤ h) : KeepBut w w1 g := by
  refine ⟨Nat.le_trans x.le hg.size, fun b hb hne => ?_⟩
  rw [hg.block b (Nat.lt_of_lt_of_le hb x.le) (fun e => by cases e; rcases hh with h | h <;> omega)]
  exact x.block b hb

def NormRes (o : Nat) (m : Int) (ws : List (List Nat)) (e : Ending) (w' : World) : Prop := ∃ g ds, e = .returned (.tuple #[.slice (some ⟨g, 0, none⟩) 6 6, .nilIface]) ∧ ds.length = 6 ∧ StrRow w' g ds ∧ ∀ j, j < 6 → nats (ds.getD j ByteArray.empty) = fullK o m ws j

structure CF (w : World) (H i : Nat) (F : Nat → List Nat) : Prop where
  lt : H < w.heap.size
  at_ : ∀ j, j < 6 → ∃ d, w.cell? ⟨H, j, none⟩ = some (.string d) ∧ nats d = if j < i then F j else defK j
  fz : ∀ j, j < 6 → w.frozen? ⟨H, j, none⟩ = false

theorem CF.ext {w : World} {H : Nat} {F0 : Nat → List Nat} (h : CF w H 0 F0) (x : Ext w) (F : Nat → List Nat) : CF x.now H 0 F :=
  ⟨x.lt _ h.lt, fun j hj => by rw [x.cell _ _ h.lt]; exact h.at_ j hj, fun j hj => by rw [x.frozen _ _ h.lt]; exact h.fz j hj⟩

theorem CF.skip {w : World} {H i : Nat} {F : Nat → List Nat} (h : CF w H i F) (hF : F i = defK i) : CF w H (i + 1) F := by
  refine ⟨h.lt, fun j hj => ?_, h.fz⟩
  obtain ⟨d, h1, h2⟩ := h.at_ j hj
  refine ⟨d, h1, ?_⟩
  by_cases e : j = i
  · subst e
    rw [h2, if_neg (Nat.lt_irrefl _), if_pos (Nat.lt_succ_self _), hF]
  · rw [h2]
    by_cases hlt : j < i
    · rw [if_pos hlt, if_pos (by omega)]
    · rw [if_neg hlt, if_neg (by omega)]

theorem CF.put {w : World} {H i : Nat} {F : Nat → List Nat} (h : CF w H i F) (hi : i < 6) (d : ByteArray) (hF : nats d = F i) : CF (w.setCell ⟨H, i, none⟩ (.string d)) H (i + 1) F := by
  obtain ⟨hlt, hat, hfz⟩ := h
  refine ⟨by simpa [World.setCell] using hlt, fun j hj => ?_, fun j hj => ?_⟩
  · obtain ⟨e, he, hf⟩ := hat j hj
    obtain ⟨e2, he2, _⟩ := hat i hi
    by_cases c : j = i
    · subst c
      exact ⟨d, by simp [go_sem, he2], by rw [if_pos (Nat.lt_succ_self _)]; exact hF⟩
    · refine ⟨e, by simp [go_sem, he, c], ?_⟩
      rw [hf]
      by_cases hl : j < i
      · rw [if_pos hl, if_pos (by omega)]
      · rw [if_neg hl, if_neg (by omega)]
  · have := hfz j hj
    simp [go_sem, this]

theorem copy_src {w : World} {gd : Nat} (h : StrRow w gd defsL) : ∀ j v, (defsL.map Value.string)[j]? = some v → w.cell? ((⟨gd, 0, none⟩ : Addr).add j) = some v := by
  intro j v hv
  have hj : j < 6 := by
    rcases Nat.lt_or_ge j 6 with h | h
    · exact h
    · rw [List.getElem?_eq_none (by simpa [defsL] using h)] at hv; cases hv
  have := h.at_ j hj
  rw [hv] at this
  by_cases h0 : j = 0
  · subst h0; simpa [Addr.add] using this
  · simpa [Addr.add, h0] using this

theorem copy_dst {w : World} {H : Nat} (h : Fill6 w H 0 defK) : (∀ j, j < (defsL.map Value.string).length → (w.cell? ⟨H, 0 + j, none⟩).isSome = true) ∧ ∀ j, j < (defsL.map Value.string).length → w.frozen? ⟨H, 0 + j, none⟩ = false := by
  refine ⟨fun j hj => ?_, fun j hj => ?_⟩
  · obtain ⟨d, hd, _⟩ := h.at_ j (by simpa [defsL] using hj)
    rw [Nat.zero_add, hd]
    rfl
  · rw [Nat.zero_add]
    exact h.fz j (by simpa [defsL] using hj)

theorem copy_out {w : World} {H : Nat} (x : Ext w) (hH : w.heap.size ≤ H) (h : Fill6 x.now H 0 defK) : ∃ y : Ext w, x.now.setCells H 0 (defsL.map Value.string) = y.now ∧ CF y.now H 0 defK := by
  obtain ⟨y, hy⟩ := Ext.rows H hH (defsL.map Value.string) 0 x
  refine ⟨y, hy, ?_⟩
  rw [← hy]
  refine ⟨by rw [setCells_lt]; exact h.lt, fun j hj => ?_, fun j hj => by rw [World.frozen?_setCells]; exact h.fz j hj⟩
  have h1 := World.cell?_setCells_in H (defsL.map Value.string) 0 x.now (fun j hj => (copy_dst h).1 j hj) j (by simpa [defsL] using hj)
  rw [Nat.zero_add] at h1
  rw [h1]
  rcases (show j = 0 ∨ j = 1 ∨ j = 2 ∨ j = 3 ∨ j = 4 ∨ j = 5 by omega) with rfl | rfl | rfl | rfl | rfl | rfl
  all_goals exact ⟨_, rfl, by rw [if_neg (Nat.not_lt_zero _)]; rfl⟩

attribute [local go_sem] mk6

set_option maxRecDepth 1000000 in
set_option maxHeartbeats 4000000 in
theorem norm_any {w0 : World} (x0 : Ext w0) {g cap : Nat} {dw : List ByteArray} (o : Nat) (ho : o < 512) (m : Int) (hrow : StrRow x0.now g dw) (hown : x0.now.ownsRow w0.heap.size 9 1 (.slice (some ⟨g, 0, none⟩) dw.length cap) dw.length (dw.map Value.string))
    (hlen : dw.length < 1000000000) (hpos : 0 < dw.length) (hno : ¬ (o.testBit 1 = true ∧ o.testBit 7 = true)) (hm : m = -1 ∨ (0 ≤ m ∧ m = missK o)) (hcnt : dw.length = cntU o m 6) :
    Calls Tryz.prog 48 #[.slice (some ⟨g, 0, none⟩) dw.length cap, .int .i64 o] x0.now fun e w' => NormRes o m (dw.map nats) e w' ∧ KeepBut x0.now w' g ∧ ∃ y : Ext w0, w' = y.now := by
  have hx0l := x0.le
  obtain ⟨w, hw⟩ : ∃ w, w = x0.now := ⟨_, rfl⟩
  rw [← hw] at hrow hown hx0l ⊢
  have HX0 := Lib.hid hw
  have HOWN := Lib.hid hown
  have HROW := Lib.hid hrow
  have HM := Lib.hid hm
  clear hw hown hrow hm
  have HCNT := Lib.hid hcnt
  clear hcnt
  have hfa := o2_facts ⟨o, ho⟩
  simp only at hfa
  obtain ⟨f1, f2, f3, f4, f5, f6, f7⟩ := hfa
  have HF7 := Lib.hid f7
  have hpl := Lib.hid (fun (W : World) => places_any W)
  have hdf := Lib.hid (fun (W : World) => defaults_any W)
  have e1 : decide (0 < bits .and .i64 (o : Int) 2) = o.testBit 1 := by
    rw [← f1, show (2 : Int) = ((2 : Nat) : Int) from rfl, and_nat o 2 ho (by decide)]; exact decide_eq_decide.2 (by omega)
  have e2 : decide (0 < bits .and .i64 ((o2A o : Nat) : Int) 128) = o.testBit 7 := by
    rw [← f2, show (128 : Int) = ((128 : Nat) : Int) from rfl, and_nat _ 128 f5 (by decide)]; exact decide_eq_decide.2 (by omega)
  have e3 : decide (0 < bits .and .i64 ((o2 o : Nat) : Int) 128) = o.testBit 7 := by
    rw [← f3, show (128 : Int) = ((128 : Nat) : Int) from rfl, and_nat _ 128 f6 (by decide)]; exact decide_eq_decide.2 (by omega)
  have e4 : decide (0 < bits .and .i64 ((o2 o : Nat) : Int) 2) = o.testBit 1 := by
    rw [← f4, show (2 : Int) = ((2 : Nat) : Int) from rfl, and_nat _ 2 f6 (by decide)]; exact decide_eq_decide.2 (by omega)
  have E3 := Lib.hid e3
  have E4 := Lib.hid e4
  have HOR1 := Lib.hid (show bits .or .i64 (o : Int) 1 = ((o ||| 1 : Nat) : Int) from or_nat o 1 ho (by decide))
  have HOR2 := Lib.hid (show bits .or .i64 ((o2A o : Nat) : Int) 64 = ((o2A o ||| 64 : Nat) : Int) from or_nat _ 64 f5 (by decide))
  clear f1 f2 f3 f4 f7 e3 e4
  obtain ⟨b1, hb1⟩ : ∃ b, b = o.testBit 1 := ⟨_, rfl⟩
  obtain ⟨b7, hb7⟩ : ∃ b, b = o.testBit 7 := ⟨_, rfl⟩
  rw [← hb1] at e1 E4 hno
  rw [← hb7] at e2 E3 hno
  have HB := Lib.hid (show b1 = o.testBit 1 ∧ b7 = o.testBit 7 from ⟨hb1, hb7⟩)
  have HNO := Lib.hid hno
  clear hb1 hb7 hno
  go_enter Tryz.func48, Tryz.ntmps48
  go_upto_if 18 with fail
  go_cut [1, 6] (fun t1 t6 wr => t1 = .int .i64 (o2A o : Nat) ∧ t6 = .int .i64 (if b1 then 1 else 0 : Nat) ∧ wr = w)
  case first =>
    cases b1
    · go_wp2_with fail
      go_meet
      case rel => exact ⟨by unfold o2A; rw [if_neg (by rw [← HB.out.1]; decide)], rfl, rfl⟩
    · have h9 := HOR1.out
      go_wp2_with fail
      go_meet
      case rel => exact ⟨by unfold o2A; rw [if_pos HB.out.1.symm], rfl, rfl⟩
  case rest =>
    obtain ⟨rfl, rfl, hwc⟩ := hcut
    subst wc
    clear e1
    obtain ⟨oA, hoA⟩ : ∃ q, q = o2A o := ⟨_, rfl⟩
    rw [← hoA] at e2 HOR2 ⊢
    have HOA := Lib.hid hoA
    clear hoA f5
    go_upto_if 25 with fail
    go_cut [1, 6] (fun t1 t6 wr => t1 = .int .i64 (o2 o : Nat) ∧ t6 = .int .i64 ((if b1 then 1 else 0) + (if b7 then 1 else 0) : Nat) ∧ wr = w)
    case first =>
      cases b7
      · cases b1
        · go_wp2_with fail
          go_meet
          case rel => exact ⟨by unfold o2; rw [if_neg (by rw [← HB.out.2]; decide), HOA.out], rfl, rfl⟩
        · go_wp2_with fail
          go_meet
          case rel => exact ⟨by unfold o2; rw [if_neg (by rw [← HB.out.2]; decide), HOA.out], rfl, rfl⟩
      · have h9 := HOR2.out
        cases b1
        · go_wp2_with fail
          go_meet
          case rel => exact ⟨by unfold o2; rw [if_pos HB.out.2.symm, ← HOA.out], rfl, rfl⟩
        · exact absurd ⟨rfl, rfl⟩ HNO.out
    case rest =>
      obtain ⟨rfl, rfl, hwc⟩ := hcut
      subst wc
      obtain ⟨op, hop⟩ : ∃ q, q = ((if b1 then 1 else 0) + (if b7 then 1 else 0) : Nat) := ⟨_, rfl⟩
      rw [← hop]
      have HOP := Lib.hid (show (op = 0 ∧ b1 = false ∧ b7 = false) ∨ (op = 1 ∧ b1 = true ∧ b7 = false) ∨ (op = 1 ∧ b1 = false ∧ b7 = true) from by
        have := HNO.out
        cases b1 <;> cases b7
        · exact .inl ⟨hop, rfl, rfl⟩
        · exact .inr (.inr ⟨hop, rfl, rfl⟩)
        · exact .inr (.inl ⟨hop, rfl, rfl⟩)
        · exact absurd ⟨rfl, rfl⟩ this)
      have hop1 : op ≤ 1 := by rcases HOP.out with h | h | h <;> omega
      have hop2 : ¬ (1 : Int) < (op : Int) := by omega
      clear hop e2
      obtain ⟨oB, hoB⟩ : ∃ q, q = o2 o := ⟨_, rfl⟩
      have HAND := Lib.hid (fun (k : Nat) (hk : k < 6) => (show decide (0 < bits .and .i64 (oB : Int) ((plK k : Nat) : Int)) = takesK o k from by
        have h9 := HF7.out ⟨k, hk⟩
        simp only at h9
        rw [hoB, ← h9, and_nat _ _ f6 (by unfold plK; repeat (split <;> try omega))]
        exact decide_eq_decide.2 (by omega)))
      rw [← hoB] at E3 E4 ⊢
      clear hoB f6
      go_upto_block 0 with (go_at_call 78; (with_reducible refine (hpl.out _).mono ?_); rintro e9 w9 ⟨⟨gp, rfl, hgp, hcp⟩, y1, rfl⟩; have HCP := Lib.hid hcp; clear hcp)
      go_cut [7] (fun t7 wr => t7 = .int .i64 (cntK o 6 : Nat) ∧ wr = y1.now)
      case first =>
        go_wp2_with fail
        go_loopw [7, 35] (fun t7 t35 wr => ∃ i : Nat, t35 = .int .i64 i ∧ t7 = .int .i64 (cntK o i : Nat) ∧ i ≤ 6 ∧ cntK o i ≤ i ∧ wr = y1.now) (fun _ t _ => 6 - (intOf t).toNat)
        case atStart => exact ⟨0, rfl, rfl, by decide, Nat.le_refl _, rfl⟩
        case round =>
          obtain ⟨i, rfl, rfl, hi, hci, rfl⟩ := hrel
          by_cases hlt : i < 6
          · have hlt' : (i : Int) < 6 := by omega
            have hcell := HCP.out i hlt
            have hand := HAND.out i hlt
            have HC := Lib.hid (show cntK o (i + 1) = cntK o i + if takesK o i then 1 else 0 from rfl)
            generalize cntK o i = cc at *
            generalize plK i = pp at *
            cases htk : takesK o i with
            | true =>
              rw [htk] at hand
              have HTK := Lib.hid htk
              clear htk
              go_wp2_with fail
              exact ⟨⟨i + 1, by simp, by rw [HC.out, if_pos HTK.out]; simp, by omega, by rw [HC.out, if_pos HTK.out]; omega, trivial⟩, by simp [intOf]; omega⟩
            | false =>
              rw [htk] at hand
              have HTK := Lib.hid htk
              clear htk
              go_wp2_with fail
              exact ⟨⟨i + 1, by simp, by rw [HC.out, if_neg (by rw [HTK.out]; decide)]; simp, by omega, by rw [HC.out, if_neg (by rw [HTK.out]; decide)]; omega, trivial⟩, by simp [intOf]; omega⟩
          · have hlt' : ¬ (i : Int) < 6 := by omega
            obtain rfl : i = 6 := by omega
            go_wp2_with fail
            go_meet
            case rel => exact ⟨rfl, rfl⟩
      case rest =>
        obtain ⟨rfl, hwc⟩ := hcut
        subst wc
        have hca := (cnt_all ⟨o, ho⟩)
        simp only at hca
        obtain ⟨hca1, hca2, hca3⟩ := hca
        have hmcase : (m = -1 ∧ dw.length = cntK o 6) ∨ (0 ≤ m ∧ m = missK o ∧ dw.length + 1 = cntK o 6 ∧ op = 1) := by
          rcases HM.out with h | ⟨h1, h2⟩
          · refine .inl ⟨h, ?_⟩
            rw [HCNT.out, h]
            exact hca1
          · refine .inr ⟨h1, h2, ?_, ?_⟩
            · rw [HCNT.out, h2]
              exact hca2 (by omega)
            · rcases HOP.out with ⟨h3, h4, h5⟩ | ⟨h3, _⟩ | ⟨h3, _⟩
              · rw [h2] at h1
                unfold missK at h1
                rw [← HB.out.1, ← HB.out.2, h4, h5] at h1
                simp at h1
              · exact h3
              · exact h3
        have HMC := Lib.hid hmcase
        have c1 : ¬ (dw.length : Int) < ((cntK o 6 : Nat) : Int) - (op : Int) := by rcases hmcase with h | h <;> omega
        have c2 : ¬ ((cntK o 6 : Nat) : Int) < (dw.length : Int) := by rcases hmcase with h | h <;> omega
        have hcK : ((cntK o 6 : Nat) : Int) ≤ 6 := by omega
        obtain ⟨cK, hcKe⟩ : ∃ q, q = cntK o 6 := ⟨_, rfl⟩
        rw [← hcKe] at c1 c2 hcK HMC ⊢
        have HCK := Lib.hid hcKe
        clear hmcase hca1 hca2 hca3 hcKe
        go_upto_region 23 with fail
        go_cut [72] (fun t72 wr => ∃ ad : Bool, t72 = .bool ad ∧ (ad = true → 0 ≤ m) ∧ (ad = false → m = -1) ∧ wr = y1.now)
        case first =>
          rcases HMC.out with ⟨h1, h2⟩ | ⟨h1, h2, h3, h4⟩
          · have HM1 := Lib.hid h1
            clear h1
            by_cases hop0 : op = 0
            · have d1 : ¬ (cK : Int) - (op : Int) < (cK : Int) := by omega
              clear hop0 h2
              go_wp2_with fail
              go_meet
              case rel => exact ⟨false, rfl, fun h => Bool.noConfusion h, fun _ => HM1.out, rfl⟩
            · have d1 : (cK : Int) - (op : Int) < (cK : Int) := by omega
              have d2 : ((dw.length : Int) == (cK : Int) - (op : Int)) = false := beq_eq_false_iff_ne.2 (by omega)
              clear hop0 h2
              go_wp2_with fail
              go_meet
              case rel => exact ⟨false, rfl, fun h => Bool.noConfusion h, fun _ => HM1.out, rfl⟩
          · have HM1 := Lib.hid h1
            have d1 : (cK : Int) - (op : Int) < (cK : Int) := by omega
            have d2 : ((dw.length : Int) == (cK : Int) - (op : Int)) = true := beq_iff_eq.2 (by omega)
            clear h1 h2 h3 h4
            go_wp2_with fail
            go_meet
            case rel => exact ⟨true, rfl, fun _ => HM1.out, fun h => Bool.noConfusion h, rfl⟩
        case rest =>
          obtain ⟨ad, rfl, had1, had2, hwc⟩ := hcut
          subst wc
          have HAD1 := Lib.hid had1
          have HAD2 := Lib.hid had2
          clear had1 had2
          have e3 := E3.out
          have e4 := E4.out
          go_upto_if 72 with fail
          go_cut [0] (fun t0 wr => ∃ g2 cap2 fs, t0 = .slice (some ⟨g2, 0, none⟩) cK cap2 ∧ List.length fs = cK ∧ StrRow wr g2 fs ∧ (∀ j, j < 6 → takesK o j = true → cntK o j < cK ∧ nats (fs.getD (cntK o j) ByteArray.empty) = fullK o m (dw.map nats) j) ∧ KeepBut w wr g ∧ ∃ q : Ext w0, wr = q.now)
          case first =>
            cases ad with
            | false =>
              have hm1 := HAD2.out (by trivial)
              have HM1 := Lib.hid hm1
              have hl9 : dw.length = cK := by rcases HMC.out with ⟨_, h⟩ | ⟨h, _⟩ <;> omega
              have HL9 := Lib.hid hl9
              clear hm1 hl9
              go_wp2_with fail
              go_meet
              case rel =>
                refine ⟨g, cap, dw, by rw [HL9.out], HL9.out, HROW.out.ext y1, fun j hj ht => ?_, ?_⟩
                · rw [HM1.out, HCK.out]
                  exact full_none j hj ht
                · have h8 := HX0.out
                  subst h8
                  exact ⟨KeepBut.of y1 g, x0.trans y1, rfl⟩
            | true =>
              have hm0 := HAD1.out (by trivial)
              obtain ⟨hmm, hl9⟩ : m = missK o ∧ dw.length + 1 = cK := by
                rcases HMC.out with ⟨h, _⟩ | ⟨_, h2, h3, _⟩
                · omega
                · exact ⟨h2, h3⟩
              have HL9 := Lib.hid hl9
              cases b7 with
              | true =>
                have hb1f : b1 = false := by cases b1 with | false => rfl | true => exact absurd ⟨rfl, rfl⟩ HNO.out
                have HM5 := Lib.hid (show m = 5 from by
                  rw [hmm]
                  unfold missK
                  rw [← HB.out.1, ← HB.out.2, hb1f]
                  rfl)
                clear hm0 hmm hl9 hb1f
                go_wp2_with (first
                  | (go_at_call 79; (with_reducible refine (hdf.out _).mono ?_); rintro e9 w9 ⟨⟨gd, rfl, hrd⟩, y2, rfl⟩; have hcd : y2.now.cell? ⟨gd, 5, none⟩ = some (.string ⟨#[42]⟩) := hrd.get 5 (by decide); have hgl := hrd.lt; have hyl := y2.le; have hyl1 := y1.le)
                  | (at_builtin; refine str_append _ rfl _ _ rfl w0.heap.size dw.length (.slice (some ⟨g, 0, none⟩) dw.length cap) (dw.map Value.string) rfl ((ownsRow_ext (ownsRow_ext HOWN.out y1) y2).alloc _) ⟨y2.now.heap.size, 0, none⟩ 1 ⟨#[42]⟩ rfl (by simp) (by omega) (by simp; omega) ?_))
                intro g9 cap9 w5 hov hgv
                have HOV := Lib.hid hov
                have HGV := Lib.hid hgv
                clear hov hgv
                go_wp2_with fail
                go_meet
                case rel =>
                  have hov2 : w5.ownsRow w0.heap.size 9 1 (.slice (some ⟨g9, 0, none⟩) (dw.length + 1) cap9) (dw.length + 1) ((dw ++ [(⟨#[42]⟩ : ByteArray)]).map Value.string) := by rw [List.map_append, List.map_singleton]; exact HOV.out
                  refine ⟨g9, cap9, dw ++ [(⟨#[42]⟩ : ByteArray)], by rw [← HL9.out], by rw [← HL9.out]; simp, ownsRow_str hov2 (by omega), fun j hj ht => ?_, ?_⟩
                  · rw [HM5.out, HCK.out]
                    exact full_five (by rw [← HCK.out]; exact HL9.out) (by rw [← HM5.out]; exact HCNT.out) j hj ht
                  · have h8 := HX0.out
                    subst h8
                    refine ⟨KeepBut.grown (h := g) ((y1.trans y2).trans (Ext.one _ _)) HGV.out (.inl rfl), ?_⟩
                    exact Ext.grown (((x0.trans y1).trans y2).trans (Ext.one _ _)) rfl ((ownsRow_ext (ownsRow_ext HOWN.out y1) y2).alloc _) HGV.out
              | false =>
                have hb1t : b1 = true := by
                  rcases HOP.out with ⟨h1, h2, h3⟩ | ⟨_, h2, _⟩ | ⟨_, _, h3⟩
                  · rw [hmm] at hm0
                    unfold missK at hm0
                    rw [← HB.out.1, ← HB.out.2, h2] at hm0
                    simp at hm0
                  · exact h2
                  · cases h3
                have HM5 := Lib.hid (show m = 0 from by
                  rw [hmm]
                  unfold missK
                  rw [← HB.out.1, hb1t]
                  rfl)
                have HT0 := Lib.hid (show takesK o 0 = true from by
                  show (o.testBit 0 || o.testBit 1) = true
                  rw [← HB.out.1, hb1t, Bool.or_true])
                subst hb1t
                clear hm0 hmm hl9
                go_wp2_with (first
                  | (go_at_call 79; (with_reducible refine (hdf.out _).mono ?_); rintro e9 w9 ⟨⟨gd, rfl, hrd⟩, y2, rfl⟩; have hcd : y2.now.cell? ⟨gd, 0, none⟩ = some (.string ⟨#[48]⟩) := hrd.get 0 (by decide); have hgl := hrd.lt; have hyl := y2.le; have hyl1 := y1.le)
                  | (at_builtin; refine str_appends _ rfl _ _ rfl w0.heap.size 1 (.slice (some ⟨y2.now.heap.size, 0, none⟩) 1 1) [.string ⟨#[48]⟩] rfl (World.ownsRow_lit (size := 1) y2.now #[.string ⟨#[48]⟩] 1 (by omega) (by decide) rfl) g cap dw rfl hpos (((HROW.out.ext y1).ext y2).ext (Ext.one _ _)) (by omega) (by simp; omega) ?_))
                intro g9 cap9 w5 hov hgv
                have HOV := Lib.hid hov
                have HGV := Lib.hid hgv
                clear hov hgv
                go_wp2_with fail
                go_meet
                case rel =>
                  have hov2 : w5.ownsRow w0.heap.size 9 1 (.slice (some ⟨g9, 0, none⟩) (1 + dw.length) cap9) (1 + dw.length) (((⟨#[48]⟩ : ByteArray) :: dw).map Value.string) := HOV.out
                  refine ⟨g9, cap9, (⟨#[48]⟩ : ByteArray) :: dw, by rw [← HL9.out, Nat.add_comm], by rw [← HL9.out]; rfl, ownsRow_str hov2 (by omega), fun j hj ht => ?_, ?_⟩
                  · rw [HM5.out, HCK.out]
                    exact full_zero HT0.out j hj ht
                  · have h8 := HX0.out
                    subst h8
                    refine ⟨KeepBut.grown (h := y2.now.heap.size) ((y1.trans y2).trans (Ext.one _ _)) HGV.out (.inr (y1.trans y2).le), ?_⟩
                    exact Ext.grown (((x0.trans y1).trans y2).trans (Ext.one _ _)) rfl (World.ownsRow_lit (size := 1) y2.now #[.string ⟨#[48]⟩] 1 (by omega) (by decide) rfl) HGV.out
          case rest =>
            obtain ⟨g2, cap2, fs, rfl, hfl, hrow2, hfs, hkb, q, rfl⟩ := hcut
            have HKB := Lib.hid hkb
            clear hkb
            have HFS := Lib.hid hfs
            have hlg2 := hrow2.lt
            have HR2 := Lib.hid hrow2
            clear hfs hrow2
            go_upto_region 31 with (go_at_call 78; (with_reducible refine (hpl.out _).mono ?_); rintro e9 w9 ⟨⟨gp2, rfl, hgp2, hcp2⟩, y3, rfl⟩; clear hcp2)
            have F0 := Fill6.first y3.now defK
            have hHge : q.now.heap.size ≤ y3.now.heap.size := y3.le
            obtain ⟨W3, hW3⟩ : ∃ W3 : Ext q.now, y3.now.alloc (.cells #[.string ⟨#[]⟩, .string ⟨#[]⟩, .string ⟨#[]⟩, .string ⟨#[]⟩, .string ⟨#[]⟩, .string ⟨#[]⟩] 9) = W3.now := ⟨y3.trans (Ext.one _ _), rfl⟩
            rw [hW3] at F0 ⊢
            clear hW3
            generalize y3.now.heap.size = H at *
            have HF0 := Lib.hid F0
            clear F0
            go_upto_region 32 with (first
              | (go_at_call 79; (with_reducible refine (hdf.out _).mono ?_); rintro e9 w9 ⟨⟨gd, rfl, hrd⟩, y4, rfl⟩; have hcopy := run_copy_cells (P := Tryz.prog) y4.now 85 85 3 9 H 0 6 6 ⟨gd, 0, none⟩ 6 6 (defsL.map Value.string) (by kernel_rfl) (by kernel_rfl) rfl (copy_src hrd) (copy_dst (HF0.out.ext y4)).1 (copy_dst (HF0.out.ext y4)).2 (by intro v hv; obtain ⟨d, _, rfl⟩ := List.mem_map.1 hv; rfl); obtain ⟨y5, hy5, hcf⟩ := copy_out (W3.trans y4) hHge (HF0.out.ext y4); have hy6 : y4.now.setCells H 0 (defsL.map Value.string) = y5.now := hy5; rw [hy6] at hcopy; clear hy6; have HCF := Lib.hid hcf; clear hcf hy5))
            go_upto_block 3 with (go_at_call 78; (with_reducible refine (hpl.out _).mono ?_); rintro e9 w9 ⟨⟨gp3, rfl, hgp3, hcp3⟩, y6, rfl⟩; have HCP3 := Lib.hid hcp3; clear hcp3)
            have HCF6 := Lib.hid (HCF.out.ext y6 (fullK o m (dw.map nats)))
            have HR6 := Lib.hid ((HR2.out.ext y5).ext y6)
            have hH6 := (HCF.out.ext y6 (fullK o m (dw.map nats))).lt
            obtain ⟨y7, hy7⟩ : ∃ y7 : Ext q.now, y6.now = y7.now := ⟨y5.trans y6, rfl⟩
            have HY7 := Lib.hid hy7
            have HNE := Lib.hid (show g2 ≠ H ∧ gp3 ≠ H from by
              refine ⟨by omega, fun e => ?_⟩
              obtain ⟨d, h8, _⟩ := HCF6.out.at_ 0 (by decide)
              have h9 := HCP3.out 0 (by decide)
              rw [e, h8] at h9
              cases h9)
            clear hy7
            generalize y6.now = w6 at *
            go_wp2_with fail
            go_loopw [12, 102] (fun t12 t102 wr => ∃ i : Nat, t102 = .int .i64 i ∧ t12 = .int .i64 (cntK o i : Nat) ∧ i ≤ 6 ∧ CF wr H i (fullK o m (dw.map nats)) ∧ (∀ b j, b ≠ H → wr.cell? ⟨b, j, none⟩ = w6.cell? ⟨b, j, none⟩) ∧ ∃ x : Ext q.now, wr = x.now) (fun _ t _ => 6 - (intOf t).toNat)
            case atStart => exact ⟨0, rfl, rfl, by decide, HCF6.out, fun _ _ _ => rfl, y7, HY7.out⟩
            case round =>
              obtain ⟨i, rfl, rfl, hi, hcf, hoth, x, rfl⟩ := hrel
              have HC6 := Lib.hid hcf
              have HOTH := Lib.hid hoth
              clear hcf hoth
              by_cases hlt : i < 6
              · have hlt' : (i : Int) < 6 := by omega
                have hcell : x.now.cell? ⟨gp3, i, none⟩ = some (.int .i64 ((plK i : Nat) : Int)) := by
                  rw [HOTH.out gp3 i HNE.out.2]
                  exact HCP3.out i hlt
                have hand := HAND.out i hlt
                have HC := Lib.hid (show cntK o (i + 1) = cntK o i + if takesK o i then 1 else 0 from rfl)
                have HFI := Lib.hid (HFS.out i hlt)
                obtain ⟨d0, hd0, _⟩ := HC6.out.at_ i hlt
                have hfz := HC6.out.fz i hlt
                cases htk : takesK o i with
                | true =>
                  rw [htk] at hand
                  obtain ⟨hlc, hfull⟩ := HFI.out htk
                  have hlc' : ((cntK o i : Nat) : Int) < (cK : Int) := by omega
                  have hcf2 : x.now.cell? ⟨g2, cntK o i, none⟩ = some (.string (fs.getD (cntK o i) ByteArray.empty)) := by
                    rw [HOTH.out g2 _ HNE.out.1]
                    exact HR6.out.get _ (by rw [hfl]; exact hlc)
                  have HP6 := Lib.hid (HC6.out.put hlt (fs.getD (cntK o i) ByteArray.empty) hfull)
                  have HTK := Lib.hid htk
                  generalize fs.getD (cntK o i) ByteArray.empty = dd at *
                  have hcl : cntK o i ≤ 6 := by omega
                  clear htk hlc hfull
                  generalize cntK o i = cc at *
                  generalize plK i = pp at *
                  go_wp2_with fail
                  refine ⟨⟨i + 1, by simp, by rw [HC.out, if_pos HTK.out]; simp, by omega, HP6.out, fun b j hb => ?_, Ext.of (x.below.setCell (p := ⟨H, i, none⟩) hHge _)⟩, by simp [intOf]; omega⟩
                  rw [World.cell?_setCell_other _ _ _ _ (fun e => hb (by cases e; rfl))]
                  exact HOTH.out b j hb
                | false =>
                  rw [htk] at hand
                  have HS6 := Lib.hid (HC6.out.skip (show fullK o m (dw.map nats) i = defK i from by
                    unfold fullK usedK
                    rw [htk, Bool.false_and, if_neg (by decide)]))
                  have HTK := Lib.hid htk
                  clear htk
                  generalize cntK o i = cc at *
                  generalize plK i = pp at *
                  go_wp2_with fail
                  exact ⟨⟨i + 1, by simp, by rw [HC.out, if_neg (by rw [HTK.out]; decide)]; simp, by omega, HS6.out, HOTH.out, x, rfl⟩, by simp [intOf]; omega⟩
              · have hlt' : ¬ (i : Int) < 6 := by omega
                obtain rfl : i = 6 := by omega
                go_wp2_with fail
                go_ret2
                obtain ⟨es, he1, he2, he3⟩ := StrRow.of6 (F := fullK o m (dw.map nats)) HC6.out.lt (fun j hj => by obtain ⟨d, a, b⟩ := HC6.out.at_ j hj; exact ⟨d, a, by rw [b, if_pos hj]⟩)
                exact ⟨⟨H, es, rfl, he1, he2, he3⟩, by have h8 := HX0.out; subst h8; exact HKB.out.then x, q.trans x, rfl⟩

end Go.Proofs.YtopcjlimjkfoiaaGreatDoor
namespace Go.Proofs.YtopcjlimjkfoiaaGreatDoor
open Go.RowKit
attribute [local go_sem] Ext.cell Ext.frozen Ext.lt Ext.lt_add Ext.cell2 Ext.frozen2

theorem setCell_as {w : World} {E o : Nat} {v : Value} (h : w.cell? ⟨E, o, none⟩ = some v) : w.setCell ⟨E, o, none⟩ v = w := by
  have he : (w.setCell ⟨E, o, none⟩ v).heap = w.heap := by
    unfold World.cell? at h
    unfold World.setCell
    apply Array.ext_getElem?
    intro i
    simp only [Array.getElem?_modify]
    by_cases hi : E = i
    · subst hi
      rw [if_pos rfl]
      cases hb : w.heap[E]? with
      | none => rfl
      | some ob =>
        cases ob with
        | cells c t f =>
          simp [hb] at h
          simp
          apply Array.ext_getElem?
          intro j
          by_cases hj : o = j
          · subst hj
            obtain ⟨hlt, _⟩ := Array.getElem?_eq_some_iff.1 h
            rw [Array.getElem?_setIfInBounds_self_of_lt hlt, h]
          · rw [Array.getElem?_setIfInBounds_ne hj]
        | _ => simp [hb] at h
    · rw [if_neg hi]
  show ({ w with heap := (w.setCell ⟨E, o, none⟩ v).heap } : World) = w
  rw [he]

theorem getField_l (k lo hi : Nat) (hk : k < 6) (hlo : lo < 60) (hhi : hi < 60) (l : List Nat) (hl : l.length < 1000000000) (ha : foreign l = false) (h : FieldFine k lo hi l) :
    ∃ v : Nat, v < 18446744073709551616 ∧ ∀ s : ByteArray, nats s = l → ∀ (w : World) (r : Option Nat), MapsTo w k r →
      Calls Tryz.prog 50 #[.string s, .agg #[.int .u64 lo, .int .u64 hi, .map r]] w fun e w' => e = .returned (.tuple #[.int .u64 v, .nilIface]) ∧ ∃ y : Ext w, w' = y.now := by
  by_cases hs : ∃ s0, nats s0 = l
  · obtain ⟨s0, rfl⟩ := hs
    rw [nats_length] at hl
    obtain ⟨v, hv, hc⟩ := getField_any k lo hi hk hlo hhi s0 hl ha h
    refine ⟨v, hv, fun s e => ?_⟩
    rw [nats_inj e]
    exact hc
  · exact ⟨0, by decide, fun s e => absurd ⟨s, e⟩ hs⟩

theorem closure_any {lo hi v E : Nat} {s : ByteArray} {r : Option Nat} {w : World} (hE : w.cell? ⟨E, 0, none⟩ = some .nilIface) (hf : w.frozen? ⟨E, 0, none⟩ = false) (hl : E < w.heap.size)
    (hc : ∀ x : Ext w, Calls Tryz.prog 50 #[.string s, .agg #[.int .u64 lo, .int .u64 hi, .map r]] x.now fun e w' => e = .returned (.tuple #[.int .u64 v, .nilIface]) ∧ ∃ y : Ext x.now, w' = y.now) :
    Calls Tryz.prog 49 #[.string s, .agg #[.int .u64 lo, .int .u64 hi, .map r], .pointer (some ⟨E, 0, none⟩)] w fun e w' => e = .returned (.int .u64 v) ∧ ∃ y : Ext w, w' = y.now := by
  have hgf := Lib.hid (hc (Ext.one w (.cells #[.int .u64 lo, .int .u64 hi, .map r] 109)))
  have hE1 : (w.alloc (.cells #[.int .u64 lo, .int .u64 hi, .map r] 109)).cell? ⟨E, 0, none⟩ = some .nilIface := (Ext.cell (Ext.one w _) _ _ hl).trans hE
  have HE9 := Lib.hid (fun (y : Ext (w.alloc (.cells #[.int .u64 lo, .int .u64 hi, .map r] 109))) => (show y.now.cell? ⟨E, 0, none⟩ = some .nilIface ∧ y.now.frozen? ⟨E, 0, none⟩ = false from by
    have hl1 : E < (w.alloc (.cells #[.int .u64 lo, .int .u64 hi, .map r] 109)).heap.size := Ext.lt (Ext.one w _) _ hl
    exact ⟨(y.cell _ _ hl1).trans hE1, (y.frozen _ _ hl1).trans ((Ext.frozen (Ext.one w _) _ _ hl).trans hf)⟩))
  clear hc
  go_enter Tryz.func49, Tryz.ntmps49
  go_wp2_with (go_at_call 50; (refine (hgf.out).mono ?_); rintro e9 w9 ⟨rfl, y9, rfl⟩; have hE9 := (HE9.out y9).1; have hf9 := (HE9.out y9).2; have hs9 := setCell_as hE9)
  go_ret
  exact ⟨rfl, (Ext.one _ _).trans y9, by first | rfl | assumption | (rw [hs9]; rfl)⟩

end Go.Proofs.YtopcjlimjkfoiaaGreatDoor
