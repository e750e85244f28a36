/-
FnRefNormalSelf: the regular expressions, the digest and the reference, part 25 of 26.
-/
import Derived.Test.YtkbmigfkclnlaaaGreatDoorV24
import Derived.Handy
import Derived.Stop.Asserts
import Derived.Laws.RangeAny
import Derived.Lib.OthersKept
import Derived.Lib.AppendStr
set_option linter.all false
namespace Go.Proofs.YtkbmigfkclnlaaaGreatDoor
open Go.RowKit Go.Rx
attribute [local go_sem] Ext.cell Ext.frozen Ext.lt Ext.lt_add Ext.cell2 Ext.frozen2

theorem NG.lt {n d p : ByteArray} (h : NG n d p) : ∀ x ∈ nats n, x < 128 := nameL_lt h.name

theorem NG.caps {n d p : ByteArray} (h : NG n d p) : ∃ r, Env.res (envAt (progOf nameList) n (rankOf nameRanks) 6) 1 0 (cap0 6) = some r ∧
  (List.range 3).map (fun i => Value.string (subOf n r i)) = [.string n, .string d, .string p] ∧
  ∀ i, i ≤ 2 → r.getD (2 * i) (-1) = -1 ∨ (0 ≤ r.getD (2 * i) (-1) ∧ r.getD (2 * i) (-1) ≤ r.getD (2 * i + 1) 0 ∧ r.getD (2 * i + 1) 0 ≤ n.size) := by
 have hpl := plain_nats h.lt
 have hall : n.extract 0 n.size = n := extract_is (by rw [List.drop_zero, ← nats_length, List.take_length])
 rcases h with ⟨h1, h2, h3⟩ | ⟨rfl, rfl, h3, h4⟩
 ·have hl : n.size = (nats d).length + 1 + (nats p).length := by
   rw [← nats_length n, h1]
   simp
   omega
  have hd : n.extract 0 (nats d).length = d := extract_is (by rw [List.drop_zero, h1]; simp)
  have hp : n.extract ((nats d).length + 1) n.size = p := by
   refine extract_is ?_
   rw [← nats_length, List.take_length, h1, show nats d ++ 47 :: nats p = (nats d ++ [47]) ++ nats p by simp, List.drop_left' (by simp)]
  refine ⟨_, name_res_dom (table_ok name_fit n hpl name_top) takes_at widths_at (over_at name_fit hpl name_top) (nats_plain hpl) (name_at n _ _) h1 h2 h3, ?_, ?_⟩
  ·rw [nats_length]
   show [Value.string (subOf n _ 0), Value.string (subOf n _ 1), Value.string (subOf n _ 2)] = _
   have e0 : subOf n [0, (n.size : Int), 0, ((nats d).length : Int), ((nats d).length : Int) + 1, (n.size : Int)] 0 = n := by
    have : subOf n [0, (n.size : Int), 0, ((nats d).length : Int), ((nats d).length : Int) + 1, (n.size : Int)] 0 = n.extract 0 n.size := by simp [subOf]
    rw [this, hall]
   have e1 : subOf n [0, (n.size : Int), 0, ((nats d).length : Int), ((nats d).length : Int) + 1, (n.size : Int)] 1 = d := by
    have : subOf n [0, (n.size : Int), 0, ((nats d).length : Int), ((nats d).length : Int) + 1, (n.size : Int)] 1 = n.extract 0 (nats d).length := by simp [subOf]
    rw [this, hd]
   have e2 : subOf n [0, (n.size : Int), 0, ((nats d).length : Int), ((nats d).length : Int) + 1, (n.size : Int)] 2 = p := by
    have : subOf n [0, (n.size : Int), 0, ((nats d).length : Int), ((nats d).length : Int) + 1, (n.size : Int)] 2 = n.extract ((nats d).length + 1) n.size := by
     simp [subOf]
     omega
    rw [this, hp]
   rw [e0, e1, e2]
  ·intro i hi
   rw [nats_length, hl]
   match i, hi with
   | 0, _ => exact .inr (by simp; omega)
   | 1, _ => exact .inr (by simp; omega)
   | 2, _ => exact .inr (by simp; omega)
 ·refine ⟨_, name_res_path (table_ok name_fit p hpl name_top) takes_at widths_at (over_at name_fit hpl name_top) (nats_plain hpl) (name_at p _ _) h3 h4, ?_, ?_⟩
  ·rw [nats_length]
   show [Value.string (subOf p _ 0), Value.string (subOf p _ 1), Value.string (subOf p _ 2)] = _
   have e0 : subOf p [0, (p.size : Int), -1, -1, 0, (p.size : Int)] 0 = p := by
    have : subOf p [0, (p.size : Int), -1, -1, 0, (p.size : Int)] 0 = p.extract 0 p.size := by simp [subOf]
    rw [this, hall]
   have e1 : subOf p [0, (p.size : Int), -1, -1, 0, (p.size : Int)] 1 = ByteArray.empty := by simp [subOf]
   have e2 : subOf p [0, (p.size : Int), -1, -1, 0, (p.size : Int)] 2 = p := by
    have : subOf p [0, (p.size : Int), -1, -1, 0, (p.size : Int)] 2 = p.extract 0 p.size := by simp [subOf]
    rw [this, hall]
   rw [e0, e1, e2]
  ·intro i hi
   rw [nats_length]
   match i, hi with
   | 0, _ => exact .inr (by simp)
   | 1, _ => exact .inl rfl
   | 2, _ => exact .inr (by simp)

theorem nameL_ne {v : List Nat} (h : NameL v) : v ≠ [] := by
 intro e
 subst e
 rcases (nameL_iff _).1 h with h | ⟨d, p, h, _, _⟩
 ·rw [path_iff] at h
  have := h [] (by simp [pieces])
  simp [compF] at this
 ·simp at h

theorem size_pos {s : ByteArray} (h : nats s ≠ []) : 1 ≤ s.size := by
 rw [← nats_length]
 exact List.length_pos_iff.2 h

theorem opt_is {t : ByteArray} {x : List Nat} (h : optN t = some x) : nats t ≠ [] ∧ nats t = x := by
 unfold optN at h
 by_cases ht : nats t = []
 ·rw [if_pos ht] at h; cases h
 ·rw [if_neg ht] at h
  exact ⟨ht, by simpa using h⟩

theorem ref_sub {s n t g : ByteArray} (h : RG s n t g) (hsz : s.size < 8000000000) {R PR I : Nat} (w : World) (re : ReAt w R PR I refList 724 1 8 3) (hG : w.cell? ⟨10, 1, none⟩ = some (.int .i64 512)) (hGl : 10 < w.heap.size) :
  Calls Tryz.prog 49 #[.pointer (some ⟨R, 0, none⟩), .string s] w fun e w' =>
   ∃ b, e = .returned (.slice (some ⟨b, 0, none⟩) 4 4) ∧ Blk w' b [.string s, .string n, .string t, .string g] 9 ∧ ∃ x : Ext w, w' = x.now := by
 have hpl := plain_nats h.lt
 have hr : Env.res (envAt (progOf refList) s (rankOf refRanks) 8) 1 0 (cap0 8) = some (refCaps (nats n) (optN t) (optN g)) :=
  ref_res (table_ok ref_fit s hpl ref_top) takes_at widths_at (over_at ref_fit hpl ref_top) (nats_plain hpl) (ref_at s _ _) h.text h.name
   (fun x hx => by obtain ⟨ht, rfl⟩ := opt_is hx; exact h.tag ht)
   (fun x hx => by obtain ⟨ht, rfl⟩ := opt_is hx; exact h.dig ht)
 obtain ⟨hc, hb⟩ := h.caps
 have hne : nats s ≠ [] := by
  rw [h.text]
  intro e
  exact nameL_ne h.name (List.append_eq_nil_iff.1 e).1
 have := submatch_any ref_refit w re hG hGl s hpl (size_pos hne) hsz _ hr rfl hb
 rw [hc] at this
 exact this

theorem name_sub {n d p : ByteArray} (h : NG n d p) (hsz : n.size < 8000000000) {R PR I : Nat} (w : World) (re : ReAt w R PR I nameList 4443 0 6 2) (hG : w.cell? ⟨10, 0, none⟩ = some (.int .i64 128)) (hGl : 10 < w.heap.size) :
  Calls Tryz.prog 49 #[.pointer (some ⟨R, 0, none⟩), .string n] w fun e w' =>
   ∃ b, e = .returned (.slice (some ⟨b, 0, none⟩) 3 3) ∧ Blk w' b [.string n, .string d, .string p] 9 ∧ ∃ x : Ext w, w' = x.now := by
 have hpl := plain_nats h.lt
 obtain ⟨r, hr, hc, hb⟩ := h.caps
 have := submatch_any name_refit w re hG hGl n hpl (size_pos (nameL_ne h.name)) hsz _ hr rfl hb
 rw [hc] at this
 exact this

end Go.Proofs.YtkbmigfkclnlaaaGreatDoor
namespace Go.Proofs.YtkbmigfkclnlaaaGreatDoor
open Go.RowKit Go.Rx
attribute [local go_sem] Ext.cell Ext.frozen Ext.lt Ext.lt_add Ext.cell2 Ext.frozen2

set_option maxRecDepth 1000000 in
set_option maxHeartbeats 4000000 in
theorem rparse_any {s d p t g n : ByteArray} (h : RG s n t g) (hn : NG n d p) (hp : p.size ≤ 255) (hg : nats g ≠ [] → ∃ k, DG g k) (hsz : s.size < 8000000000) (w : World)
  (hG0 : w.cell? ⟨10, 0, none⟩ = some (.int .i64 128)) (hG1 : w.cell? ⟨10, 1, none⟩ = some (.int .i64 512)) (hGl : 10 < w.heap.size) :
  Calls Tryz.prog 31 #[.string s] w fun e w' => e = .returned (.tuple #[refV d p t g, .nilIface]) ∧ ∃ y : Ext w, w' = y.now := by
 have hnz : n.size < 8000000000 := by have := h.size.1; omega
 have nil4 : ∀ (B : Nat) (W : World), (binOp BinOp.eql 89 (.slice (some ⟨B, 0, none⟩) 4 4) (.slice none 0 0)).run Tryz.prog W = .ok (.bool false) W := fun B W => by kernel_rfl
 have hgz : g.size < 100000000000 := by have := h.size.2; omega
 have hpne : p.toList.isEmpty = false := by
  rw [empty_nats]
  refine decide_eq_false fun e => ?_
  have hP : Path (nats p) := by
   rcases hn with ⟨_, _, h3⟩ | ⟨_, rfl, h3, _⟩ <;> exact h3
  rw [e, path_iff] at hP
  have := hP [] (by simp [pieces])
  simp [compF] at this
 obtain ⟨T, v, hTv⟩ : ∃ T v, refV d p t g = .iface T v := by
  unfold refV
  rw [if_neg (by rw [hpne]; simp)]
  split
  ·split <;> exact ⟨_, _, rfl⟩
  ·split <;> exact ⟨_, _, rfl⟩
 have hdz : d.size + p.size ≤ 10000000000 := by
  have h1 : d.size ≤ n.size := by
   rcases hn with ⟨h1, _, _⟩ | ⟨rfl, _, _, _⟩
   ·have := congrArg List.length h1
    rw [nats_length, List.length_append, nats_length] at this
    omega
   ·simp
  omega
 have hbest := fun W : World => best_any d p t g W hdz (fun h => by rw [hpne] at h; cases h) (fun h => by rw [hpne] at h; cases h)
 rw [hTv] at hbest ⊢
 have HBest := Lib.hid hbest
 clear hbest hTv hpne
 have H := Lib.hid h
 have HN := Lib.hid hn
 have HG := Lib.hid hg
 clear h hn hg
 go_enter Tryz.func31, Tryz.ntmps31
 go_wp2_with (first | (go_at_call 48; (with_reducible refine (ref_prog _).mono ?_); rintro e w1 ⟨R, PR, I, rfl, re, y1, rfl⟩) | (go_at_call 49; (with_reducible refine (ref_sub H.out hsz _ re ((y1.cell 10 1 hGl).trans hG1) (y1.lt 10 hGl)).mono ?_); rintro e w2 ⟨b1, rfl, hb1, y2, rfl⟩))
 obtain ⟨W0, hW0⟩ : ∃ W0, W0 = y2.now := ⟨_, rfl⟩
 obtain ⟨yw, hyw⟩ := Ext.both y1 y2
 have hWg0 : W0.cell? ⟨10, 0, none⟩ = some (.int .i64 128) := by rw [hW0, hyw]; exact (yw.cell 10 0 hGl).trans hG0
 have hWl : 10 < W0.heap.size := by rw [hW0, hyw]; exact yw.lt 10 hGl
 have hWe : ∃ z : Ext w, W0 = z.now := ⟨yw, hW0.trans hyw⟩
 rw [← hW0] at hb1 ⊢
 have c1 : W0.cell? ⟨b1, 1, none⟩ = some (.string n) := (hb1.cell 1).trans rfl
 have c2 : W0.cell? ⟨b1, 2, none⟩ = some (.string t) := (hb1.cell 2).trans rfl
 have c3 : W0.cell? ⟨b1, 3, none⟩ = some (.string g) := (hb1.cell 3).trans rfl
 have hbl := hb1.lt
 have HB1 := Lib.hid hb1
 clear hW0 hyw re hb1
 obtain ⟨W1, hW1⟩ : ∃ W1, W1 = W0.alloc (Obj.cells #[Value.string ⟨#[]⟩, Value.string ⟨#[]⟩] 104) := ⟨_, rfl⟩
 rw [← hW1]
 have k1 : Chg [] W0 W1 := by rw [hW1]; exact Chg.alloc _ _
 obtain ⟨A, hA⟩ : ∃ A, W0.heap.size = A := ⟨_, rfl⟩
 have bA : Blk W1 A [.string ⟨#[]⟩, .string ⟨#[]⟩] 104 := by rw [hW1, ← hA]; exact Blk.new W0 [.string ⟨#[]⟩, .string ⟨#[]⟩] 104
 rw [hA]
 have g0 : W1.drew.cell? ⟨10, 0, none⟩ = some (.int .i64 128) := (World.cell?_of_block (k1.block 10 hWl (by simp))).trans hWg0
 have gl : 10 < W1.drew.heap.size := Nat.lt_of_lt_of_le hWl k1.size
 have d1 : W1.drew.cell? ⟨b1, 1, none⟩ = some (.string n) := (World.cell?_of_block (k1.block b1 hbl (by simp))).trans c1
 have d1' : W1.cell? ⟨b1, 1, none⟩ = some (.string n) := d1
 have dl : b1 < W1.drew.heap.size := Nat.lt_of_lt_of_le hbl k1.size
 have BA := Lib.hid bA
 have K1 := Lib.hid k1
 clear hW1 bA k1 c1
 go_region_with (first | (go_at_call 50; (with_reducible refine (name_prog _).mono ?_); rintro e w3 ⟨R2, PR2, I2, rfl, re2, y3, rfl⟩; have e3 : y3.now.cell? ⟨b1, 1, none⟩ = some (.string n) := (y3.cell b1 1 dl).trans d1) | (go_at_call 49; (with_reducible refine (name_sub HN.out hnz _ re2 ((y3.cell 10 0 gl).trans g0) (y3.lt 10 gl)).mono ?_); rintro e w4 ⟨b2, rfl, hb2, y4, rfl⟩))
 all_goals
  go_simp
  obtain ⟨W2, hW2⟩ : ∃ W2, W2 = y4.now := ⟨_, rfl⟩
  rw [← hW2]
  rw [← hW2] at hb2
  have k2 : Chg [] W1.drew W2 := by rw [hW2]; exact ((Chg.of_below y3.below).trans (Chg.of_below y4.below)).mono (fun b hb _ => by simp at hb)
  have bA2 : Blk W2 A [.string ⟨#[]⟩, .string ⟨#[]⟩] 104 := Blk.chg (w := W1.drew) BA.out k2 (by simp)
  have hbA : ¬ b1 = A := by omega
  have hb2A : ¬ b2 = A := by
   intro e
   subst e
   have := bA2.symm.trans hb2
   simp at this
  have l1 : W2.cell? ⟨b1, 2, none⟩ = some (.string t) := (World.cell?_of_block (k2.block b1 dl (by simp))).trans ((World.cell?_of_block (K1.out.block b1 hbl (by simp))).trans c2)
  have l2 : W2.cell? ⟨b1, 3, none⟩ = some (.string g) := (World.cell?_of_block (k2.block b1 dl (by simp))).trans ((World.cell?_of_block (K1.out.block b1 hbl (by simp))).trans c3)
  have l3 : W2.cell? ⟨b2, 1, none⟩ = some (.string d) := (hb2.cell 1).trans rfl
  have l4 : W2.cell? ⟨b2, 2, none⟩ = some (.string p) := (hb2.cell 2).trans rfl
  have l5 : W2.cell? ⟨A, 0, none⟩ = some (.string ⟨#[]⟩) := (bA2.cell 0).trans rfl
  have l6 : W2.cell? ⟨A, 1, none⟩ = some (.string ⟨#[]⟩) := (bA2.cell 1).trans rfl
  have f5 := bA2.free 0
  have f6 := bA2.free 1
  have lA := bA2.lt
  have lb1 : b1 < W2.heap.size := Nat.lt_of_lt_of_le dl k2.size
  have lb2 := hb2.lt
  have hp' : (p.size : Int) ≤ 255 := by omega
  have hp2 : ¬ (p.size : Int) > 255 := by omega
  have hp3 : ¬ (255 : Int) < (p.size : Int) := by omega
  have BA2 := Lib.hid bA2
  have K2 := Lib.hid k2
  clear hW2 bA2 k2 hb2 re2 e3
  go_wp2_with fail
  obtain ⟨W3, hW3⟩ : ∃ W3, W3 = (W2.setCell ⟨A, 0, none⟩ (.string d)).setCell ⟨A, 1, none⟩ (.string p) := ⟨_, rfl⟩
  rw [← hW3]
  have bA3 : Blk W3 A [.string d, .string p] 104 := by rw [hW3]; exact (BA2.out.set 0 _).set 1 _
  have k3 : Chg [A] W2 W3 := by rw [hW3]; exact ((Chg.set W2 A 0 _).trans (Chg.set _ A 1 _)).mono (fun b hb _ => by simpa using hb)
  have m1 : W3.cell? ⟨b1, 2, none⟩ = some (.string t) := (World.cell?_of_block (k3.block b1 lb1 (by simpa using hbA))).trans l1
  have m2 : W3.cell? ⟨b1, 3, none⟩ = some (.string g) := (World.cell?_of_block (k3.block b1 lb1 (by simpa using hbA))).trans l2
  have m3 : W3.cell? ⟨A, 0, none⟩ = some (.string d) := (bA3.cell 0).trans rfl
  have m4 : W3.cell? ⟨A, 1, none⟩ = some (.string p) := (bA3.cell 1).trans rfl
  have lA3 := bA3.lt
  have lb3 : b1 < W3.heap.size := Nat.lt_of_lt_of_le lb1 k3.size
  have hbD : ¬ b1 = W3.heap.size := by omega
  have hAD : ¬ A = W3.heap.size := by omega
  have K3 := Lib.hid k3
  have BA3 := Lib.hid bA3
  clear hW3 k3 bA3 l1 l2 l3 l4 l5 l6 f5 f6
  go_region_with fail
  all_goals go_simp
  all_goals
   obtain ⟨W4, hW4⟩ : ∃ W4, W4 = (W3.alloc (Obj.cells #[Value.iface 104 (Value.agg #[Value.string d, Value.string p]), Value.string t, Value.string ⟨#[]⟩] 108)).drew := ⟨_, rfl⟩
   rw [← hW4]
   obtain ⟨D, hD⟩ : ∃ D, W3.heap.size = D := ⟨_, rfl⟩
   have bD : Blk W4 D [.iface 104 (.agg #[.string d, .string p]), .string t, .string ⟨#[]⟩] 108 := by rw [hW4, ← hD]; exact (Blk.new W3 [.iface 104 (.agg #[.string d, .string p]), .string t, .string ⟨#[]⟩] 108).drew
   have k4 : Chg [] W3 W4 := by rw [hW4]; exact (Chg.alloc W3 _).trans (Chg.of_below (Below.refl _ _).drew)
   rw [hD] at hbD hAD ⊢
   have n2 : W4.cell? ⟨b1, 3, none⟩ = some (.string g) := (World.cell?_of_block (k4.block b1 lb3 (by simp))).trans m2
   have n3 : W4.cell? ⟨D, 0, none⟩ = some (.iface 104 (.agg #[.string d, .string p])) := (bD.cell 0).trans rfl
   have n4 : W4.cell? ⟨D, 1, none⟩ = some (.string t) := (bD.cell 1).trans rfl
   have n5 : W4.cell? ⟨D, 2, none⟩ = some (.string ⟨#[]⟩) := (bD.cell 2).trans rfl
   have f5 := bD.free 2
   have lD := bD.lt
   have lb4 : b1 < W4.heap.size := Nat.lt_of_lt_of_le lb3 k4.size
   have K4 := Lib.hid k4
   have BD := Lib.hid bD
   have hAw : w.heap.size ≤ A := by
    obtain ⟨z0, hz0⟩ := hWe
    rw [← hA, hz0]
    exact z0.le
   have hDw : w.heap.size ≤ D := by omega
   have hWx : ∃ z : Ext w, W4 = z.now := by
    have c := (((K1.out.trans (Chg.of_below (Below.refl _ _).drew)).trans K2.out).trans K3.out).trans k4
    obtain ⟨z0, hz0⟩ := hWe
    have hA2 : w.heap.size ≤ A := by rw [← hA, hz0]; exact z0.le
    have b0 : Below w.heap.size w W0 := by rw [hz0]; exact z0.below
    exact Ext.of (((Chg.of_below b0).trans c).below (Nat.le_refl _) (fun b hb => by simp at hb; omega))
   have HWX := Lib.hid hWx
   clear hW4 k4 bD m1 m2 m3 m4 hWx
   by_cases hge : nats g = []
   ·have e1 : g.toList.isEmpty = true := by rw [empty_nats, decide_eq_true hge]
    have e2 := nats_empty hge
    have hb : ∀ W : World, Calls Tryz.prog 52 #[.agg #[.iface 104 (.agg #[.string d, .string p]), .string t, .string ⟨#[]⟩]] W fun e w' => e = .returned (.iface T v) ∧ ∃ x : Ext W, w' = x.now := fun W => by
     have := HBest.out W
     rw [show g = (⟨#[]⟩ : ByteArray) from e2] at this
     exact this
    have HB := Lib.hid hb
    clear hb e2 hge
    go_wp2_with (first | (go_at_call 52; (with_reducible refine (HB.out _).mono ?_); rintro e w5 ⟨rfl, y5, rfl⟩))
    go_ret2
    obtain ⟨z, hz⟩ := HWX.out
    subst hz
    exact ⟨rfl, Ext.both z y5⟩
   ·have e1 : g.toList.isEmpty = false := by rw [empty_nats, decide_eq_false hge]
    obtain ⟨k, hk⟩ := HG.out hge
    have HDP := Lib.hid (fun W : World => dparse_any hk hgz W)
    clear hge hk
    go_wp2_with (first | (go_at_call 51; (with_reducible refine (HDP.out _).mono ?_); rintro e w5 ⟨rfl, y5, rfl⟩) | (go_at_call 52; (with_reducible refine (HBest.out _).mono ?_); rintro e w6 ⟨rfl, y6, rfl⟩))
    go_ret2
    obtain ⟨z, hz⟩ := HWX.out
    subst hz
    have c : Chg [D] w y6.now := ((Chg.of_below z.below).trans ((Chg.of_below y5.below).trans ((Chg.set _ D 2 _).trans (Chg.of_below y6.below)))).mono (fun b hb _ => by simpa using hb)
    exact ⟨rfl, Ext.of (c.below (Nat.le_refl _) (fun b hb => by simp at hb; omega))⟩

end Go.Proofs.YtkbmigfkclnlaaaGreatDoor
namespace Go.Proofs.YtkbmigfkclnlaaaGreatDoor
open Go.RowKit Go.Rx
attribute [local go_sem] Ext.cell Ext.frozen Ext.lt Ext.lt_add Ext.cell2 Ext.frozen2

theorem as_50_64 (v : Value) (W : World) : (Instr.typeAssert (.iface 104 v) 39 62 true).run Tryz.prog W = .ok (.tuple #[.iface 104 v, .bool true]) W := by kernel_rfl
theorem as_50_67 (v : Value) (W : World) : (Instr.typeAssert (.iface 104 v) 39 65 true).run Tryz.prog W = .ok (.tuple #[.nilIface, .bool false]) W := run_typeAssert_lacksB Tryz.underlying65 (by kernel_rfl) (by kernel_rfl) v 39 W
theorem as_50_70 (v : Value) (W : World) : (Instr.typeAssert (.iface 104 v) 39 68 true).run Tryz.prog W = .ok (.tuple #[.nilIface, .bool false]) W := run_typeAssert_lacksB Tryz.underlying68 (by kernel_rfl) (by kernel_rfl) v 39 W
theorem as_96_64 (v : Value) (W : World) : (Instr.typeAssert (.iface 141 v) 39 62 true).run Tryz.prog W = .ok (.tuple #[.iface 141 v, .bool true]) W := by kernel_rfl
theorem as_96_67 (v : Value) (W : World) : (Instr.typeAssert (.iface 141 v) 39 65 true).run Tryz.prog W = .ok (.tuple #[.nilIface, .bool false]) W := run_typeAssert_lacksB Tryz.underlying65 (by kernel_rfl) (by kernel_rfl) v 39 W
theorem as_96_70 (v : Value) (W : World) : (Instr.typeAssert (.iface 141 v) 39 68 true).run Tryz.prog W = .ok (.tuple #[.iface 141 v, .bool true]) W := by kernel_rfl
theorem as_98_64 (v : Value) (W : World) : (Instr.typeAssert (.iface 143 v) 39 62 true).run Tryz.prog W = .ok (.tuple #[.iface 143 v, .bool true]) W := by kernel_rfl
theorem as_98_67 (v : Value) (W : World) : (Instr.typeAssert (.iface 143 v) 39 65 true).run Tryz.prog W = .ok (.tuple #[.iface 143 v, .bool true]) W := by kernel_rfl
theorem as_98_70 (v : Value) (W : World) : (Instr.typeAssert (.iface 143 v) 39 68 true).run Tryz.prog W = .ok (.tuple #[.nilIface, .bool false]) W := run_typeAssert_lacksB Tryz.underlying68 (by kernel_rfl) (by kernel_rfl) v 39 W
theorem as_55_64 (v : Value) (W : World) : (Instr.typeAssert (.iface 108 v) 39 62 true).run Tryz.prog W = .ok (.tuple #[.iface 108 v, .bool true]) W := by kernel_rfl
theorem as_55_67 (v : Value) (W : World) : (Instr.typeAssert (.iface 108 v) 39 65 true).run Tryz.prog W = .ok (.tuple #[.iface 108 v, .bool true]) W := by kernel_rfl
theorem as_55_70 (v : Value) (W : World) : (Instr.typeAssert (.iface 108 v) 39 68 true).run Tryz.prog W = .ok (.tuple #[.iface 108 v, .bool true]) W := by kernel_rfl

theorem domain_of (d p : ByteArray) (w : World) : Calls Tryz.prog 144 #[.agg #[.string d, .string p]] w fun e w' => e = .returned (.string d) ∧ w' = w.alloc (Obj.cells #[.string d, .string p] 104) := by
 go_enter Tryz.func144, Tryz.ntmps144
 go_wp2
 go_ret
 exact ⟨rfl, rfl⟩

theorem path_of (d p : ByteArray) (w : World) : Calls Tryz.prog 146 #[.agg #[.string d, .string p]] w fun e w' => e = .returned (.string p) ∧ w' = w.alloc (Obj.cells #[.string d, .string p] 104) := by
 go_enter Tryz.func146, Tryz.ntmps146
 go_wp2
 go_ret
 exact ⟨rfl, rfl⟩

theorem tag_full (v : Value) (t g : ByteArray) (w : World) : Calls Tryz.prog 150 #[.agg #[v, .string t, .string g]] w fun e w' => e = .returned (.string t) ∧ w' = w.alloc (Obj.cells #[v, .string t, .string g] 108) := by
 go_enter Tryz.func150, Tryz.ntmps150
 go_wp2
 go_ret
 exact ⟨rfl, rfl⟩

theorem dig_full (v : Value) (t g : ByteArray) (w : World) : Calls Tryz.prog 148 #[.agg #[v, .string t, .string g]] w fun e w' => e = .returned (.string g) ∧ w' = w.alloc (Obj.cells #[v, .string t, .string g] 108) := by
 go_enter Tryz.func148, Tryz.ntmps148
 go_wp2
 go_ret
 exact ⟨rfl, rfl⟩

theorem tag_tagged (v : Value) (t : ByteArray) (w : World) : Calls Tryz.prog 156 #[.agg #[v, .string t]] w fun e w' => e = .returned (.string t) ∧ w' = w.alloc (Obj.cells #[v, .string t] 143) := by
 go_enter Tryz.func156, Tryz.ntmps156
 go_wp2
 go_ret
 exact ⟨rfl, rfl⟩

theorem dig_canon (v : Value) (g : ByteArray) (w : World) : Calls Tryz.prog 153 #[.agg #[v, .string g]] w fun e w' => e = .returned (.string g) ∧ w' = w.alloc (Obj.cells #[v, .string g] 141) := by
 go_enter Tryz.func153, Tryz.ntmps153
 go_wp2
 go_ret
 exact ⟨rfl, rfl⟩

theorem ext_alloc {w W : World} (h : ∃ y : Ext w, W = y.now) (o : Obj) : ∃ y : Ext w, W.alloc o = y.now := by
 obtain ⟨y, rfl⟩ := h
 exact Ext.both y (Ext.one _ o)

set_option maxRecDepth 100000 in
set_option maxHeartbeats 2000000 in
theorem plain_full (d p t g : ByteArray) (w : World) :
  Calls Tryz.prog 24 #[.iface 108 (.agg #[.iface 104 (.agg #[.string d, .string p]), .string t, .string g])] w fun e w' => e = .returned (rv d p t g) ∧ ∃ y : Ext w, w' = y.now := by
 have q1 := as_55_64
 have q2 := as_55_67
 have q3 := as_55_70
 go_enter Tryz.func24, Tryz.ntmps24
 go_wp2_with (first | (go_at_call 144; (with_reducible refine (domain_of d p _).mono ?_); rintro e w1 ⟨rfl, rfl⟩) | (go_at_call 146; (with_reducible refine (path_of d p _).mono ?_); rintro e w2 ⟨rfl, rfl⟩) | (go_at_call 150; (with_reducible refine (tag_full _ t g _).mono ?_); rintro e w3 ⟨rfl, rfl⟩) | (go_at_call 148; (with_reducible refine (dig_full _ t g _).mono ?_); rintro e w4 ⟨rfl, rfl⟩))
 refine bodyPost_ret (v := rv d p t g) (by simp [results, Tryz.results24, go_sem, rv, loadCellsFrom, Addr.add]) rfl ⟨rfl, ?_⟩
 repeat (refine ext_alloc ?_ _)
 exact Ext.here _

set_option maxRecDepth 100000 in
set_option maxHeartbeats 2000000 in
theorem plain_tagged (d p t : ByteArray) (w : World) :
  Calls Tryz.prog 24 #[.iface 143 (.agg #[.iface 104 (.agg #[.string d, .string p]), .string t])] w fun e w' => e = .returned (rv d p t ⟨#[]⟩) ∧ ∃ y : Ext w, w' = y.now := by
 have q1 := as_98_64
 have q2 := as_98_67
 have q3 := as_98_70
 go_enter Tryz.func24, Tryz.ntmps24
 go_wp2_with (first | (go_at_call 144; (with_reducible refine (domain_of d p _).mono ?_); rintro e w1 ⟨rfl, rfl⟩) | (go_at_call 146; (with_reducible refine (path_of d p _).mono ?_); rintro e w2 ⟨rfl, rfl⟩) | (go_at_call 156; (with_reducible refine (tag_tagged _ t _).mono ?_); rintro e w3 ⟨rfl, rfl⟩))
 refine bodyPost_ret (v := rv d p t ⟨#[]⟩) (by simp [results, Tryz.results24, go_sem, rv, loadCellsFrom, Addr.add]) rfl ⟨rfl, ?_⟩
 repeat (refine ext_alloc ?_ _)
 exact Ext.here _

set_option maxRecDepth 100000 in
set_option maxHeartbeats 2000000 in
theorem plain_canon (d p g : ByteArray) (w : World) :
  Calls Tryz.prog 24 #[.iface 141 (.agg #[.iface 104 (.agg #[.string d, .string p]), .string g])] w fun e w' => e = .returned (rv d p ⟨#[]⟩ g) ∧ ∃ y : Ext w, w' = y.now := by
 have q1 := as_96_64
 have q2 := as_96_67
 have q3 := as_96_70
 go_enter Tryz.func24, Tryz.ntmps24
 go_wp2_with (first | (go_at_call 144; (with_reducible refine (domain_of d p _).mono ?_); rintro e w1 ⟨rfl, rfl⟩) | (go_at_call 146; (with_reducible refine (path_of d p _).mono ?_); rintro e w2 ⟨rfl, rfl⟩) | (go_at_call 153; (with_reducible refine (dig_canon _ g _).mono ?_); rintro e w4 ⟨rfl, rfl⟩))
 refine bodyPost_ret (v := rv d p ⟨#[]⟩ g) (by simp [results, Tryz.results24, go_sem, rv, loadCellsFrom, Addr.add]) rfl ⟨rfl, ?_⟩
 repeat (refine ext_alloc ?_ _)
 exact Ext.here _

set_option maxRecDepth 100000 in
set_option maxHeartbeats 2000000 in
theorem plain_repo (d p : ByteArray) (w : World) :
  Calls Tryz.prog 24 #[.iface 104 (.agg #[.string d, .string p])] w fun e w' => e = .returned (rv d p ⟨#[]⟩ ⟨#[]⟩) ∧ ∃ y : Ext w, w' = y.now := by
 have q1 := as_50_64
 have q2 := as_50_67
 have q3 := as_50_70
 go_enter Tryz.func24, Tryz.ntmps24
 go_wp2_with (first | (go_at_call 144; (with_reducible refine (domain_of d p _).mono ?_); rintro e w1 ⟨rfl, rfl⟩) | (go_at_call 146; (with_reducible refine (path_of d p _).mono ?_); rintro e w2 ⟨rfl, rfl⟩))
 refine bodyPost_ret (v := rv d p ⟨#[]⟩ ⟨#[]⟩) (by simp [results, Tryz.results24, go_sem, rv, loadCellsFrom, Addr.add]) rfl ⟨rfl, ?_⟩
 repeat (refine ext_alloc ?_ _)
 exact Ext.here _

theorem plain_any (d p t g : ByteArray) (hp : p.toList.isEmpty = false) (w : World) :
  Calls Tryz.prog 24 #[refV d p t g] w fun e w' => e = .returned (rv d p t g) ∧ ∃ y : Ext w, w' = y.now := by
 unfold refV
 rw [if_neg (by rw [hp]; simp)]
 have hn : ∀ s : ByteArray, s.toList.isEmpty = true → s = ⟨#[]⟩ := fun s h => nats_empty (by rw [empty_nats] at h; simpa using h)
 by_cases ht : t.toList.isEmpty = true
 ·rw [if_pos ht, hn t ht]
  by_cases hg : g.toList.isEmpty = true
  ·rw [if_pos hg, hn g hg]
   exact plain_repo d p w
  ·rw [if_neg hg]
   exact plain_canon d p g w
 ·rw [if_neg ht]
  by_cases hg : g.toList.isEmpty = true
  ·rw [if_pos hg, hn g hg]
   exact plain_tagged d p t w
  ·rw [if_neg hg]
   exact plain_full d p t g w

end Go.Proofs.YtkbmigfkclnlaaaGreatDoor
namespace Go.Proofs.YtkbmigfkclnlaaaGreatDoor
open Go.RowKit Go.Rx

def hubL : List Nat := [100, 111, 99, 107, 101, 114, 46, 105, 111]
def oldL : List Nat := [105, 110, 100, 101, 120, 46, 100, 111, 99, 107, 101, 114, 46, 105, 111]
def localL : List Nat := [108, 111, 99, 97, 108, 104, 111, 115, 116]
def takesF (l : List Nat) : Bool := decide (firstF 47 l < 0) && (decide (0 ≤ firstF 46 l) || decide (0 ≤ firstF 58 l) || decide (l = localL) || !decide (l.map lowc = l))

theorem firstF_in (c : Nat) (l : List Nat) : 0 ≤ firstF c l ↔ c ∈ l := by
 rcases firstF_split c l with ⟨h1, h2⟩ | ⟨a, b, rfl, h2, h3⟩
 ·rw [h1]; simp [h2]
 ·rw [h3]; simp

theorem firstF_app {c : Nat} {a b : List Nat} (h : c ∉ a) : firstF c (a ++ c :: b) = a.length := by
 rcases firstF_split c (a ++ c :: b) with ⟨_, h2⟩ | ⟨x, y, hxy, h2, h3⟩
 ·exact absurd (by simp) h2
 ·rw [h3]
  have : a = x := by
   clear h3
   induction a generalizing x with
   | nil => cases x with
    | nil => rfl
    | cons u x => simp at hxy; exact absurd (by simp [hxy.1]) h2
   | cons v a ih => cases x with
    | nil => simp at hxy; exact absurd (by simp [hxy.1]) h
    | cons u x =>
     simp at hxy
     rw [hxy.1, ih (fun q => h (by simp [q])) x hxy.2 (fun q => h2 (by simp [q]))]
  rw [this]

def RemOk (l : List Nat) : Prop := ∃ a, 58 ∉ a ∧ (∀ x ∈ a, lowc x = x ∧ x < 128) ∧ (l = a ∨ ∃ b, l = a ++ 58 :: b)

theorem pch_low {x : Nat} (h : Pch x ∨ x = 47) : lowc x = x ∧ x < 128 ∧ x ≠ 58 := by
 unfold Pch at h
 have h' : (97 ≤ x ∧ x ≤ 122) ∨ (48 ≤ x ∧ x ≤ 57) ∨ x = 46 ∨ x = 95 ∨ x = 45 ∨ x = 47 := by omega
 refine ⟨?_, by omega, by omega⟩
 unfold lowc
 rw [if_neg (by omega)]

theorem alg_low {a : List Nat} (h : dsize a ≠ 0) : ∀ x ∈ a, lowc x = x ∧ x < 128 := by
 unfold dsize at h
 by_cases h1 : a = [115, 104, 97, 50, 53, 54]
 ·subst h1; decide
 ·rw [if_neg h1] at h
  by_cases h2 : a = [115, 104, 97, 51, 56, 52]
  ·subst h2; decide
  ·rw [if_neg h2] at h
   by_cases h3 : a = [115, 104, 97, 53, 49, 50]
   ·subst h3; decide
   ·rw [if_neg h3] at h
    exact absurd rfl h

theorem NG.path {n d p : ByteArray} (h : NG n d p) : Path (nats p) := by
 rcases h with ⟨_, _, h3⟩ | ⟨_, rfl, h3, _⟩ <;> exact h3

theorem PG.rem {s d p t g : ByteArray} (h : PG s d p t g) : RemOk (nats p ++ (tagPart (optN t) ++ digPart (optN g))) := by
 obtain ⟨n, hr, hn⟩ := h.grp
 have hP := path_chars hn.path
 have h58 : 58 ∉ nats p := fun q => (pch_low (hP 58 q)).2.2 rfl
 have hlow : ∀ x ∈ nats p, lowc x = x ∧ x < 128 := fun x q => ⟨(pch_low (hP x q)).1, (pch_low (hP x q)).2.1⟩
 by_cases ht : nats t = []
 ·have e1 : optN t = none := by unfold optN; rw [if_pos ht]
  rw [e1]
  by_cases hg : nats g = []
  ·have e2 : optN g = none := by unfold optN; rw [if_pos hg]
   rw [e2]
   exact ⟨nats p, h58, hlow, .inl (by simp [tagPart, digPart])⟩
  ·rw [opt_some hg]
   obtain ⟨k, hk⟩ := h.dig hg
   refine ⟨nats p ++ 64 :: (nats g).take k, ?_, ?_, .inr ⟨(nats g).drop (k + 1), ?_⟩⟩
   ·intro q
    simp only [List.mem_append, List.mem_cons] at q
    rcases q with q | q | q
    ·exact h58 q
    ·cases q
    ·exact hk.no q
   ·intro x q
    simp only [List.mem_append, List.mem_cons] at q
    rcases q with q | q | q
    ·exact hlow x q
    ·subst q; decide
    ·exact alg_low hk.alg x q
   ·have := hk.sep
    simp only [tagPart, digPart, List.nil_append, List.append_assoc, List.cons_append]
    rw [← this]
 ·rw [opt_some ht]
  exact ⟨nats p, h58, hlow, .inr ⟨nats t ++ digPart (optN g), by simp [tagPart]⟩⟩

theorem takes_ne {l : List Nat} (h : takesF l = true) : l ≠ [] ∧ 47 ∉ l := by
 constructor
 ·rintro rfl
  have : takesF [] = false := by decide
  rw [this] at h
  cases h
 ·intro q
  have := (firstF_in 47 l).2 q
  unfold takesF at h
  simp only [Bool.and_eq_true, decide_eq_true_eq] at h
  omega

theorem PG.whole {s d p t g : ByteArray} (h : PG s d p t g) (hd : nats d ≠ []) : nats s = nats d ++ 47 :: (nats p ++ (tagPart (optN t) ++ digPart (optN g))) := by
 obtain ⟨n, hr, hn⟩ := h.grp
 rw [hr.text]
 rcases hn with ⟨h1, _, _⟩ | ⟨rfl, _, _, _⟩
 ·rw [h1]; simp
 ·exact absurd rfl hd

theorem PG.lt {s d p t g : ByteArray} (h : PG s d p t g) : Plain s := by
 obtain ⟨n, hr, hn⟩ := h.grp
 exact plain_nats hr.lt

end Go.Proofs.YtkbmigfkclnlaaaGreatDoor
namespace Go.Proofs.YtkbmigfkclnlaaaGreatDoor
open Go.RowKit Go.Rx
attribute [local go_sem] Ext.cell Ext.frozen Ext.lt Ext.lt_add Ext.cell2 Ext.frozen2

set_option maxRecDepth 100000 in
set_option maxHeartbeats 2000000 in
theorem takes_any (s : ByteArray) (w : World) (hs : s.size < 100000000000) :
  Calls Tryz.prog 6 #[.string s] w fun e w' => e = .returned (.bool (takesF (nats s))) ∧ ∃ y : Ext w, w' = y.now := by
 have H1 := Lib.hid (first_lit s 47 47 rfl w hs)
 have H2 := Lib.hid (first_lit s 46 46 rfl w hs)
 have H3 := Lib.hid (first_lit s 58 58 rfl w hs)
 have H4 := Lib.hid (small_val s w hs)
 have q0 : (s.toList == [108, 111, 99, 97, 108, 104, 111, 115, 116]) = decide (nats s = localL) := lit_nats s [108, 111, 99, 97, 108, 104, 111, 115, 116]
 have q1 : ∀ t : ByteArray, nats t = (nats s).map lowc → (t.toList == s.toList) = decide ((nats s).map lowc = nats s) := fun t ht => by rw [beq_nats, ht]
 unfold takesF
 obtain ⟨a, ha⟩ : ∃ a, a = firstF 47 (nats s) := ⟨_, rfl⟩
 obtain ⟨b, hb⟩ : ∃ b, b = firstF 46 (nats s) := ⟨_, rfl⟩
 obtain ⟨c, hc⟩ : ∃ c, c = firstF 58 (nats s) := ⟨_, rfl⟩
 rw [← ha] at H1 ⊢
 rw [← hb] at H2 ⊢
 rw [← hc] at H3 ⊢
 generalize decide (nats s = localL) = l at q0 ⊢
 have Q1 := Lib.hid q1
 generalize hm : decide ((nats s).map lowc = nats s) = m at Q1 ⊢
 clear q1 ha hb hc hm
 by_cases h1 : a < 0
 ·by_cases h2 : 0 ≤ b
  ·have e : (decide (a < 0) && (decide (0 ≤ b) || decide (0 ≤ c) || l || !m)) = true := by simp [h1, h2]
   rw [e]
   go_enter Tryz.func6, Tryz.ntmps6
   go_wp2_with (first | (go_at_call 7; (with_reducible refine H1.out.mono ?_); rintro e w1 ⟨rfl, rfl⟩) | (go_at_call 7; (with_reducible refine H2.out.mono ?_); rintro e w1 ⟨rfl, rfl⟩))
   go_ret
   exact ⟨rfl, Ext.here _⟩
  ·by_cases h3 : 0 ≤ c
   ·have e : (decide (a < 0) && (decide (0 ≤ b) || decide (0 ≤ c) || l || !m)) = true := by simp [h1, h3]
    rw [e]
    go_enter Tryz.func6, Tryz.ntmps6
    go_wp2_with (first | (go_at_call 7; (with_reducible refine H1.out.mono ?_); rintro e w1 ⟨rfl, rfl⟩) | (go_at_call 7; (with_reducible refine H2.out.mono ?_); rintro e w1 ⟨rfl, rfl⟩) | (go_at_call 7; (with_reducible refine H3.out.mono ?_); rintro e w1 ⟨rfl, rfl⟩))
    go_ret
    exact ⟨rfl, Ext.here _⟩
   ·cases l with
    | true =>
     have e : (decide (a < 0) && (decide (0 ≤ b) || decide (0 ≤ c) || true || !m)) = true := by simp [h1]
     rw [e]
     go_enter Tryz.func6, Tryz.ntmps6
     go_wp2_with (first | (go_at_call 7; (with_reducible refine H1.out.mono ?_); rintro e w1 ⟨rfl, rfl⟩) | (go_at_call 7; (with_reducible refine H2.out.mono ?_); rintro e w1 ⟨rfl, rfl⟩) | (go_at_call 7; (with_reducible refine H3.out.mono ?_); rintro e w1 ⟨rfl, rfl⟩))
     go_ret
     exact ⟨rfl, Ext.here _⟩
    | false =>
     have e : (decide (a < 0) && (decide (0 ≤ b) || decide (0 ≤ c) || false || !m)) = !m := by simp [h1, h2, h3]
     rw [e]
     go_enter Tryz.func6, Tryz.ntmps6
     go_wp2_with (first | (go_at_call 7; (with_reducible refine H1.out.mono ?_); rintro e w1 ⟨rfl, rfl⟩) | (go_at_call 7; (with_reducible refine H2.out.mono ?_); rintro e w1 ⟨rfl, rfl⟩) | (go_at_call 7; (with_reducible refine H3.out.mono ?_); rintro e w1 ⟨rfl, rfl⟩) | (go_at_call 13; (with_reducible refine H4.out.mono ?_); rintro e w1 ⟨t, rfl, ht, y, rfl⟩; have q1 := Q1.out t ht))
     go_ret
     exact ⟨by simp; intro h; omega, y, rfl⟩
 ·have e : (decide (a < 0) && (decide (0 ≤ b) || decide (0 ≤ c) || l || !m)) = false := by simp [h1]
  rw [e]
  go_enter Tryz.func6, Tryz.ntmps6
  go_wp2_with (first | (go_at_call 7; (with_reducible refine H1.out.mono ?_); rintro e w1 ⟨rfl, rfl⟩))
  go_ret
  exact ⟨rfl, Ext.here _⟩

end Go.Proofs.YtkbmigfkclnlaaaGreatDoor
namespace Go.Proofs.YtkbmigfkclnlaaaGreatDoor
open Go.RowKit Go.Rx
attribute [local go_sem] Ext.cell Ext.frozen Ext.lt Ext.lt_add Ext.cell2 Ext.frozen2

theorem iterPos_of {w : World} {k : Nat} {s : ByteArray} {p : Nat} (h : w.heap[k]? = some (.stringIter s p)) : w.iterPos k = p := by simp [World.iterPos, h]

theorem ownsRow_iterAt {w : World} {base : Nat} {e : TypeId} {size : Nat} {v : Value} {n : Nat} {xs : List Value} (h : w.ownsRow base e size v n xs) {k : Nat} (hk : k < base) (s : ByteArray) (p : Nat) : (w.iterAt k s p).ownsRow base e size v n xs := by
 obtain ⟨h1, h2⟩ := h
 refine ⟨h1, ?_⟩
 rcases h2 with h2 | ⟨g, cap, cur, a, b, c, d⟩
 ·exact .inl h2
 ·exact .inr ⟨g, cap, cur, a, b, by rw [Lib.iterAt_other _ _ _ _ _ (by omega)]; exact c, d⟩

set_option maxRecDepth 1000000 in
set_option maxHeartbeats 2000000 in
theorem irune_any (s : ByteArray) (c : Nat) (hp : Plain s) (hc : c < 128) (hs : s.size < 100000000000) (w : World) :
  Calls Tryz.prog 29 #[.string s, .int .i32 c] w fun e w' => e = .returned (.int .i64 (firstF c (nats s))) ∧ ∃ y : Ext w, w' = y.now := by
 have c0 : ((c : Int) == 65533) = false := by simp; omega
 have c1 : ¬ (c : Int) < 0 := by omega
 have c2 : ¬ (c : Int) > 1114111 := by omega
 have c3 : ¬ (55296 : Int) ≤ (c : Int) := by omega
 have c4 : ¬ (1114111 : Int) < (c : Int) := by omega
 have HP := Lib.hid hp
 clear hp
 go_enter Tryz.func29, Tryz.ntmps29
 go_wp2_with fail
 go_loopw [] (fun wr => ∃ pos : Nat, wr.heap[w.heap.size]? = some (.stringIter s pos) ∧ pos ≤ s.size ∧ firstF c (nats s) = (if firstF c ((nats s).drop pos) = -1 then -1 else (pos : Int) + firstF c ((nats s).drop pos)) ∧ Below w.heap.size w wr) (fun wr => s.size - wr.iterPos w.heap.size)
 case atStart => exact ⟨0, World.iter_heap w s 0, Nat.zero_le _, by rw [List.drop_zero]; split <;> simp_all, (Below.refl _ _).alloc (Nat.le_refl _) _⟩
 case round =>
  obtain ⟨pos, hit, hps, hrun, hbw⟩ := hrel
  have hpos0 := iterPos_of hit
  by_cases hlt : pos < s.size
  ·have hnx : ∀ ty, (Instr.next (.pointer (some ⟨w.heap.size, 0, none⟩)) true ty).run Tryz.prog wr = _ := fun ty => Lib.run_next_ascii_at wr w.heap.size s pos ty hit hlt (HP.out pos hlt)
   have hr := firstF_at (c := c) (l := nats s) (i := pos) (by rw [nats_length]; exact hlt)
   rw [nats_at s pos hlt] at hr
   have hit2 := Lib.iterAt_heap wr w.heap.size s pos (pos + 1) hit
   have hbw2 := Lib.below_iterAt hbw (k := w.heap.size) (Nat.le_refl _) s (pos + 1)
   obtain ⟨W1, hW1⟩ : ∃ W1, W1 = wr.iterAt w.heap.size s (pos + 1) := ⟨_, rfl⟩
   rw [← hW1] at hnx hit2 hbw2
   have HR := Lib.hid hr
   have HRUN := Lib.hid hrun
   have HI := Lib.hid hit2
   have HB := Lib.hid hbw2
   clear hr hrun hit2 hbw2 hW1 hit hbw
   by_cases hc : (s[pos]'hlt).toNat = c
   ·have hc' : (((s[pos]'hlt).toNat : Nat) : Int) = (c : Int) := by omega
    have e : firstF c (nats s) = (pos : Int) := by
     rw [HRUN.out, HR.out, if_pos hc]
     simp
    have E := Lib.hid e
    clear e hc
    go_wp2_with fail
    go_ret
    exact ⟨by rw [E.out]; rfl, Ext.of HB.out⟩
   ·have hc' : ¬ (((s[pos]'hlt).toNat : Nat) : Int) = (c : Int) := by omega
    have e : firstF c (nats s) = (if firstF c ((nats s).drop (pos + 1)) = -1 then -1 else ((pos + 1 : Nat) : Int) + firstF c ((nats s).drop (pos + 1))) := by
     rw [HRUN.out, HR.out, if_neg hc]
     by_cases hz : firstF c ((nats s).drop (pos + 1)) = -1
     ·rw [if_pos hz, if_pos hz, if_pos rfl]
     ·rw [if_neg hz, if_neg hz]
      have : (0 : Int) ≤ firstF c ((nats s).drop (pos + 1)) := by
       unfold firstF at hz ⊢
       split <;> simp_all
      rw [if_neg (by omega)]
      omega
    have E := Lib.hid e
    clear e hc
    go_wp2_with fail
    go_roundw
    case rel => exact ⟨pos + 1, HI.out, by omega, E.out, HB.out⟩
    case measure => rw [iterPos_of HI.out, hpos0]; omega
  ·have hnx : ∀ ty, (Instr.next (.pointer (some ⟨w.heap.size, 0, none⟩)) true ty).run Tryz.prog wr = _ := fun ty => Lib.run_next_end_at wr w.heap.size s pos ty hit hlt
   have e : firstF c (nats s) = -1 := by rw [hrun, firstF_end (by rw [nats_length]; omega), if_pos rfl]
   have E := Lib.hid e
   have HB := Lib.hid hbw
   clear e hrun hbw
   go_wp2_with fail
   go_ret
   exact ⟨by rw [E.out]; rfl, Ext.of HB.out⟩

set_option maxRecDepth 1000000 in
theorem crune_any (s : ByteArray) (c : Nat) (hp : Plain s) (hc : c < 128) (hs : s.size < 100000000000) (w : World) :
  Calls Tryz.prog 47 #[.string s, .int .i32 c] w fun e w' => e = .returned (.bool (decide (0 ≤ firstF c (nats s)))) ∧ ∃ y : Ext w, w' = y.now := by
 have H := Lib.hid (irune_any s c hp hc hs w)
 by_cases h : 0 ≤ firstF c (nats s)
 ·rw [decide_eq_true h]
  go_enter Tryz.func47, Tryz.ntmps47
  go_wp2_with (first | (go_at_call 29; (with_reducible refine H.out.mono ?_); rintro e w1 ⟨rfl, y, rfl⟩))
  go_ret
  exact ⟨by simp [h], y, rfl⟩
 ·rw [decide_eq_false h]
  go_enter Tryz.func47, Tryz.ntmps47
  go_wp2_with (first | (go_at_call 29; (with_reducible refine H.out.mono ?_); rintro e w1 ⟨rfl, y, rfl⟩))
  go_ret
  exact ⟨by simp [h], y, rfl⟩

theorem irune_lit (s : ByteArray) (c : Nat) (ci : Int) (h : (c : Int) = ci) (hp : Plain s) (hc : c < 128) (hs : s.size < 100000000000) (w : World) :
  Calls Tryz.prog 29 #[.string s, .int .i32 ci] w fun e w' => e = .returned (.int .i64 (firstF c (nats s))) ∧ ∃ y : Ext w, w' = y.now := by
 subst h
 exact irune_any s c hp hc hs w

theorem crune_lit (s : ByteArray) (c : Nat) (ci : Int) (h : (c : Int) = ci) (hp : Plain s) (hc : c < 128) (hs : s.size < 100000000000) (w : World) :
  Calls Tryz.prog 47 #[.string s, .int .i32 ci] w fun e w' => e = .returned (.bool (decide (0 ≤ firstF c (nats s)))) ∧ ∃ y : Ext w, w' = y.now := by
 subst h
 exact crune_any s c hp hc hs w

set_option maxRecDepth 1000000 in
set_option maxHeartbeats 2000000 in
theorem iany_any (s : ByteArray) (hp : Plain s) (hs : s.size < 100000000000) (w : World) :
  Calls Tryz.prog 71 #[.string s, .string ⟨#[46, 58]⟩] w fun e w' => ∃ n : Int, e = .returned (.int .i64 n) ∧ (0 ≤ n ↔ 46 ∈ nats s ∨ 58 ∈ nats s) ∧ ∃ y : Ext w, w' = y.now := by
 have hmem : ∀ (c pos : Nat) (h : pos < s.size), (s[pos]'h).toNat = c → c ∈ nats s := fun c pos h e => by
  have := nats_at s pos h
  rw [List.getD_eq_getElem?_getD, List.getElem?_eq_getElem (by rw [nats_length]; exact h)] at this
  rw [← e, ← this]
  exact List.getElem_mem _
 obtain ⟨T, hT⟩ : ∃ T : ByteArray, T = ⟨#[46, 58]⟩ := ⟨_, rfl⟩
 have hT2 : T.size = 2 := by rw [hT]; rfl
 have hTv : ∀ q (h : q < T.size), (T[q]'h).toNat = if q = 0 then 46 else 58 := by
  subst hT
  intro q h
  match q, h with
  | 0, _ => rfl
  | 1, _ => rfl
 rw [← hT]
 have HP := Lib.hid hp
 have HM := Lib.hid hmem
 have HTV := Lib.hid hTv
 clear hp hmem hT hTv
 go_enter Tryz.func71, Tryz.ntmps71
 go_wp2_with fail
 go_loopw [] (fun wr => ∃ pos : Nat, wr.heap[w.heap.size]? = some (.stringIter s pos) ∧ pos ≤ s.size ∧ (∀ j, j < pos → (nats s).getD j 0 ≠ 46 ∧ (nats s).getD j 0 ≠ 58) ∧ Below w.heap.size w wr) (fun wr => s.size - wr.iterPos w.heap.size)
 case atStart => exact ⟨0, World.iter_heap w s 0, Nat.zero_le _, fun j hj => absurd hj (by omega), (Below.refl _ _).alloc (Nat.le_refl _) _⟩
 case round =>
  obtain ⟨pos, hit, hps, hrun, hbw⟩ := hrel
  have hpos0 := iterPos_of hit
  by_cases hlt : pos < s.size
  ·have hnx : ∀ ty, (Instr.next (.pointer (some ⟨w.heap.size, 0, none⟩)) true ty).run Tryz.prog wr = _ := fun ty => Lib.run_next_ascii_at wr w.heap.size s pos ty hit hlt (HP.out pos hlt)
   have hit2 := Lib.iterAt_heap wr w.heap.size s pos (pos + 1) hit
   have hbw2 := Lib.below_iterAt hbw (k := w.heap.size) (Nat.le_refl _) s (pos + 1)
   obtain ⟨W1, hW1⟩ : ∃ W1, W1 = wr.iterAt w.heap.size s (pos + 1) := ⟨_, rfl⟩
   rw [← hW1] at hnx hit2 hbw2
   have hat := nats_at s pos hlt
   obtain ⟨c, hcc⟩ : ∃ c, c = (s[pos]'hlt).toNat := ⟨_, rfl⟩
   rw [← hcc] at hnx hat
   have HI := Lib.hid hit2
   have HB := Lib.hid hbw2
   have HR := Lib.hid hrun
   have HC := Lib.hid hcc
   have hlI : w.heap.size < W1.heap.size := (Array.getElem?_eq_some_iff.1 hit2).1
   clear hit2 hbw2 hW1 hit hbw hrun hcc
   go_wp2_with fail
   obtain ⟨K, hK⟩ : ∃ K, W1.heap.size = K := ⟨_, rfl⟩
   have hk0 := World.iter_heap W1 T 0
   rw [hK] at hk0 ⊢
   have hbk : Below w.heap.size w (W1.iter T 0) := HB.out.alloc (by omega) _
   have hik : (W1.iter T 0).heap[w.heap.size]? = some (.stringIter s (pos + 1)) := (Below.heap_alloc _ _ _ hlI).trans HI.out
   have HK0 := Lib.hid hk0
   have HBK := Lib.hid hbk
   have HIK := Lib.hid hik
   clear hk0 hbk hik
   go_loopw [] (fun wq => ∃ q : Nat, wq.heap[K]? = some (.stringIter T q) ∧ q ≤ 2 ∧ (∀ j, j < q → c ≠ if j = 0 then 46 else 58) ∧ wq.heap[w.heap.size]? = some (.stringIter s (pos + 1)) ∧ Below w.heap.size w wq) (fun wq => 2 - wq.iterPos K)
   case atStart => exact ⟨0, HK0.out, by omega, fun j hj => absurd hj (by omega), HIK.out, HBK.out⟩
   case round =>
    obtain ⟨q, hq, hq2, hqr, hqi, hqb⟩ := hrel
    have hq0 := iterPos_of hq
    by_cases hql : q < T.size
    ·have hv := HTV.out q hql
     have hnq : ∀ ty, (Instr.next (.pointer (some ⟨K, 0, none⟩)) true ty).run Tryz.prog wr = _ := fun ty => Lib.run_next_ascii_at wr K T q ty hq hql (by rw [hv]; split <;> omega)
     have hj2 := Lib.iterAt_heap wr K T q (q + 1) hq
     have hji : (wr.iterAt K T (q + 1)).heap[w.heap.size]? = some (.stringIter s (pos + 1)) := (Lib.iterAt_other wr K w.heap.size T (q + 1) (by omega)).trans hqi
     have hjb := Lib.below_iterAt hqb (k := K) (by omega) T (q + 1)
     obtain ⟨W2, hW2⟩ : ∃ W2, W2 = wr.iterAt K T (q + 1) := ⟨_, rfl⟩
     rw [← hW2] at hnq hj2 hji hjb
     rw [hv] at hnq
     obtain ⟨v, hvv⟩ : ∃ v, v = if q = 0 then 46 else 58 := ⟨_, rfl⟩
     rw [← hvv] at hnq
     have HJ := Lib.hid hj2
     have HJI := Lib.hid hji
     have HJB := Lib.hid hjb
     have HQR := Lib.hid hqr
     have HV := Lib.hid hvv
     clear hj2 hji hjb hqr hW2 hq hqi hqb hvv hv
     by_cases hcv : c = v
     ·have hcv' : (c : Int) = (v : Int) := by omega
      go_wp2_with fail
      go_ret
      refine ⟨_, rfl, ⟨fun _ => ?_, fun _ => by omega⟩, Ext.of HJB.out⟩
      have e1 := HV.out
      have e2 := HC.out
      by_cases h0 : q = 0
      ·rw [if_pos h0] at e1
       exact .inl (HM.out 46 pos hlt (by omega))
      ·rw [if_neg h0] at e1
       exact .inr (HM.out 58 pos hlt (by omega))
     ·have hcv' : ¬ (c : Int) = (v : Int) := by omega
      go_wp2_with fail
      go_roundw
      case rel =>
       refine ⟨q + 1, HJ.out, by omega, fun j hj => ?_, HJI.out, HJB.out⟩
       by_cases hjq : j = q
       ·subst hjq
        rw [← HV.out]
        exact hcv
       ·exact HQR.out j (by omega)
      case measure => rw [iterPos_of HJ.out, hq0]; omega
    ·have hnq : ∀ ty, (Instr.next (.pointer (some ⟨K, 0, none⟩)) true ty).run Tryz.prog wr = _ := fun ty => Lib.run_next_end_at wr K T q ty hq hql
     have hq22 : q = 2 := by omega
     subst hq22
     have HQR := Lib.hid hqr
     have HQI := Lib.hid hqi
     have HQB := Lib.hid hqb
     clear hqr hqi hqb hq
     go_wp2_with fail
     go_roundw
     case rel =>
      refine ⟨pos + 1, HQI.out, by omega, fun j hj => ?_, HQB.out⟩
      by_cases hjp : j = pos
      ·subst hjp
       rw [hat]
       have a1 := HQR.out 0 (by omega)
       have a2 := HQR.out 1 (by omega)
       exact ⟨by simpa using a1, by simpa using a2⟩
      ·exact HR.out j (by omega)
     case measure => rw [iterPos_of HQI.out, hpos0]; omega
  ·have hnx : ∀ ty, (Instr.next (.pointer (some ⟨w.heap.size, 0, none⟩)) true ty).run Tryz.prog wr = _ := fun ty => Lib.run_next_end_at wr w.heap.size s pos ty hit hlt
   have HB := Lib.hid hbw
   have HR := Lib.hid hrun
   clear hbw hrun
   go_wp2_with fail
   go_ret
   refine ⟨_, rfl, ⟨fun h => absurd h (by decide), fun h => ?_⟩, Ext.of HB.out⟩
   exfalso
   rcases h with h | h
   ·obtain ⟨i, hi, he⟩ := List.getElem_of_mem h
    rw [nats_length] at hi
    have := (HR.out i (by omega)).1
    rw [List.getD_eq_getElem?_getD, List.getElem?_eq_getElem (by rw [nats_length]; exact hi), he] at this
    exact this rfl
   ·obtain ⟨i, hi, he⟩ := List.getElem_of_mem h
    rw [nats_length] at hi
    have := (HR.out i (by omega)).2
    rw [List.getD_eq_getElem?_getD, List.getElem?_eq_getElem (by rw [nats_length]; exact hi), he] at this
    exact this rfl

end Go.Proofs.YtkbmigfkclnlaaaGreatDoor
namespace Go.Proofs.YtkbmigfkclnlaaaGreatDoor
open Go.RowKit Go.Rx
attribute [local go_sem] Ext.cell Ext.frozen Ext.lt Ext.lt_add Ext.cell2 Ext.frozen2

set_option maxRecDepth 1000000 in
theorem cany_any (s : ByteArray) (hp : Plain s) (hs : s.size < 100000000000) (w : World) :
  Calls Tryz.prog 46 #[.string s, .string ⟨#[46, 58]⟩] w fun e w' => e = .returned (.bool (decide (0 ≤ firstF 46 (nats s)) || decide (0 ≤ firstF 58 (nats s)))) ∧ ∃ y : Ext w, w' = y.now := by
 have hd : (decide (0 ≤ firstF 46 (nats s)) || decide (0 ≤ firstF 58 (nats s))) = decide (46 ∈ nats s ∨ 58 ∈ nats s) := by simp only [firstF_in, Bool.decide_or]
 rw [hd]
 have H := Lib.hid (iany_any s hp hs w)
 go_enter Tryz.func46, Tryz.ntmps46
 go_wp2_with (first | (go_at_call 71; (with_reducible refine H.out.mono ?_); rintro e w1 ⟨n, rfl, hn, y, rfl⟩))
 go_ret
 exact ⟨by simp [Bool.decide_or], y, rfl⟩

set_option maxRecDepth 1000000 in
theorem rindex_any {s : ByteArray} {a b : List Nat} (h : nats s = a ++ 47 :: b) (ha : 47 ∉ a) (w : World) (hs : s.size < 100000000000) :
  Calls Tryz.prog 70 #[.string s, .string ⟨#[47]⟩] w fun e w' => e = .returned (.int .i64 a.length) ∧ w' = w := by
 obtain ⟨k, hk⟩ : ∃ k, k = a.length := ⟨_, rfl⟩
 have hlt : k < s.size := by rw [← nats_length, h, hk]; simp
 have hat : (nats s).getD k 0 = 47 := by rw [h, hk, List.getD_eq_getElem?_getD]; simp
 have hbef : ∀ i, i < k → (nats s).getD i 0 ≠ 47 := by
  intro i hi e
  refine ha ?_
  rw [h, List.getD_eq_getElem?_getD, List.getElem?_append_left (by omega), List.getElem?_eq_getElem (by omega)] at e
  have e2 : a[i]'(by omega) = 47 := by simpa using e
  rw [← e2]
  exact List.getElem_mem _
 rw [← hk]
 have HBE := Lib.hid hbef
 clear hbef h ha hk
 go_enter Tryz.func70, Tryz.ntmps70
 go_wp2_with fail
 go_loopw [5] (fun t wr => ∃ i : Nat, t = .int .i64 i ∧ i ≤ k ∧ wr = w) (fun t _ => k - (intOf t).toNat)
 case atStart => exact ⟨0, rfl, Nat.zero_le _, rfl⟩
 case round =>
  obtain ⟨i, rfl, hik, rfl⟩ := hrel
  have p0 : (0 : Int) ≤ (i : Int) := by omega
  have p1 : (i : Int) + 1 ≤ (s.size : Int) := by omega
  have p2 : (0 : Int) ≤ (i : Int) + 1 := by omega
  have p3 : ((i : Int) + 1).toNat = i + 1 := by omega
  have p4 : (i : Int) ≤ (i : Int) + 1 := by omega
  have he := lit_nats (s.extract i (i + 1)) [47]
  rw [ext_one s i (by omega)] at he
  by_cases hlt2 : i < k
  ·have hq : ((s.extract i (i + 1)).toList == [(47 : UInt8)]) = false := by
    rw [he]
    exact decide_eq_false (fun e => by
     have : (nats s).getD i 0 = 47 := by simpa using e
     exact HBE.out i hlt2 this)
   clear he hat
   go_wp2_with fail
   exact ⟨⟨i + 1, by simp, by omega, trivial⟩, by simp [intOf]; omega⟩
  ·have hik2 : i = k := by omega
   subst hik2
   have hq : ((s.extract i (i + 1)).toList == [(47 : UInt8)]) = true := by
    rw [he, hat]
    rfl
   clear he hat
   go_wp2_with fail
   go_ret
   exact ⟨rfl, rfl⟩

set_option maxRecDepth 1000000 in
theorem cut_any {s d r : ByteArray} (h : nats s = nats d ++ 47 :: nats r) (hd : 47 ∉ nats d) (w : World) (hs : s.size < 100000000000) :
  Calls Tryz.prog 45 #[.string s, .string ⟨#[47]⟩] w fun e w' => e = .returned (.tuple #[.string d, .string r, .bool true]) ∧ ∃ y : Ext w, w' = y.now := by
 have H := Lib.hid (rindex_any h hd w hs)
 have hl := congrArg List.length h
 rw [nats_length, List.length_append, List.length_cons, nats_length, nats_length] at hl
 have x1 : s.extract 0 d.size = d := nats_inj (by rw [nats_take, h, ← nats_length d, List.take_left])
 have x2 : s.extract (d.size + 1) s.size = r := nats_inj (by
  rw [nats_drop, h, ← nats_length d, ← List.drop_drop, List.drop_left]
  rfl)
 have e1 : (nats d).length = d.size := nats_length d
 rw [e1] at H
 have p0 : (0 : Int) ≤ (d.size : Int) := by omega
 have p1 : (d.size : Int) ≤ (s.size : Int) := by omega
 have p2 : (d.size : Int) + 1 ≤ (s.size : Int) := by omega
 have p3 : ((d.size : Int) + 1).toNat = d.size + 1 := by omega
 have p4 : (0 : Int) ≤ (d.size : Int) + 1 := by omega
 have p5 : d.size ≤ s.size := by omega
 have p7 : IntKind.i64.wrap ((d.size : Int) + 1) = (d.size : Int) + 1 := by rw [IntKind.wrap_i64]; omega
 have p6 : d.size + 1 ≤ s.size := by omega
 clear h hd hl e1
 go_enter Tryz.func45, Tryz.ntmps45
 go_wp2_with (first | (go_at_call 70; (with_reducible refine H.out.mono ?_); rintro e w1 ⟨rfl, rfl⟩))
 refine wp_region_ext (by kernel_rfl) (by kernel_rfl) ?_
 repeat (quiet_step (fail))
 refine wpQuiet_nil ?_
 rintro w' ⟨y, rfl⟩
 go_wp2
 exact bodyPost_ret (v := .tuple #[.string d, .string r, .bool true]) (by simp [results, Tryz.results45, go_sem, x1, x2]) rfl ⟨rfl, y, rfl⟩

theorem u8_append (w : World) {ops : Array Oper} {rest : List Oper} {o : Oper} {a : Act} {Q : Exit → Act → World → Prop} (hgd : o.guard = none) (s x : Operand)
  (ho : o.op = .call { callee := .builtin .append, args := #[s, x], argTypes := #[47, 47] }) (base n : Nat) (v : Value) (xs : List Value) (hs : a.eval s = v)
  (hown : w.ownsRow base 5 1 v n xs) (ad : Addr) (c : Nat) (u : Value) (hx : a.eval x = .slice (some ad) 1 c)
  (hu : w.cell? ad = some u) (h1 : u.oneCell' = true) (hn : n < 100000000000) (hbase : base ≤ w.heap.size)
  (h : ∀ g cap w', w'.ownsRow base 5 1 (.slice (some ⟨g, 0, none⟩) (n + 1) cap) (n + 1) (xs ++ [u]) → w.grownBy w' v.ownBlock → wpList Tryz.prog ops Q rest (a.put o.dst (.slice (some ⟨g, 0, none⟩) (n + 1) cap)) w') :
  wpList Tryz.prog ops Q (o :: rest) a w := by
 obtain ⟨i, hi, hz0, hz1, hz2⟩ := info_parts byte_info
 refine wpList_append_lies w hgd s x 47 ho base 5 i _ 1 1 (by kernel_rfl) hi hz0 hz1 hz2 rfl (by omega) v n xs hs hown ad 1 c [u] hx rfl (fun j v hj => ?_) (fun v hv => ?_) (by omega) (by simp [maxLen]; omega) (by omega) hbase _ rfl (fun g cap w' a1 a2 a3 _ => h g cap w' a1 a2)
 ·cases j with
  | zero =>
   simp at hj
   subst hj
   simpa [Addr.add] using hu
  | succ j => simp at hj
 ·simp at hv
  subst hv
  exact h1

theorem u8_text (w : World) {ops : Array Oper} {rest : List Oper} {o : Oper} {a : Act} {Q : Exit → Act → World → Prop} (hgd : o.guard = none) (s x : Operand)
  (ho : o.op = .call { callee := .builtin .append, args := #[s, x], argTypes := #[47, 9] }) (base n : Nat) (v : Value) (xs : List Value) (hs : a.eval s = v)
  (hown : w.ownsRow base 5 1 v n xs) (b : UInt8) (hx : a.eval x = .string ⟨#[b]⟩) (hn : n < 100000000000) (hbase : base ≤ w.heap.size)
  (h : ∀ g cap w', w'.ownsRow base 5 1 (.slice (some ⟨g, 0, none⟩) (n + 1) cap) (n + 1) (xs ++ [.int .u8 ((b.toNat : Nat) : Int)]) → w.grownBy w' v.ownBlock → wpList Tryz.prog ops Q rest (a.put o.dst (.slice (some ⟨g, 0, none⟩) (n + 1) cap)) w') :
  wpList Tryz.prog ops Q (o :: rest) a w := by
 obtain ⟨i, hi, hz0, hz1, hz2⟩ := info_parts byte_info
 refine Lib.wpList_append_own_string w hgd s x 47 9 ho base 5 i (by kernel_rfl) (by kernel_rfl) hi hz0 hz1 hz2 v n xs hs hown ⟨#[b]⟩ hx (by show n + 1 ≤ _; simp [maxLen]; omega) (by show n + 1 ≤ _; omega) hbase fun v' w' h1 h2 _ => ?_
 have h1' : w'.ownsRow base 5 1 v' (n + 1) (xs ++ [.int .u8 ((b.toNat : Nat) : Int)]) := h1
 obtain ⟨g, cap, rfl, _⟩ := ownsRow_cell h1' (by omega)
 exact h g cap w' h1' h2

theorem encode_ascii (c : Nat) (h : c < 128) : Utf8.encode (c : Int) = ⟨#[UInt8.ofNat c]⟩ := by
 have hv : Utf8.valid (c : Int) = true := by
  unfold Utf8.valid
  simp
  omega
 unfold Utf8.encode
 simp only [hv, if_true, Int.toNat_natCast]
 rw [if_pos h]

theorem byteVals_snoc (l : List UInt8) (b : UInt8) : byteVals l ++ [.int .u8 ((b.toNat : Nat) : Int)] = byteVals (l ++ [b]) := by
 unfold byteVals
 rw [List.map_append]
 rfl

theorem low_snoc {l : List UInt8} {v : List Nat} (h : ∀ j, j < l.length → (l.getD j 0).toNat = lowc (v.getD j 0)) (b : UInt8) (hb : b.toNat = lowc (v.getD l.length 0)) :
  ∀ j, j < l.length + 1 → ((l ++ [b]).getD j 0).toNat = lowc (v.getD j 0) := by
 intro j hj
 by_cases e : j = l.length
 ·subst e
  rw [List.getD_eq_getElem?_getD]
  simpa using hb
 ·rw [List.getD_eq_getElem?_getD, List.getElem?_append_left (by omega), ← List.getD_eq_getElem?_getD]
  exact h j (by omega)

end Go.Proofs.YtkbmigfkclnlaaaGreatDoor
namespace Go.Proofs.YtkbmigfkclnlaaaGreatDoor
open Go.RowKit Go.Rx
attribute [local go_sem] Ext.cell Ext.frozen Ext.lt Ext.lt_add Ext.cell2 Ext.frozen2

theorem nil_text (w : World) : (convert 47 9 (.slice none 0 0)).run Tryz.prog w = .ok (.string ⟨#[]⟩) w := by kernel_rfl

structure LowAt (w : World) (s : ByteArray) (pos : Nat) (l : List UInt8) (v : Value) (wr : World) : Prop where
 len : l.length = pos
 le : pos ≤ s.size
 it : wr.heap[w.heap.size]? = some (.stringIter s pos)
 own : wr.ownsRow (w.heap.size + 1) 5 1 v pos (byteVals l)
 low : ∀ j, j < l.length → (l.getD j 0).toNat = lowc ((nats s).getD j 0)
 below : Below w.heap.size w wr

theorem LowAt.step {w : World} {s : ByteArray} {pos : Nat} {l : List UInt8} {v : Value} {wr : World} (h : LowAt w s pos l v wr) (hlt : pos < s.size) (b : UInt8) (hb : b.toNat = lowc (s[pos]'hlt).toNat)
  {o : List Obj} {w1 w2 : World} (hw1 : w1 = (wr.iterAt w.heap.size s (pos + 1)) ∨ ∃ o, w1 = (wr.iterAt w.heap.size s (pos + 1)).alloc o) {g cap : Nat}
  (hown : w2.ownsRow (w.heap.size + 1) 5 1 (.slice (some ⟨g, 0, none⟩) (pos + 1) cap) (pos + 1) (byteVals l ++ [.int .u8 ((b.toNat : Nat) : Int)])) (hgr : w1.grownBy w2 v.ownBlock) :
  LowAt w s (pos + 1) (l ++ [b]) (.slice (some ⟨g, 0, none⟩) (pos + 1) cap) w2 := by
 have hlt0 : w.heap.size < wr.heap.size := (Array.getElem?_eq_some_iff.1 h.it).1
 have i1 := Lib.iterAt_heap wr w.heap.size s pos (pos + 1) h.it
 have b1 := Lib.below_iterAt h.below (k := w.heap.size) (Nat.le_refl _) s (pos + 1)
 have s1 := Lib.iterAt_size wr w.heap.size s (pos + 1)
 have i2 : w1.heap[w.heap.size]? = some (.stringIter s (pos + 1)) := by
  rcases hw1 with rfl | ⟨o, rfl⟩
  ·exact i1
  ·exact (Below.heap_alloc _ _ _ (by omega)).trans i1
 have b2 : Below w.heap.size w w1 := by
  rcases hw1 with rfl | ⟨o, rfl⟩
  ·exact b1
  ·exact b1.alloc (by omega) _
 have hl2 : w.heap.size < w1.heap.size := (Array.getElem?_eq_some_iff.1 i2).1
 have hne : ∀ j, v.ownBlock = some j → w.heap.size + 1 ≤ j := fun j hj => (h.own.lt j hj).1
 refine ⟨by simp [h.len], by omega, ?_, ?_, ?_, ?_⟩
 ·rw [hgr.block w.heap.size hl2 (fun e => by have := hne _ e.symm; omega)]
  exact i2
 ·rw [← byteVals_snoc]
  exact hown
 ·rw [List.length_append]
  refine low_snoc h.low b ?_
  rw [h.len, nats_at s pos hlt]
  exact hb
 ·exact Below.grown b2 hgr (by omega) (fun j hj => by have := hne j hj; omega)

set_option maxRecDepth 1000000 in
set_option maxHeartbeats 4000000 in
theorem lower_any (s : ByteArray) (hp : Plain s) (hs : s.size < 8000000000) (w : World) :
  Calls Tryz.prog 30 #[.string s] w fun e w' => ∃ t : ByteArray, e = .returned (.string t) ∧ nats t = (nats s).map lowc ∧ ∃ y : Ext w, w' = y.now := by
 have HP := Lib.hid hp
 clear hp
 go_enter Tryz.func30, Tryz.ntmps30
 go_wp2_with fail
 go_loopw [3] (fun v wr => ∃ (pos : Nat) (l : List UInt8), LowAt w s pos l v wr) (fun _ wr => s.size - wr.iterPos w.heap.size)
 case atStart => exact ⟨0, [], rfl, Nat.zero_le _, World.iter_heap w s 0, World.ownsRow_nil _ _ _ _, fun j hj => absurd hj (by simp), (Below.refl _ _).alloc (Nat.le_refl _) _⟩
 case round =>
  obtain ⟨pos, l, hL⟩ := hrel
  have hpos0 := iterPos_of hL.it
  by_cases hlt : pos < s.size
  ·have hnx : ∀ ty, (Instr.next (.pointer (some ⟨w.heap.size, 0, none⟩)) true ty).run Tryz.prog wr = _ := fun ty => Lib.run_next_ascii_at wr w.heap.size s pos ty hL.it hlt (HP.out pos hlt)
   have hc := HP.out pos hlt
   have hlt0 : w.heap.size < wr.heap.size := (Array.getElem?_eq_some_iff.1 hL.it).1
   have s1 := Lib.iterAt_size wr w.heap.size s (pos + 1)
   have own1 := ownsRow_iterAt hL.own (k := w.heap.size) (by omega) s (pos + 1)
   have HS := Lib.hid (fun (b : UInt8) hb (w1 w2 : World) hw1 (g cap : Nat) hown hgr => hL.step hlt b hb (o := []) (w1 := w1) (w2 := w2) hw1 (g := g) (cap := cap) hown hgr)
   obtain ⟨W1, hW1⟩ : ∃ W1, W1 = wr.iterAt w.heap.size s (pos + 1) := ⟨_, rfl⟩
   rw [← hW1] at hnx s1 own1 HS
   obtain ⟨c, hcc⟩ : ∃ c, c = (s[pos]'hlt).toNat := ⟨_, rfl⟩
   rw [← hcc] at hnx hc HS
   have hle : w.heap.size + 1 ≤ W1.heap.size := by omega
   have OWN := Lib.hid own1
   clear own1 hL hW1 hcc
   have hle2 : w.heap.size + 1 ≤ (W1.alloc (.cells #[.int .u8 ((c : Int) - 65 + 97)] 5)).heap.size := by simp; omega
   have hb0 : ∀ n, n < 256 → (UInt8.ofNat n).toNat = n := fun n hn => by simp; omega
   have hen := encode_ascii c hc
   have k1 : ((c : Int) == 304) = false := by simp; omega
   have k2 : ((c : Int) == 8490) = false := by simp; omega
   have k3 : ¬ (c : Int) = 304 := by omega
   have k4 : ¬ (c : Int) = 8490 := by omega
   clear s1 hlt0
   by_cases ha : 65 ≤ c
   ·have ha' : (65 : Int) ≤ (c : Int) := by omega
    by_cases hz : c ≤ 90
    ·have hz' : (c : Int) ≤ 90 := by omega
     have hlc : lowc c = c + 32 := by unfold lowc; rw [if_pos ⟨ha, hz⟩]
     have hcv : (Value.int .u8 ((c : Int) - 65 + 97)) = .int .u8 (((UInt8.ofNat (c + 32)).toNat : Nat) : Int) := by rw [hb0 _ (by omega)]; congr 1; omega
     have HCV := Lib.hid hcv
     have HB := Lib.hid (show (UInt8.ofNat (c + 32)).toNat = lowc c by rw [hb0 _ (by omega), hlc])
     clear hcv hlc hb0 hen
     go_wp2_with (first | (at_builtin; refine u8_append _ rfl _ _ rfl (w.heap.size + 1) pos _ _ rfl (OWN.out.alloc _) ⟨W1.heap.size, 0, none⟩ 1 (.int .u8 ((c : Int) - 65 + 97)) rfl (by simp) rfl (by omega) hle2 ?_; intro g cap w2 hown hgr; rw [HCV.out] at hown hgr; have X := Lib.hid (HS.out _ HB.out _ _ (.inr ⟨_, rfl⟩) g cap hown hgr); clear hown hgr))
     go_roundw
     case rel => exact ⟨_, _, X.out⟩
     case measure => rw [iterPos_of X.out.it, hpos0]; omega
    ·have hz' : ¬ (c : Int) ≤ 90 := by omega
     have HB := Lib.hid (show (UInt8.ofNat c).toNat = lowc c by rw [hb0 _ (by omega)]; unfold lowc; rw [if_neg (fun h => hz h.2)])
     have HB0 := Lib.hid (hb0 c (by omega))
     clear hb0
     go_wp2_with (first | (at_builtin; refine u8_text _ rfl _ _ rfl (w.heap.size + 1) pos _ _ rfl OWN.out (UInt8.ofNat c) rfl (by omega) hle ?_; intro g cap w2 hown hgr; have X := Lib.hid (HS.out _ HB.out _ _ (.inl rfl) g cap hown hgr); clear hown hgr))
     go_roundw
     case rel => exact ⟨_, _, X.out⟩
     case measure => rw [iterPos_of X.out.it, hpos0]; omega
   ·have ha' : ¬ (65 : Int) ≤ (c : Int) := by omega
    have HB := Lib.hid (show (UInt8.ofNat c).toNat = lowc c by rw [hb0 _ (by omega)]; unfold lowc; rw [if_neg (fun h => ha h.1)])
    clear hb0
    go_wp2_with (first | (at_builtin; refine u8_text _ rfl _ _ rfl (w.heap.size + 1) pos _ _ rfl OWN.out (UInt8.ofNat c) rfl (by omega) hle ?_; intro g cap w2 hown hgr; have X := Lib.hid (HS.out _ HB.out _ _ (.inl rfl) g cap hown hgr); clear hown hgr))
    go_roundw
    case rel => exact ⟨_, _, X.out⟩
    case measure => rw [iterPos_of X.out.it, hpos0]; omega
  ·have hnx : ∀ ty, (Instr.next (.pointer (some ⟨w.heap.size, 0, none⟩)) true ty).run Tryz.prog wr = _ := fun ty => Lib.run_next_end_at wr w.heap.size s pos ty hL.it hlt
   obtain rfl : pos = s.size := by have := hL.le; omega
   have hlen := hL.len
   have hfin : nats ⟨l.toArray⟩ = (nats s).map lowc := low_whole (by rw [hlen, nats_length]) (fun j hj => hL.low j (by rw [nats_length] at hj; omega))
   have HF := Lib.hid hfin
   have HB := Lib.hid hL.below
   rcases hL.own.2 with ⟨hv, h0⟩ | ⟨g, cap, cur, hv, _⟩
   ·subst hv
    have hcv : (convert 47 9 (.slice none 0 0)).run Tryz.prog wr = .ok (.string ⟨l.toArray⟩) wr := by
     obtain rfl : l = [] := List.length_eq_zero_iff.1 (by omega)
     exact nil_text wr
    clear hL hfin hlen
    go_wp2_with fail
    go_ret
    exact ⟨_, rfl, HF.out, Ext.of HB.out⟩
   ·subst hv
    have hcell := hL.own.cells (g := g) rfl
    have hcv : (convert 47 9 (.slice (some ⟨g, 0, none⟩) s.size cap)).run Tryz.prog wr = .ok (.string ⟨l.toArray⟩) wr := by
     rw [← hlen]
     refine run_convert_bytes_back wr 47 9 5 ⟨g, 0, none⟩ cap l (by kernel_rfl) (by kernel_rfl) (by kernel_rfl) fun j hj => ?_
     have := hcell j (.int .u8 (((l[j]'hj).toNat : Nat) : Int)) (by unfold byteVals; rw [List.getElem?_map, List.getElem?_eq_getElem hj]; rfl)
     by_cases h0 : j = 0
     ·subst h0; simpa [Addr.add] using this
     ·simpa [Addr.add, h0] using this
    clear hL hfin hcell hlen
    go_wp2_with fail
    go_ret
    exact ⟨_, rfl, HF.out, Ext.of HB.out⟩

end Go.Proofs.YtkbmigfkclnlaaaGreatDoor
