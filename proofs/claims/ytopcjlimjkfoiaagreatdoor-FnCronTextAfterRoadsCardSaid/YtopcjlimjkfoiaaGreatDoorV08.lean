/-
FnCronTextAfterRoads: the calendar, the schedules, their texts and the zones, part 8 of 34.
-/
import Derived.Test.YtopcjlimjkfoiaaGreatDoorV07
import Derived.Test.YtopcjlimjkfoiaaGreatDoorV01
import Derived.Lib.Strings
import Derived.Lib.Hide
import Derived.Test.YtopcjlimjkfoiaaGreatDoorV05
import Derived.Laws.BitsAllLaws
set_option linter.all false
namespace Go.Proofs.YtopcjlimjkfoiaaGreatDoor
open Go.RowKit Go.Cal
attribute [local go_sem] Ext.cell Ext.frozen Ext.lt Ext.lt_add Ext.cell2 Ext.frozen2
attribute [local irreducible] wpQuiet

structure NW0 (w : World) (N : Nat) (w' : World) : Prop where
  n : N = w.heap.size
  y : ∃ y : Ext w, w' = y.now
  c0 : ∃ v, w'.cell? ⟨N, 0, none⟩ = some v
  c1 : ∃ v, w'.cell? ⟨N, 1, none⟩ = some v
  c2 : ∃ v, w'.cell? ⟨N, 2, none⟩ = some v
  f0 : w'.frozen? ⟨N, 0, none⟩ = false
  f1 : w'.frozen? ⟨N, 1, none⟩ = false
  f2 : w'.frozen? ⟨N, 2, none⟩ = false
  r0 : ∃ v, w'.cell? ⟨N + 1, 0, none⟩ = some v
  r1 : ∃ v, w'.cell? ⟨N + 1, 1, none⟩ = some v
  r2 : ∃ v, w'.cell? ⟨N + 1, 2, none⟩ = some v
  g0 : w'.frozen? ⟨N + 1, 0, none⟩ = false
  g1 : w'.frozen? ⟨N + 1, 1, none⟩ = false
  g2 : w'.frozen? ⟨N + 1, 2, none⟩ = false
  lt : N + 1 < w'.heap.size

theorem NW0.first (w : World) (a b c d e f : Value) (t t2 : TypeId) : NW0 w w.heap.size ((w.alloc (.cells #[a, b, c] t)).alloc (.cells #[d, e, f] t2)) := by
  refine ⟨rfl, Ext.alloc2 _ _ _, ⟨a, ?_⟩, ⟨b, ?_⟩, ⟨c, ?_⟩, ?_, ?_, ?_, ⟨d, ?_⟩, ⟨e, ?_⟩, ⟨f, ?_⟩, ?_, ?_, ?_, ?_⟩
  all_goals simp [go_sem]

theorem NW0.ext {w : World} {N : Nat} {w' : World} (h : NW0 w N w') (x : Ext w') : NW0 w N x.now := by
  have l1 := h.lt
  have l0 : N < w'.heap.size := by omega
  obtain ⟨y, rfl⟩ := h.y
  refine ⟨h.n, ⟨y.trans x, rfl⟩, ?_, ?_, ?_, ?_, ?_, ?_, ?_, ?_, ?_, ?_, ?_, ?_, x.lt _ l1⟩
  · rw [x.cell _ _ l0]; exact h.c0
  · rw [x.cell _ _ l0]; exact h.c1
  · rw [x.cell _ _ l0]; exact h.c2
  · rw [x.frozen _ _ l0]; exact h.f0
  · rw [x.frozen _ _ l0]; exact h.f1
  · rw [x.frozen _ _ l0]; exact h.f2
  · rw [x.cell _ _ l1]; exact h.r0
  · rw [x.cell _ _ l1]; exact h.r1
  · rw [x.cell _ _ l1]; exact h.r2
  · rw [x.frozen _ _ l1]; exact h.g0
  · rw [x.frozen _ _ l1]; exact h.g1
  · rw [x.frozen _ _ l1]; exact h.g2

theorem NW0.put {w : World} {N : Nat} {w' : World} (h : NW0 w N w') (a b c : Value) : NW0 w N (((w'.setCell ⟨N, 0, none⟩ a).setCell ⟨N, 1, none⟩ b).setCell ⟨N, 2, none⟩ c) := by
  obtain ⟨hn, ⟨y, hy⟩, ⟨w0, c0⟩, ⟨w1, c1⟩, ⟨w2, c2⟩, f0, f1, f2, ⟨v0, r0⟩, ⟨v1, r1⟩, ⟨v2, r2⟩, g0, g1, g2, lt⟩ := h
  refine ⟨hn, ?_, ⟨a, ?_⟩, ⟨b, ?_⟩, ⟨c, ?_⟩, ?_, ?_, ?_, ⟨v0, ?_⟩, ⟨v1, ?_⟩, ⟨v2, ?_⟩, ?_, ?_, ?_, ?_⟩
  · subst hy
    exact Ext.of (((y.below.setCell (Nat.le_of_eq hn.symm) _).setCell (Nat.le_of_eq hn.symm) _).setCell (Nat.le_of_eq hn.symm) _)
  all_goals (clear hy hn; simp [go_sem, c0, c1, c2, f0, f1, f2, r0, r1, r2, g0, g1, g2, lt])

theorem NW0.set {w : World} {N : Nat} {w' : World} (h : NW0 w N w') (t : Int) (p : Option Addr) : NW (((w'.setCell ⟨N, 0, none⟩ (.int .u64 0)).setCell ⟨N, 1, none⟩ (.int .i64 (t + 62135596800))).setCell ⟨N, 2, none⟩ (.pointer p)) N t p (((w'.setCell ⟨N, 0, none⟩ (.int .u64 0)).setCell ⟨N, 1, none⟩ (.int .i64 (t + 62135596800))).setCell ⟨N, 2, none⟩ (.pointer p)) := by
  obtain ⟨hn, hy, _, _, _, f0, f1, f2, r0, r1, r2, g0, g1, g2, lt⟩ := h.put (.int .u64 0) (.int .i64 (t + 62135596800)) (.pointer p)
  obtain ⟨-, -, ⟨w0, c0⟩, ⟨w1, c1⟩, ⟨w2, c2⟩, -, -, -, -, -, -, -, -, -, -⟩ := h
  refine ⟨Kp.refl _ _, ?_, ?_, ?_, f0, f1, f2, r0, r1, r2, g0, g1, g2, lt⟩
  all_goals (clear hy hn f0 f1 f2 r0 r1 r2 g0 g1 g2 lt; simp [go_sem, c0, c1, c2])

theorem NW.rebase {w : World} {N : Nat} {t : Int} {p : Option Addr} {w' : World} (h : NW w N t p w') : NW w' N t p w' := { h with y := Kp.refl _ _ }

theorem NW0.tpl {w : World} {N : Nat} {w' : World} {p : Option Addr} {z : Zn} (h : NW0 w N w') (hT : Tpl w p z) : Tpl w' p z := by
  obtain ⟨y, rfl⟩ := h.y
  exact hT.ext y

def LcAt (w' : World) (B l : Nat) (p : Option Addr) (z : Zn) : Prop :=
  (p = none ∧ z = utcZn ∧ B ≤ l ∧ w'.cell? ⟨l, 0, none⟩ = some (.bool true) ∧ w'.cell? ⟨l, 2, none⟩ = some (.slice none 0 0) ∧ l < w'.heap.size) ∨ p = some ⟨l, 0, none⟩

theorem LcAt.ext {w' : World} {B l : Nat} {p : Option Addr} {z : Zn} (h : LcAt w' B l p z) (x : Ext w') : LcAt x.now B l p z := by
  rcases h with ⟨h1, h2, h3, h4, h5, h6⟩ | h
  · exact .inl ⟨h1, h2, h3, by rw [x.cell _ _ h6]; exact h4, by rw [x.cell _ _ h6]; exact h5, x.lt _ h6⟩
  · exact .inr h

theorem LcAt.kp {w1 w' : World} {N B l : Nat} {p : Option Addr} {z : Zn} (h : LcAt w1 B l p z) (k : Kp w1 N w') (hB : N + 1 < B) : LcAt w' B l p z := by
  rcases h with ⟨h1, h2, h3, h4, h5, h6⟩ | h
  · exact .inl ⟨h1, h2, h3, by rw [k.cell _ _ h6 (by omega) (by omega)]; exact h4, by rw [k.cell _ _ h6 (by omega) (by omega)]; exact h5, Nat.lt_of_lt_of_le h6 k.size⟩
  · exact .inr h

theorem LcAt.lpl {w' : World} {B l : Nat} {p : Option Addr} {z : Zn} (h : LcAt w' B l p z) (hT : Tpl w' p z) : Lpl w' l p z := by
  rcases h with ⟨rfl, rfl, h3, h4, h5, h6⟩ | h
  · exact .utc h4 h5 h6
  · subst h
    cases hT with
    | zone h => exact .zone h

theorem utc_new (w : World) :
    Calls Tryz.prog 61 #[] w fun e w' => ∃ l, e = .returned (.pointer (some ⟨l, 0, none⟩)) ∧ w.heap.size ≤ l ∧ w'.cell? ⟨l, 0, none⟩ = some (.bool true) ∧ w'.cell? ⟨l, 2, none⟩ = some (.slice none 0 0) ∧ l < w'.heap.size ∧ ∃ y : Ext w, w' = y.now := by
  go_enter Tryz.func61, Tryz.ntmps61
  go_wp2
  go_ret
  refine ⟨_, rfl, Nat.le_refl _, by simp [go_sem], by simp [go_sem], by simp, ⟨_, (Below.refl _ _).alloc (Nat.le_refl _) _⟩, rfl⟩

theorem location_new {w : World} {B : Nat} {p : Option Addr} {z : Zn} (h : Tpl w p z) (hB : B ≤ w.heap.size) (n s : Int) :
    Calls Tryz.prog 161 #[tv n s p] w fun e w' => ∃ l, e = .returned (.pointer (some ⟨l, 0, none⟩)) ∧ ∃ y : Ext w, w' = y.now ∧ LcAt y.now B l p z := by
  cases h with
  | utc =>
    go_enter Tryz.func161, Tryz.ntmps161
    go_wp2_with (go_at_call 61; refine (utc_new _).mono ?_; rintro e w' ⟨l, rfl, hle, h0, h2, hl, y, rfl⟩)
    go_ret
    exact ⟨l, rfl, (Ext.one _ _).trans y, rfl, .inl ⟨rfl, rfl, Nat.le_trans (Nat.le_trans hB (by simp)) hle, h0, h2, hl⟩⟩
  | @zone l zb tb m ix _ hz =>
    go_enter Tryz.func161, Tryz.ntmps161
    go_wp2
    go_ret
    exact ⟨l, rfl, Ext.one _ _, rfl, .inr rfl⟩

theorem Ext.more {w w1 : World} (h : ∃ y : Ext w, w1 = y.now) (x : Ext w1) : ∃ y : Ext w, x.now = y.now := by
  obtain ⟨y, rfl⟩ := h
  exact ⟨y.trans x, rfl⟩

theorem NBk.of {w wb : World} {S lo lc : Nat} {f : Nat → Nat} {p : Option Addr} {z : Zn} (hz : Plain z) (hT : Tpl w p z) (hS : Sch w S f) (hE : ∃ y : Ext w, wb = y.now) (hc : LcAt wb (w.heap.size + 2) lc p z) (ho : LcAt wb (w.heap.size + 2) lo p z) : NBk wb w.heap.size S lo lc f p p z z := by
  refine ⟨fun w' k => ?_⟩
  obtain ⟨y, hy⟩ := k.below hE rfl
  have hT' : Tpl w' p z := by rw [hy]; exact hT.ext y
  exact ⟨hz, hT', (hc.kp k (by omega)).lpl hT', (ho.kp k (by omega)).lpl hT', by rw [hy]; exact hS.ext y⟩

def nxVal (r : Option Int) (q : Option Addr) : Value := match r with | none => tv 0 0 none | some t => tv 0 (t + 62135596800) q

def NGood (w : World) (N S : Nat) (f : Nat → Nat) (p q : Option Addr) (z zo : Zn) (t0 Bd : Int) (lim : Nat) (r : Option Int) (k : Nat) (a : Act) (w1 : World) : Prop :=
  ∃ t ad lo lc wb, (nxPar z lim f).Run Bd k ⟨.wr, t, ad⟩ r ∧ (ad = false → t = t0) ∧ NBk wb N S lo lc f p q z zo ∧ (∃ y : Ext w, wb = y.now) ∧ NFr S N lo lc ad ((lim : Int) - 292277022400) a ∧ NW wb N t p w1

theorem good_tail {w : World} {N S : Nat} {f : Nat → Nat} {p q : Option Addr} {z zo : Zn} {t0 Bd : Int} {lim : Nat} {r : Option Int} {k : Nat} {a : Act} {w1 : World} (h : NGood w N S f p q z zo t0 Bd lim r k a w1) (hBd : Bd ≤ 20000000000000) (ht0 : -62135596800 ≤ t0)
    (Q : Exit → Act → World → Prop) (hret : ∀ wb lo lc a w2, (∃ y : Ext w, wb = y.now) → NEnd wb S N lo lc q r a w2 → Q .ret a w2)
    (hw : ∀ k' a w2, k' < k → NGood w N S f p q z zo t0 Bd lim r k' a w2 → Q (.goto 0) a w2) : nxTail.wp Tryz.prog Q a w1 := by
  obtain ⟨t, ad, lo, lc, wb, hR, had, hB, hy, hf, hW⟩ := h
  exact tail_ok hB hBd ht0 hR had hf hW Q (fun a w2 h => hret wb lo lc a w2 hy h) (fun k' t' a w2 hk hR' hf' hW' => hw k' a w2 hk ⟨t', true, lo, lc, wb, hR', fun q => Bool.noConfusion q, hB, hy, hf', hW'⟩)

set_option maxRecDepth 1000000 in
theorem next_ret {w : World} {N S lo lc : Nat} {q : Option Addr} {r : Option Int} {a : Act} {wb w2 : World} (hN : N = w.heap.size) (hy : ∃ y : Ext w, wb = y.now) (h : NEnd wb S N lo lc q r a w2) :
    bodyPost Tryz.prog Tryz.f160 (fun e w' => e = .returned (nxVal r q) ∧ ∃ y : Ext w, w' = y.now) .ret a w2 := by
  obtain ⟨⟨ad, yl, hf⟩, k, c0, c1, c2⟩ := h
  cases hf
  cases r with
  | none => exact bodyPost_ret (v := tv 0 0 none) (by simp [results, Tryz.results160, go_sem, c0, c1, c2]) rfl ⟨rfl, k.below hy hN⟩
  | some t => exact bodyPost_ret (v := tv 0 (t + 62135596800) q) (by simp [results, Tryz.results160, go_sem, c0, c1, c2]) rfl ⟨rfl, k.below hy hN⟩

set_option maxRecDepth 1000000 in
set_option maxHeartbeats 4000000 in
theorem next_nil {w : World} {S : Nat} {f : Nat → Nat} {p : Option Addr} {z : Zn} {Bd : Int} {k : Nat} {r : Option Int} (hz : Plain z) (hT : Tpl w p z) (hS : Sch w S f) (h6 : w.cell? ⟨S, 6, none⟩ = some (.pointer none)) (n s : Int) (n0 : 0 ≤ n) (n1 : n < 1000000000) (s0 : -62135596801 ≤ s) (s1 : s ≤ 1000000000000) (hBd : Bd ≤ 20000000000000)
    (hR : (nxPar z (yr z (s + 1) + 5) f).Run Bd k ⟨.wr, s + 1, false⟩ r) :
    Calls Tryz.prog 160 #[.pointer (some ⟨S, 0, none⟩), tv n (s + 62135596800) p] w fun e w' => e = .returned (nxVal r p) ∧ ∃ y : Ext w, w' = y.now := by
  have hbn := nums hz (s + 1) (by omega) (by omega)
  have y1 := hbn.y1
  have HL := Lib.hid (fun (o o2 : Obj) (x : Ext ((w.alloc o).alloc o2)) => location_new (B := w.heap.size + 2) (((hT.alloc o).alloc o2).ext x) (by have := x.le; simpa using this) n (s + 62135596800))
  have HL0 := Lib.hid (fun (o o2 : Obj) => location_new (B := w.heap.size + 2) ((hT.alloc o).alloc o2) (by simp) n (s + 62135596800))
  have HN := Lib.hid (fun (o o2 : Obj) (x : Ext ((w.alloc o).alloc o2)) (y : Ext x.now) => calls_ext (x := y) (to_ext (nanoM_any n (s + 62135596800) p y.now n0 (by omega) )))
  have HA := Lib.hid (fun (o o2 : Obj) (x : Ext ((w.alloc o).alloc o2)) (y : Ext x.now) => calls_ext (x := y) (add_start n (s + 62135596800) p y.now n0 n1 (by omega) (by omega)))
  rw [show s + 62135596800 + 1 = s + 1 + 62135596800 by omega] at HA
  have HWn := Lib.hid (show IntKind.i64.wrap (1000000000 - IntKind.i64.wrap n) = 1000000000 - n by rw [wrap_i64 (n := n) (by omega) (by omega)]; exact wrap_i64 (by omega) (by omega))
  have hSl := hS.lt
  have hSl1 : S < w.heap.size + 1 := by omega
  have hSl2 : S < w.heap.size + 1 + 1 := by omega
  have hSl3 : S < w.heap.size + 2 := by omega
  go_enter Tryz.func160, Tryz.ntmps160
  go_wp2
  refine wp_scope_nat (fun l k a w1 => l = 0 ∧ NGood w w.heap.size S f p p z z (s + 1) Bd (yr z (s + 1) + 5) r k a w1) ?_ ?_
  · go_wp2_with (go_at_call 161; first
      | ((with_reducible refine (HL0.out _ _).mono ?_); rintro e w1 ⟨lo, rfl, x1, rfl, ho⟩)
      | ((with_reducible refine (HL.out _ _ _).mono ?_); rintro e w1 ⟨lc, rfl, x2', rfl, hc⟩; have ho2 := ho.ext x2'; obtain ⟨x2, hx2⟩ := Ext.both x1 x2'; rw [hx2] at hc ho2 ⊢; clear hx2 x2' ho))
    refine wp_region_ext_tail 6 (by kernel_rfl) (by kernel_rfl) ?_
    simp only [List.take_succ_cons, List.take_zero]
    iterate 5 (quiet_step ((go_at_call 84; with_reducible exact HN.out _ _ _ _)))
    rw [HWn.out]
    quiet_step ((go_at_call 162; with_reducible exact HA.out _ _ _ _))
    refine wpQuiet_nil ?_
    rintro w2 ⟨x3, rfl⟩
    simp only [List.drop_succ_cons, List.drop_zero]
    obtain ⟨x4, hx4⟩ := Ext.both x2 x3
    rw [hx4]
    have hc4 : LcAt x4.now (w.heap.size + 2) lc p z := by rw [← hx4]; exact hc.ext x3
    have ho4 : LcAt x4.now (w.heap.size + 2) lo p z := by rw [← hx4]; exact ho2.ext x3
    clear hx4 hc ho2 x3 x2
    have hM := (NW0.first w _ _ _ _ _ _ _ _).ext x4
    have k0 : x4.now.cell? ⟨w.heap.size, 0, none⟩ = some (.int .u64 n) := by rw [x4.cell _ _ (by simp; omega)]; simp [go_sem]
    have k1 : x4.now.cell? ⟨w.heap.size, 1, none⟩ = some (.int .i64 (s + 62135596800)) := by rw [x4.cell _ _ (by simp; omega)]; simp [go_sem]
    have k2 : x4.now.cell? ⟨w.heap.size, 2, none⟩ = some (.pointer p) := by rw [x4.cell _ _ (by simp; omega)]; simp [go_sem]
    have j0 := hM.f0; have j1 := hM.f1; have j2 := hM.f2
    have hM1 := hM.set (s + 1) p
    have HY := Lib.hid (yearM_any ((hM.put (.int .u64 0) (.int .i64 (s + 1 + 62135596800)) (.pointer p)).tpl hT) hz 0 (s + 1) (by decide) (by decide) (by omega) (by omega))
    have hM2 := Lib.hid ((hM.put (.int .u64 0) (.int .i64 (s + 1 + 62135596800)) (.pointer p)).y)
    have hMM := Lib.hid hM1
    clear hM hM1
    go_wp2_with (go_at_call 163; (with_reducible refine HY.out.mono ?_); rintro e w2 ⟨rfl, x5, rfl⟩)
    refine wp_label ?_
    have hWW : NW x5.now w.heap.size (s + 1) p x5.now := (hMM.out.ext x5).rebase
    have hEE : ∃ y : Ext w, x5.now = y.now := Ext.more hM2.out x5
    have hc5 : LcAt x5.now (w.heap.size + 2) lc p z := (hc4.kp ((((Kp.refl x4.now w.heap.size).set _ 0 _ (.inl rfl)).set _ 1 _ (.inl rfl)).set _ 2 _ (.inl rfl)) (by omega)).ext x5
    have ho5 : LcAt x5.now (w.heap.size + 2) lo p z := (ho4.kp ((((Kp.refl x4.now w.heap.size).set _ 0 _ (.inl rfl)).set _ 1 _ (.inl rfl)).set _ 2 _ (.inl rfl)) (by omega)).ext x5
    rename_i K hK
    refine hK _ _ ?_
    rw [show ((yr z (s + 1) : Nat) : Int) - 292277022400 + 5 = ((yr z (s + 1) + 5 : Nat) : Int) - 292277022400 by omega]
    exact good_tail ⟨s + 1, false, lo, lc, x5.now, hR, fun _ => rfl, NBk.of hz hT hS hEE hc5 ho5, hEE, .mk .., hWW⟩ hBd (by omega) _ (fun wb lo lc a w2 hy h => next_ret rfl hy h) (fun k' a w2 _ h => ⟨k', rfl, h⟩)
  · rintro k l a w1 ⟨rfl, h⟩
    refine ⟨nxRest, nx_label, ?_⟩
    rw [nx_tail]
    refine wp_seq (wp_skip ?_)
    exact good_tail h hBd (by omega) _ (fun wb lo lc a w2 hy h => next_ret rfl hy h) (fun k' a w2 hk h => ⟨k', hk, rfl, h⟩)

end Go.Proofs.YtopcjlimjkfoiaaGreatDoor
namespace Go.Proofs.YtopcjlimjkfoiaaGreatDoor
open Go.RowKit Go.Cal
attribute [local go_sem] Ext.cell Ext.frozen Ext.lt Ext.lt_add Ext.cell2 Ext.frozen2
attribute [local irreducible] wpQuiet

theorem NBk.of2 {w wb : World} {S lo L : Nat} {f : Nat → Nat} {p q : Option Addr} {z zo : Zn} (hz : Plain z) (hL : Lpl w L p z) (hT : Tpl w q zo) (hS : Sch w S f) (hE : ∃ y : Ext w, wb = y.now) (ho : LcAt wb (w.heap.size + 2) lo q zo) : NBk wb w.heap.size S lo L f p q z zo := by
  refine ⟨fun w' k => ?_⟩
  obtain ⟨y, hy⟩ := k.below hE rfl
  have hT' : Tpl w' q zo := by rw [hy]; exact hT.ext y
  have hL' : Lpl w' L p z := by rw [hy]; exact hL.ext y
  exact ⟨hz, hL'.tpl, hL', (ho.kp k (by omega)).lpl hT', by rw [hy]; exact hS.ext y⟩

set_option maxRecDepth 1000000 in
set_option maxHeartbeats 4000000 in
theorem next_loc {w : World} {S L : Nat} {f : Nat → Nat} {p q : Option Addr} {z zo : Zn} {Bd : Int} {k : Nat} {r : Option Int} (hz : Plain z) (hL : Lpl w L p z) (hT : Tpl w q zo) (hS : Sch w S f) (h6 : w.cell? ⟨S, 6, none⟩ = some (.pointer (some ⟨L, 0, none⟩))) (n s : Int) (n0 : 0 ≤ n) (n1 : n < 1000000000) (s0 : -62135596801 ≤ s) (s1 : s ≤ 1000000000000) (hBd : Bd ≤ 20000000000000)
    (hR : (nxPar z (yr z (s + 1) + 5) f).Run Bd k ⟨.wr, s + 1, false⟩ r) :
    Calls Tryz.prog 160 #[.pointer (some ⟨S, 0, none⟩), tv n (s + 62135596800) q] w fun e w' => e = .returned (nxVal r q) ∧ ∃ y : Ext w, w' = y.now := by
  have hbn := nums hz (s + 1) (by omega) (by omega)
  have y1 := hbn.y1
  have HL0 := Lib.hid (fun (o o2 : Obj) => location_new (B := w.heap.size + 2) ((hT.alloc o).alloc o2) (by simp) n (s + 62135596800))
  have HI := Lib.hid (fun (o o2 : Obj) (x : Ext ((w.alloc o).alloc o2)) (y : Ext x.now) => calls_ext (x := y) (in_l ((((hL.alloc o).alloc o2).ext x).ext y) n (s + 62135596800) q n0 (by omega)))
  have HN := Lib.hid (fun (W : World) (x : Ext W) => calls_ext (x := x) (to_ext (nanoM_any n (s + 62135596800) p x.now n0 (by omega))))
  have HA := Lib.hid (fun (W : World) (x : Ext W) => calls_ext (x := x) (add_start n (s + 62135596800) p x.now n0 n1 (by omega) (by omega)))
  rw [show s + 62135596800 + 1 = s + 1 + 62135596800 by omega] at HA
  have HWn := Lib.hid (show IntKind.i64.wrap (1000000000 - IntKind.i64.wrap n) = 1000000000 - n by rw [wrap_i64 (n := n) (by omega) (by omega)]; exact wrap_i64 (by omega) (by omega))
  have hSl := hS.lt
  have hSl1 : S < w.heap.size + 1 := by omega
  have hSl2 : S < w.heap.size + 1 + 1 := by omega
  have hSl3 : S < w.heap.size + 2 := by omega
  go_enter Tryz.func160, Tryz.ntmps160
  go_wp2
  refine wp_scope_nat (fun l k a w1 => l = 0 ∧ NGood w w.heap.size S f p q z zo (s + 1) Bd (yr z (s + 1) + 5) r k a w1) ?_ ?_
  · go_wp2_with (go_at_call 161; ((with_reducible refine (HL0.out _ _).mono ?_); rintro e w1 ⟨lo, rfl, x1, rfl, ho⟩))
    refine wp_region_ext_tail 6 (by kernel_rfl) (by kernel_rfl) ?_
    simp only [List.take_succ_cons, List.take_zero]
    repeat (quiet_step ((go_at_call 60; with_reducible exact HI.out _ _ _ _)))
    refine wpQuiet_nil ?_
    rintro w2 ⟨x3, rfl⟩
    simp only [List.drop_succ_cons, List.drop_zero]
    obtain ⟨x4, hx4⟩ := Ext.both x1 x3
    have ho4 := ho.ext x3
    rw [hx4] at ho4 ⊢
    clear hx4 x3 ho
    go_wp2
    have hM := (NW0.first w _ _ _ _ _ _ _ _).ext x4
    have k0 : x4.now.cell? ⟨w.heap.size, 0, none⟩ = some (.int .u64 n) := by rw [x4.cell _ _ (by simp; omega)]; simp [go_sem]
    have k1 : x4.now.cell? ⟨w.heap.size, 1, none⟩ = some (.int .i64 (s + 62135596800)) := by rw [x4.cell _ _ (by simp; omega)]; simp [go_sem]
    have k2 : x4.now.cell? ⟨w.heap.size, 2, none⟩ = some (.pointer q) := by rw [x4.cell _ _ (by simp; omega)]; simp [go_sem]
    have hM1 := hM.put (.int .u64 n) (.int .i64 (s + 62135596800)) (.pointer p)
    have ho5 := ho4.kp ((((Kp.refl x4.now w.heap.size).set _ 0 (.int .u64 n) (.inl rfl)).set _ 1 (.int .i64 (s + 62135596800)) (.inl rfl)).set _ 2 (.pointer p) (.inl rfl)) (by omega)
    have e0 : (((x4.now.setCell ⟨w.heap.size, 0, none⟩ (.int .u64 n)).setCell ⟨w.heap.size, 1, none⟩ (.int .i64 (s + 62135596800))).setCell ⟨w.heap.size, 2, none⟩ (.pointer p)).cell? ⟨w.heap.size, 0, none⟩ = some (.int .u64 n) := by simp [go_sem, k0, k1, k2]
    have e1 : (((x4.now.setCell ⟨w.heap.size, 0, none⟩ (.int .u64 n)).setCell ⟨w.heap.size, 1, none⟩ (.int .i64 (s + 62135596800))).setCell ⟨w.heap.size, 2, none⟩ (.pointer p)).cell? ⟨w.heap.size, 1, none⟩ = some (.int .i64 (s + 62135596800)) := by simp [go_sem, k0, k1, k2]
    have e2 : (((x4.now.setCell ⟨w.heap.size, 0, none⟩ (.int .u64 n)).setCell ⟨w.heap.size, 1, none⟩ (.int .i64 (s + 62135596800))).setCell ⟨w.heap.size, 2, none⟩ (.pointer p)).cell? ⟨w.heap.size, 2, none⟩ = some (.pointer p) := by simp [go_sem, k0, k1, k2]
    generalize ((x4.now.setCell ⟨w.heap.size, 0, none⟩ (.int .u64 n)).setCell ⟨w.heap.size, 1, none⟩ (.int .i64 (s + 62135596800))).setCell ⟨w.heap.size, 2, none⟩ (.pointer p) = W1 at *
    clear hM k0 k1 k2 ho4 x4 HI HL0 x1
    have d0 := hM1.f0; have d1 := hM1.f1; have d2 := hM1.f2
    have dl : w.heap.size < W1.heap.size := by have := hM1.lt; omega
    have HM1 := Lib.hid hM1
    clear hM1
    refine wp_region_ext_tail 6 (by kernel_rfl) (by kernel_rfl) ?_
    simp only [List.take_succ_cons, List.take_zero]
    iterate 5 (quiet_step ((go_at_call 84; with_reducible exact HN.out _ _)))
    rw [HWn.out]
    quiet_step ((go_at_call 162; with_reducible exact HA.out _ _))
    refine wpQuiet_nil ?_
    rintro w2 ⟨x5, rfl⟩
    simp only [List.drop_succ_cons, List.drop_zero]
    have ho6 := ho5.ext x5
    have hM2 := HM1.out.ext x5
    have HY := Lib.hid (yearM_any ((hM2.put (.int .u64 0) (.int .i64 (s + 1 + 62135596800)) (.pointer p)).tpl hL.tpl) hz 0 (s + 1) (by decide) (by decide) (by omega) (by omega))
    have hM3 := Lib.hid ((hM2.put (.int .u64 0) (.int .i64 (s + 1 + 62135596800)) (.pointer p)).y)
    have hMM := Lib.hid (hM2.set (s + 1) p)
    have g0 := hM2.f0; have g1 := hM2.f1; have g2 := hM2.f2
    have i0 : x5.now.cell? ⟨w.heap.size, 0, none⟩ = some (.int .u64 n) := by rw [x5.cell _ _ dl]; exact e0
    have i1 : x5.now.cell? ⟨w.heap.size, 1, none⟩ = some (.int .i64 (s + 62135596800)) := by rw [x5.cell _ _ dl]; exact e1
    have i2 : x5.now.cell? ⟨w.heap.size, 2, none⟩ = some (.pointer p) := by rw [x5.cell _ _ dl]; exact e2
    clear hM2
    go_wp2_with (go_at_call 163; (with_reducible refine HY.out.mono ?_); rintro e w2 ⟨rfl, x6, rfl⟩)
    refine wp_label ?_
    have hWW : NW x6.now w.heap.size (s + 1) p x6.now := (hMM.out.ext x6).rebase
    have hEE : ∃ y : Ext w, x6.now = y.now := Ext.more hM3.out x6
    have ho7 : LcAt x6.now (w.heap.size + 2) lo q zo := (ho6.kp ((((Kp.refl x5.now w.heap.size).set _ 0 _ (.inl rfl)).set _ 1 _ (.inl rfl)).set _ 2 _ (.inl rfl)) (by omega)).ext x6
    rename_i K hK
    refine hK _ _ ?_
    rw [show ((yr z (s + 1) : Nat) : Int) - 292277022400 + 5 = ((yr z (s + 1) + 5 : Nat) : Int) - 292277022400 by omega]
    exact good_tail ⟨s + 1, false, lo, L, x6.now, hR, fun _ => rfl, NBk.of2 hz hL hT hS hEE ho7, hEE, .mk .., hWW⟩ hBd (by omega) _ (fun wb lo lc a w2 hy h => next_ret rfl hy h) (fun k' a w2 _ h => ⟨k', rfl, h⟩)
  · rintro k l a w1 ⟨rfl, h⟩
    refine ⟨nxRest, nx_label, ?_⟩
    rw [nx_tail]
    refine wp_seq (wp_skip ?_)
    exact good_tail h hBd (by omega) _ (fun wb lo lc a w2 hy h => next_ret rfl hy h) (fun k' a w2 hk h => ⟨k', hk, rfl, h⟩)

end Go.Proofs.YtopcjlimjkfoiaaGreatDoor
namespace Go.Proofs.YtopcjlimjkfoiaaGreatDoor
open Go.RowKit

def nats (s : ByteArray) : List Nat := s.data.toList.map UInt8.toNat

theorem nats_length (s : ByteArray) : (nats s).length = s.size := by
  unfold nats
  rw [List.length_map, Array.length_toList]
  rfl

theorem nats_at (s : ByteArray) (p : Nat) (h : p < s.size) : (nats s).getD p 0 = (s[p]'h).toNat := by
  unfold nats
  rw [List.getD_eq_getElem?_getD, List.getElem?_map, Array.getElem?_toList]
  rw [Array.getElem?_eq_getElem (by simpa using h)]
  rfl

theorem nats_extract (s : ByteArray) (a b : Nat) : nats (s.extract a b) = ((nats s).take b).drop a := by
  unfold nats
  rw [ByteArray.data_extract, Array.toList_extract, List.extract_eq_drop_take', List.map_drop, List.map_take]

theorem nats_append (s t : ByteArray) : nats (s ++ t) = nats s ++ nats t := by
  unfold nats
  rw [ByteArray.data_append, Array.toList_append, List.map_append]

theorem nats_inj {s t : ByteArray} (h : nats s = nats t) : s = t := by
  refine WideShapes.bytes_inj ?_
  have hi : ∀ (a b : List UInt8), a.map UInt8.toNat = b.map UInt8.toNat → a = b := by
    intro a
    induction a with
    | nil => intro b hb; cases b with
      | nil => rfl
      | cons y b => simp at hb
    | cons x a ih => intro b hb; cases b with
      | nil => simp at hb
      | cons y b =>
        simp only [List.map_cons, List.cons.injEq] at hb
        rw [UInt8.toNat_inj.1 hb.1, ih b hb.2]
  exact hi _ _ h

theorem nats_lt (s : ByteArray) : ∀ x ∈ nats s, x < 256 := by
  intro x hx
  unfold nats at hx
  obtain ⟨y, _, rfl⟩ := List.mem_map.1 hx
  exact y.toNat_lt

theorem nats_nil : nats ByteArray.empty = [] := rfl
theorem nats_empty {t : ByteArray} (h : nats t = []) : t = ByteArray.empty := nats_inj (by rw [h, nats_nil])
theorem nats_take (s : ByteArray) (k : Nat) : nats (s.extract 0 k) = (nats s).take k := by rw [nats_extract, List.drop_zero]
theorem nats_drop (s : ByteArray) (k : Nat) : nats (s.extract k s.size) = (nats s).drop k := by rw [nats_extract, ← nats_length s, List.take_length]

theorem beq_nats (s t : ByteArray) : (s.toList == t.toList) = decide (nats s = nats t) := by
  by_cases h : nats s = nats t
  · rw [nats_inj h]
    simp
  · rw [decide_eq_false h]
    have hne : s ≠ t := fun e => h (by rw [e])
    exact beq_eq_false_iff_ne.2 fun e => hne (WideShapes.bytes_inj (by rw [← Lib.toList_data, e, Lib.toList_data]))

theorem lit_nats (s : ByteArray) (l : List UInt8) : (s.toList == l) = decide (nats s = l.map UInt8.toNat) := by
  have := beq_nats s ⟨l.toArray⟩
  have e : (ByteArray.mk l.toArray).toList = l := by rw [Lib.toList_data]
  rw [e] at this
  rw [this]
  have e2 : nats ⟨l.toArray⟩ = l.map UInt8.toNat := by unfold nats; simp
  rw [e2]

theorem ext_one (s : ByteArray) (i : Nat) (h : i < s.size) : nats (s.extract i (i + 1)) = [(nats s).getD i 0] := by
  rw [nats_extract]
  have hl : i < (nats s).length := by rw [nats_length]; exact h
  rw [List.drop_take, show i + 1 - i = 1 by omega, List.getD_eq_getElem?_getD, List.getElem?_eq_getElem hl, List.drop_eq_getElem_cons hl]
  rfl

def dig (c : Nat) : Bool := decide (48 ≤ c) && decide (c ≤ 57)
def blank (c : Nat) : Bool := decide (c = 32) || (decide (9 ≤ c) && decide (c ≤ 13))
def upc (c : Nat) : Nat := if 97 ≤ c ∧ c ≤ 122 then c - 32 else c

end Go.Proofs.YtopcjlimjkfoiaaGreatDoor
namespace Go.Proofs.YtopcjlimjkfoiaaGreatDoor
open Go.RowKit

theorem isDigit_any (c : Nat) (hc : c < 256) (w : World) : Calls Tryz.prog 105 #[.int .u8 c] w fun e w' => e = .returned (.bool (dig c)) ∧ w' = w := by
  unfold dig
  by_cases h : 48 ≤ c
  · have h' : (48 : Int) ≤ (c : Int) := by omega
    have e : decide (c ≤ 57) = decide ((c : Int) ≤ 57) := decide_eq_decide.2 (by omega)
    rw [decide_eq_true h, Bool.true_and, e]
    go_enter Tryz.func105, Tryz.ntmps105
    go_wp2
    go_ret
    exact ⟨rfl, rfl⟩
  · have h' : ¬ (48 : Int) ≤ (c : Int) := by omega
    rw [decide_eq_false h, Bool.false_and]
    go_enter Tryz.func105, Tryz.ntmps105
    go_wp2
    go_ret
    exact ⟨rfl, rfl⟩

theorem blank_any (c : Nat) (hc : c < 256) (w : World) : Calls Tryz.prog 38 #[.int .u8 c] w fun e w' => e = .returned (.bool (blank c)) ∧ w' = w := by
  rcases (show c = 32 ∨ (9 ≤ c ∧ c ≤ 13) ∨ c < 9 ∨ (13 < c ∧ ¬ c = 32) by omega) with h | h | h | h
  · rw [show blank c = true by subst h; rfl]
    have k0 : ((c : Int) == 32) = true := beq_iff_eq.2 (by omega)
    go_enter Tryz.func38, Tryz.ntmps38
    go_wp2
    go_ret
    exact ⟨rfl, rfl⟩
  · rw [show blank c = true by unfold blank; simp; omega]
    have k0 : ((c : Int) == 32) = false := beq_eq_false_iff_ne.2 (by omega)
    have k1 : (9 : Int) ≤ (c : Int) := by omega
    have k2 : (c : Int) ≤ 13 := by omega
    go_enter Tryz.func38, Tryz.ntmps38
    go_wp2
    go_ret
    exact ⟨rfl, rfl⟩
  · rw [show blank c = false by unfold blank; simp; omega]
    have k0 : ((c : Int) == 32) = false := beq_eq_false_iff_ne.2 (by omega)
    have k1 : ¬ (9 : Int) ≤ (c : Int) := by omega
    go_enter Tryz.func38, Tryz.ntmps38
    go_wp2
    go_ret
    exact ⟨rfl, rfl⟩
  · rw [show blank c = false by unfold blank; simp; omega]
    have k0 : ((c : Int) == 32) = false := beq_eq_false_iff_ne.2 (by omega)
    have k1 : (9 : Int) ≤ (c : Int) := by omega
    have k2 : ¬ (c : Int) ≤ 13 := by omega
    go_enter Tryz.func38, Tryz.ntmps38
    go_wp2
    go_ret
    exact ⟨rfl, rfl⟩

theorem upper_any (c : Nat) (hc : c < 256) (w : World) : Calls Tryz.prog 124 #[.int .u8 c] w fun e w' => e = .returned (.int .u8 (upc c : Nat)) ∧ w' = w := by
  rcases (show (97 ≤ c ∧ c ≤ 122) ∨ c < 97 ∨ 122 < c by omega) with h | h | h
  · rw [show ((upc c : Nat) : Int) = ((c : Int) - 97) + 65 by unfold upc; rw [if_pos h]; omega]
    have k0 : (97 : Int) ≤ (c : Int) := by omega
    have k1 : (c : Int) ≤ 122 := by omega
    have k2 : (c : Int) < 256 := by omega
    go_enter Tryz.func124, Tryz.ntmps124
    go_wp2
    go_ret
    exact ⟨rfl, rfl⟩
  · rw [show ((upc c : Nat) : Int) = (c : Int) by unfold upc; rw [if_neg (by omega)]]
    have k0 : ¬ (97 : Int) ≤ (c : Int) := by omega
    go_enter Tryz.func124, Tryz.ntmps124
    go_wp2
    go_ret
    exact ⟨rfl, rfl⟩
  · rw [show ((upc c : Nat) : Int) = (c : Int) by unfold upc; rw [if_neg (by omega)]]
    have k0 : (97 : Int) ≤ (c : Int) := by omega
    have k1 : ¬ (c : Int) ≤ 122 := by omega
    go_enter Tryz.func124, Tryz.ntmps124
    go_wp2
    go_ret
    exact ⟨rfl, rfl⟩

def worseV (a b : Nat) : Nat := if a = 0 ∨ b = 0 then 0 else max a b

theorem worse_any (a b : Nat) (ha : a < 1000) (hb : b < 1000) (w : World) : Calls Tryz.prog 26 #[.int .i64 a, .int .i64 b] w fun e w' => e = .returned (.int .i64 (worseV a b : Nat)) ∧ w' = w := by
  rcases (show a = 0 ∨ (¬ a = 0 ∧ b = 0) ∨ (¬ a = 0 ∧ ¬ b = 0) by omega) with h | h | h
  · rw [show ((worseV a b : Nat) : Int) = 0 by unfold worseV; rw [if_pos (.inl h)]; rfl]
    have k0 : ((a : Int) == 0) = true := beq_iff_eq.2 (by omega)
    go_enter Tryz.func26, Tryz.ntmps26
    go_wp2
    go_ret
    exact ⟨rfl, rfl⟩
  · rw [show ((worseV a b : Nat) : Int) = 0 by unfold worseV; rw [if_pos (.inr h.2)]; rfl]
    have k0 : ((a : Int) == 0) = false := beq_eq_false_iff_ne.2 (by omega)
    have k1 : ((b : Int) == 0) = true := beq_iff_eq.2 (by omega)
    go_enter Tryz.func26, Tryz.ntmps26
    go_wp2
    go_ret
    exact ⟨rfl, rfl⟩
  · rw [show ((worseV a b : Nat) : Int) = max (a : Int) (b : Int) by unfold worseV; rw [if_neg (by omega)]; omega]
    have k0 : ((a : Int) == 0) = false := beq_eq_false_iff_ne.2 (by omega)
    have k1 : ((b : Int) == 0) = false := beq_eq_false_iff_ne.2 (by omega)
    go_enter Tryz.func26, Tryz.ntmps26
    go_wp2
    all_goals (go_ret; refine ⟨?_, rfl⟩; show Ending.returned (Value.int .i64 _) = _; congr 2; omega)

theorem worse_fine {a b : Nat} : worseV a b = 1 ↔ a = 1 ∧ b = 1 := by
  unfold worseV
  split
  · omega
  · omega

def kLow (k : Int) : Nat := if k = 3 ∨ k = 4 then 1 else 0
def kHigh (k : Int) : Nat := if k = 2 then 23 else if k = 3 then 31 else if k = 4 then 12 else if k = 5 then 6 else 59

theorem low_any (k : Int) (w : World) : Calls Tryz.prog 91 #[.int .i64 k] w fun e w' => e = .returned (.int .i64 (kLow k : Nat)) ∧ w' = w := by
  rcases (show k = 3 ∨ k = 4 ∨ (¬ k = 3 ∧ ¬ k = 4) by omega) with h | h | h
  · rw [show ((kLow k : Nat) : Int) = 1 by subst h; rfl]
    go_enter Tryz.func91, Tryz.ntmps91
    go_wp2
    go_ret
    exact ⟨rfl, rfl⟩
  · rw [show ((kLow k : Nat) : Int) = 1 by subst h; rfl]
    go_enter Tryz.func91, Tryz.ntmps91
    go_wp2
    go_ret
    exact ⟨rfl, rfl⟩
  · rw [show ((kLow k : Nat) : Int) = 0 by unfold kLow; rw [if_neg (by omega)]; rfl]
    have k0 : (k == 3) = false := beq_eq_false_iff_ne.2 (by omega)
    have k1 : (k == 4) = false := beq_eq_false_iff_ne.2 (by omega)
    go_enter Tryz.func91, Tryz.ntmps91
    go_wp2
    go_ret
    exact ⟨rfl, rfl⟩

theorem high_any (k : Int) (w : World) : Calls Tryz.prog 92 #[.int .i64 k] w fun e w' => e = .returned (.int .i64 (kHigh k : Nat)) ∧ w' = w := by
  rcases (show k = 2 ∨ k = 3 ∨ k = 4 ∨ k = 5 ∨ (¬ k = 2 ∧ ¬ k = 3 ∧ ¬ k = 4 ∧ ¬ k = 5) by omega) with h | h | h | h | h
  · rw [show ((kHigh k : Nat) : Int) = 23 by subst h; rfl]
    go_enter Tryz.func92, Tryz.ntmps92
    go_wp2
    go_ret
    exact ⟨rfl, rfl⟩
  · rw [show ((kHigh k : Nat) : Int) = 31 by subst h; rfl]
    go_enter Tryz.func92, Tryz.ntmps92
    go_wp2
    go_ret
    exact ⟨rfl, rfl⟩
  · rw [show ((kHigh k : Nat) : Int) = 12 by subst h; rfl]
    go_enter Tryz.func92, Tryz.ntmps92
    go_wp2
    go_ret
    exact ⟨rfl, rfl⟩
  · rw [show ((kHigh k : Nat) : Int) = 6 by subst h; rfl]
    go_enter Tryz.func92, Tryz.ntmps92
    go_wp2
    go_ret
    exact ⟨rfl, rfl⟩
  · rw [show ((kHigh k : Nat) : Int) = 59 by unfold kHigh; rw [if_neg (by omega), if_neg (by omega), if_neg (by omega), if_neg (by omega)]; rfl]
    have k0 : (k == 2) = false := beq_eq_false_iff_ne.2 (by omega)
    have k1 : (k == 3) = false := beq_eq_false_iff_ne.2 (by omega)
    have k2 : (k == 4) = false := beq_eq_false_iff_ne.2 (by omega)
    have k3 : (k == 5) = false := beq_eq_false_iff_ne.2 (by omega)
    go_enter Tryz.func92, Tryz.ntmps92
    go_wp2
    go_ret
    exact ⟨rfl, rfl⟩

theorem bounds_any (k : Int) (w : World) : Calls Tryz.prog 70 #[.int .i64 k] w fun e w' => e = .returned (.agg #[.int .i64 (kLow k : Nat), .int .i64 (kHigh k : Nat), .int .i64 k]) ∧ ∃ y : Ext w, w' = y.now := by
  have HL := Lib.hid (fun w => low_any k w)
  have HH := Lib.hid (fun w => high_any k w)
  generalize kLow k = a at *
  generalize kHigh k = b at *
  go_enter Tryz.func70, Tryz.ntmps70
  go_wp2_with (first
    | (go_at_call 91; (with_reducible refine (HL.out _).mono ?_); rintro e w1 ⟨rfl, rfl⟩)
    | (go_at_call 92; (with_reducible refine (HH.out _).mono ?_); rintro e w1 ⟨rfl, rfl⟩))
  exact bodyPost_ret (v := .agg #[.int .i64 a, .int .i64 b, .int .i64 k]) (by simp [results, Tryz.results70, go_sem]) rfl ⟨rfl, Ext.alloc1 _ _⟩

theorem wraps_i64 (n : Int) (h₀ : 0 ≤ n) (h₁ : n < 2 ^ 63) : IntKind.i64.wrap n = n := by
  simp [IntKind.wrap, IntKind.bits, IntKind.signed]
  omega

theorem opt_and (o i : Nat) (ho : o < 512) (hi : i < 9) : bits .and .i64 (o : Int) ((2 ^ i : Nat) : Int) = if o.testBit i then ((2 ^ i : Nat) : Int) else 0 := by
  have hp : 2 ^ i ≤ 2 ^ 8 := Nat.pow_le_pow_right (by decide) (by omega)
  rw [(bits_nat .i64 63 (by decide) wraps_i64 o (2 ^ i) (by omega) (by omega)).1, Nat.and_comm, pow_and]
  cases o.testBit i <;> rfl

theorem opt_ne (o i : Nat) (ho : o < 512) (hi : i < 9) (c : Int) (hc : ((2 ^ i : Nat) : Int) = c) : (bits .and .i64 (o : Int) c != 0) = o.testBit i := by
  rw [← hc, opt_and o i ho hi]
  have : 0 < 2 ^ i := Nat.pow_pos (by decide)
  cases o.testBit i
  · rfl
  · simp only [if_true]
    exact bne_iff_ne.2 (by omega)

theorem two_any (o : Nat) (ho : o < 512) (w : World) : Calls Tryz.prog 17 #[.int .i64 o] w fun e w' => e = .returned (.bool (o.testBit 1 && o.testBit 7)) ∧ w' = w := by
  have h1 := opt_ne o 1 ho (by decide) 2 (by decide)
  have h7 := opt_ne o 7 ho (by decide) 128 (by decide)
  generalize o.testBit 1 = a at *
  generalize o.testBit 7 = b at *
  cases a <;> cases b
  all_goals
    go_enter Tryz.func17, Tryz.ntmps17
    go_wp2
    go_ret
    exact ⟨rfl, rfl⟩

theorem options_any (o : Int) (w : World) : Calls Tryz.prog 5 #[.int .i64 o] w fun e w' => e = .returned (.bool (decide (0 ≤ o) && decide (o < 512) && !(o.toNat.testBit 1 && o.toNat.testBit 7))) ∧ w' = w := by
  by_cases h : 0 ≤ o ∧ o < 512
  · obtain ⟨n, rfl⟩ := Int.eq_ofNat_of_zero_le h.1
    have h2 : (n : Int) < 512 := h.2
    have h0 : (0 : Int) ≤ (n : Int) := h.1
    have HT := Lib.hid (fun w => two_any n (by omega) w)
    rw [decide_eq_true h0, decide_eq_true h2, Int.toNat_natCast]
    generalize (n.testBit 1 && n.testBit 7) = t at *
    go_enter Tryz.func5, Tryz.ntmps5
    go_wp2_with (go_at_call 17; (with_reducible refine (HT.out _).mono ?_); rintro e w1 ⟨rfl, rfl⟩)
    go_ret
    exact ⟨by simp, rfl⟩
  · have e : (decide (0 ≤ o) && decide (o < 512) && !(o.toNat.testBit 1 && o.toNat.testBit 7)) = false := by
      have : (decide (0 ≤ o) && decide (o < 512)) = false := by simp; omega
      rw [this]; rfl
    rw [e]
    rcases Int.lt_or_le o 0 with h0 | h0
    · have h1 : ¬ 0 ≤ o := by omega
      go_enter Tryz.func5, Tryz.ntmps5
      go_wp2
      go_ret
      exact ⟨rfl, rfl⟩
    · have h1 : ¬ o < 512 := by omega
      go_enter Tryz.func5, Tryz.ntmps5
      go_wp2
      go_ret
      exact ⟨rfl, rfl⟩

end Go.Proofs.YtopcjlimjkfoiaaGreatDoor
