/-
FnRefNormalSelf: the regular expressions, the digest and the reference, part 22 of 26.
-/
import Derived.Test.YtkbmigfkclnlaaaGreatDoorV21
import Derived.Test.YtkbmigfkclnlaaaGreatDoorV20
import Derived.Test.YtkbmigfkclnlaaaGreatDoorV18
import Derived.Lib.Strings
set_option linter.all false
namespace Go.Proofs.YtkbmigfkclnlaaaGreatDoor
open Go.RowKit Go.Rx
attribute [local go_sem] ostep_method ostep_func
attribute [local go_sem] Ext.cell Ext.frozen Ext.lt Ext.lt_add Ext.cell2 Ext.frozen2
attribute [local go_sem] ints_nil

theorem dg_expand (n : Nat) : expand (dgRuns n) = [⟨5, 0, 0, []⟩, ⟨3, 2, 4, dgRunes⟩] ++ (((List.range n).map fun k => (⟨7, k + 3, 0, dgRunes⟩ : Inst)) ++ [⟨3, n + 3, 8, []⟩, ⟨4, 0, 0, []⟩]) := by
 have e : (Run.insts ⟨n, 7, 3, 1, 0, 0, dgRunes⟩) = (List.range n).map fun k => (⟨7, k + 3, 0, dgRunes⟩ : Inst) := by
  unfold Run.insts
  refine List.map_congr_left fun k _ => ?_
  unfold Run.inst
  dsimp only
  congr 1
  omega
 unfold expand dgRuns
 simp only [List.flatMap_cons, List.flatMap_nil, List.append_nil, e]
 rfl

theorem dg_one (n : Nat) : (expand (dgRuns n))[1]? = some ⟨3, 2, 4, dgRunes⟩ := by rw [dg_expand]; rfl
theorem dg_mid (n j : Nat) (h : j < n) : (expand (dgRuns n))[j + 2]? = some ⟨7, j + 3, 0, dgRunes⟩ := by
 rw [dg_expand, List.getElem?_append_right (by simp)]
 simp only [List.length_cons, List.length_nil, Nat.zero_add, Nat.reduceAdd, Nat.add_sub_cancel]
 rw [List.getElem?_append_left (by simpa using h), List.getElem?_map, List.getElem?_range h]
 rfl
theorem dg_end (n : Nat) : (expand (dgRuns n))[n + 2]? = some ⟨3, n + 3, 8, []⟩ ∧ (expand (dgRuns n))[n + 3]? = some ⟨4, 0, 0, []⟩ := by
 constructor
 ·rw [dg_expand, List.getElem?_append_right (by simp)]
  simp only [List.length_cons, List.length_nil, Nat.zero_add, Nat.reduceAdd, Nat.add_sub_cancel]
  rw [List.getElem?_append_right (by simp)]
  simp
 ·rw [dg_expand, List.getElem?_append_right (by simp)]
  simp only [List.length_cons, List.length_nil, Nat.zero_add, Nat.reduceAdd]
  rw [List.getElem?_append_right (by simp)]
  have : n + 3 - 2 - ((List.range n).map fun k => (⟨7, k + 3, 0, dgRunes⟩ : Inst)).length = 1 := by simp
  rw [this]
  rfl

theorem cls_shx : ∀ x : Nat, x < 128 → classTakes [48, 57, 97, 102] (x : Int) = shx x := by decide +kernel

def HexAll (s : ByteArray) : Prop := ∀ i (h : i < s.size), shx (s[i]'h).toNat = true
theorem HexAll.plain {s : ByteArray} (h : HexAll s) : Plain s := by
 intro i hi
 have := h i hi
 unfold shx dig at this
 simp at this
 omega
theorem HexAll.takes {s : ByteArray} (h : HexAll s) (p : Nat) (hp : p < s.size) : classTakes dgRunes (runeAt s p) = true := by
 have e : runeAt s p = ((s[p]'hp).toNat : Nat) := by unfold runeAt; rw [dif_pos hp]
 rw [e]
 show classTakes [48, 57, 97, 102] _ = true
 rw [cls_shx _ (h.plain p hp)]
 exact h p hp

theorem OnceR.chg {w w' : World} {R O G rb n m : Nat} {rs : List Run} (h : OnceR w R O G rb n rs m) (c : Chg [] w w') : OnceR w' R O G rb n rs m := by
 have cell : ∀ b o, b < w.heap.size → w'.cell? ⟨b, o, none⟩ = w.cell? ⟨b, o, none⟩ := fun b o hb => World.cell?_of_block (c.block b hb (by simp))
 obtain ⟨l1, l2, l3, l4⟩ := h.lt
 obtain ⟨cap, hi⟩ := h.insts
 refine ⟨(cell _ _ l1).trans h.one, (cell _ _ l1).trans h.pre, (cell _ _ l1).trans h.cond, (cell _ _ l1).trans h.min, ⟨cap, (cell _ _ l2).trans hi⟩, (cell _ _ l2).trans h.start, fun pc i hpc => ?_, fun i x hx => (cell _ _ l4).trans (h.rune i x hx), ?_⟩
 ·obtain ⟨a1, a2, a3, a4⟩ := h.at_ pc i hpc
  exact ⟨(cell _ _ l3).trans a1, (cell _ _ l3).trans a2, (cell _ _ l3).trans a3, fun h7 => (cell _ _ l3).trans (a4 h7)⟩
 ·have := c.size
  omega

section
variable {R O G rb n M : Nat} {s : ByteArray} {dst : Value} {w : World} {Q : Exit → Act → World → Prop}

def OTop (R M : Nat) (dst : Value) (s : ByteArray) (n : Nat) (w : World) (i : Nat) (a : Act) (w' : World) : Prop :=
 w' = w ∧ ∃ pc pos, i = n + 4 - pc ∧ pos ≤ n ∧ ((pc = 1 ∧ pos = 0) ∨ (2 ≤ pc ∧ pc = pos + 2) ∨ (pc = n + 3 ∧ pos = n)) ∧ OF R M pos dst (runeAt s pos) (runeAt s (pos + 1)) (wdAt s pos) (wdAt s (pos + 1)) (flagOf (runeAhead s pos) (runeAt s pos)) pc a

theorem once_loop {a : Act} (h : OnceAt w R O G rb n) (hn : s.size = n) (hx : HexAll s) (hb : n < 1000) (h0 : 0 < n) (hM0 : w.cell? ⟨M, 0, none⟩ = some (.string s)) (hM1 : w.cell? ⟨M, 1, none⟩ = some (.slice none 0 0)) (hMl : M < w.heap.size)
  (hfin : ∀ a, OL M dst true a → Q (.goto 0) a w) (hf : OF R M 0 dst (runeAt s 0) (runeAt s 1) (wdAt s 0) (wdAt s 1) (flagOf (-1) (runeAt s 0)) 1 a) : (Code.loop onBody).wp Tryz.prog Q a w := by
 obtain ⟨l1, l2, l3, l4⟩ := h.lt
 obtain ⟨cap, hi⟩ := h.insts
 have hs := hx.plain
 refine wp_loop_nat (OTop R M dst s n w) (n + 4 - 1) ⟨rfl, 1, 0, rfl, Nat.zero_le _, .inl ⟨rfl, rfl⟩, hf⟩ ?_
 rintro i a w' ⟨rfl, pc, pos, rfl, hpos, hc, hfr⟩
 rw [on_in]
 refine wp_block ?_
 obtain ⟨b1, b2, b3⟩ := ahead_bd s hs pos (by omega)
 obtain ⟨d1, d2, d3⟩ := rune_bd s hs pos
 by_cases hp1 : pc = 1
 ·have hp0 : pos = 0 := by omega
  subst hp1
  subst hp0
  obtain ⟨i0, i1, i2, _⟩ := h.at_ 1 _ (dg_one n)
  have hm := oflag_begin (flagOf (runeAhead s 0) (runeAt s 0)) w'
  rw [flag_hi _ _ b1 b2, decide_eq_true (b3.2 rfl)] at hm
  refine on_ew R M 0 dst _ _ _ _ _ 1 w' _ O G (n + 4) cap h.one l1 hi l2 l3 (by omega) (by omega) 2 4 (by omega) (by omega) i0 i1 i2 hm ?_ hfr
  intro a' hf'
  exact ⟨n + 4 - 2, by omega, rfl, 2, 0, rfl, by omega, .inr (.inl ⟨by omega, rfl⟩), hf'⟩
 ·by_cases hp2 : pc = n + 3
  ·have hpn : pos = n := by omega
   subst hpn
   subst hp2
   obtain ⟨i0, i1, i2, _⟩ := h.at_ (pos + 3) _ (dg_end pos).2
   exact on_match R M pos dst _ _ _ _ _ (pos + 3) w' _ O G (pos + 4) cap h.one l1 hi l2 l3 (by omega) (by omega) 0 (by omega) i0 i1 hM1 hMl hfin hfr
  ·have hpp : pc = pos + 2 := by omega
   subst hpp
   by_cases hlt : pos < n
   ·obtain ⟨i0, i1, i2, i3⟩ := h.at_ (pos + 2) _ (dg_mid n pos hlt)
    have hm := match_rune_at G ((pos + 2) * 5) rb 4 dgRunes (runeAt s pos) w' (i3 rfl) (fun i x hx => h.rune i x hx) (.inr (.inr (.inl rfl)))
    rw [hx.takes pos (by omega)] at hm
    have hw : wdAt s pos = 1 := wdAt_in (by omega)
    have hfl := oflag_new (runeAt s pos) (runeAt s (pos + 1)) w'
    have hah : runeAhead s (pos + 1) = runeAt s pos := by unfold runeAhead; rw [if_neg (by omega)]; rfl
    have hgo : ∀ a', OF R M (pos + 1) dst (runeAt s (pos + 1)) (runeAt s (pos + 2)) (wdAt s (pos + 1)) (wdAt s (pos + 2)) (flagOf (runeAt s pos) (runeAt s (pos + 1))) (pos + 3) a' → Exit.inBlock 3 (Exit.then (fun a' w1 => ∃ k', k' < n + 4 - (pos + 2) ∧ OTop R M dst s n w' k' a' w1) Q) .normal a' w' := by
     intro a' hf'
     refine ⟨n + 4 - (pos + 3), by omega, rfl, pos + 3, pos + 1, rfl, by omega, .inr (.inl ⟨by omega, rfl⟩), ?_⟩
     rw [hah]
     exact hf'
    by_cases hl2 : pos + 1 < n
    ·have hr1 : runeAt s (pos + 1) ≠ -1 := by
      have := (rune_bd s hs (pos + 1)).2.2
      omega
     have hw2 : wdAt s (pos + 1) = 1 := wdAt_in (by omega)
     exact on_rune_next R M pos dst _ _ _ _ _ (pos + 2) w' _ O G (n + 4) cap h.one l1 hi l2 l3 (by omega) (by omega) (pos + 3) (by omega) i0 i1 hm (by omega) (pos + 1) (by rw [hw]; rfl) (by omega) _ hfl hr1 (pos + 2) (by rw [hw2]; omega) (by omega) _ _ (ostep_at M (pos + 2) s hs (by omega) w' hM0) hgo hfr
    ·have hr1 : runeAt s (pos + 1) = -1 := runeAt_out (by omega)
     have hw2 : wdAt s (pos + 1) = 0 := wdAt_out (by omega)
     refine on_rune_last R M pos dst _ _ _ _ _ (pos + 2) w' _ O G (n + 4) cap h.one l1 hi l2 l3 (by omega) (by omega) (pos + 3) (by omega) i0 i1 hm (by omega) (pos + 1) (by rw [hw]; rfl) (by omega) _ hfl hr1 ?_ hfr
     intro a' hf'
     refine hgo a' ?_
     rw [runeAt_out (s := s) (p := pos + 2) (by omega), wdAt_out (s := s) (p := pos + 2) (by omega)]
     rw [hr1, hw2] at hf' ⊢
     exact hf'
   ·have hpn : pos = n := by omega
    subst hpn
    obtain ⟨i0, i1, i2, _⟩ := h.at_ (pos + 2) _ (dg_end pos).1
    have hm := oflag_end (flagOf (runeAhead s pos) (runeAt s pos)) w'
    rw [flag_lo _ _ d1 d2, decide_eq_true (by have := runeAt_out (s := s) (p := pos) (by omega); omega)] at hm
    refine on_ew R M pos dst _ _ _ _ _ (pos + 2) w' _ O G (pos + 4) cap h.one l1 hi l2 l3 (by omega) (by omega) (pos + 3) 8 (by omega) (by omega) i0 i1 i2 hm ?_ hfr
    intro a' hf'
    exact ⟨pos + 4 - (pos + 3), by omega, rfl, pos + 3, pos, rfl, by omega, .inr (.inr ⟨rfl, rfl⟩), hf'⟩

set_option maxRecDepth 1000000 in
set_option maxHeartbeats 4000000 in
theorem once_pass {R O G rb n : Nat} {s : ByteArray} {w : World} (h : OnceAt w R O G rb n) (hn : s.size = n) (hx : HexAll s) (hb : n < 1000) (h0 : 0 < n) (d : Nat) :
  Calls Tryz.prog 81 #[.pointer (some ⟨R, 0, none⟩), .nilIface, .slice none 0 0, .string s, .int .i64 0, .int .i64 0, .slice (some ⟨d, 0, none⟩) 0 0] w fun e w' => e = .returned (.slice (some ⟨d, 0, none⟩) 0 0) ∧ ∃ x : Ext w, w' = x.now := by
 obtain ⟨l1, l2, l3, l4⟩ := h.lt
 have c13 := h.cond
 have hnew := onew w
 have hb4 : bits .and .u8 4 4 = 4 := by rfl
 have H := Lib.hid h
 have HX := Lib.hid hx
 have HN := Lib.hid hn
 clear h hx hn
 go_enter Tryz.func81, Tryz.ntmps81
 go_wp2_with fail
 show (Code.scope onScope).wp Tryz.prog _ _ _
 refine wp_scope_nat (fun l k a w1 => l = 0 ∧ ∃ M, OL M (.slice (some ⟨d, 0, none⟩) 0 0) true a ∧ Blk w1 M [.string s, .slice none 0 0] 183 ∧ w.heap.size ≤ M ∧ ∃ x : Ext w, w1 = x.now) ?_ ?_
 ·conv => arg 2; whnf
  go_wp2_with (first | (go_at_call 95; (with_reducible refine hnew.mono ?_); rintro e w1 ⟨rfl, b1, k1, z1⟩; have t0 : w1.cell? ⟨w.heap.size, 0, none⟩ = some (.string ByteArray.empty) := (b1.cell 0).trans rfl; have t1 : w1.cell? ⟨w.heap.size, 1, none⟩ = some (.slice none 0 0) := (b1.cell 1).trans rfl; have tf0 := b1.free 0; have tf1 := b1.free 1; have tl := b1.lt))
  obtain ⟨M, hM⟩ : ∃ M, w.heap.size = M := ⟨_, rfl⟩
  rw [hM] at b1 t0 t1 tf0 tf1 tl ⊢
  obtain ⟨w2, hw2⟩ : ∃ w2, w2 = w1.setCell ⟨M, 1, none⟩ (.slice none 0 0) := ⟨_, rfl⟩
  rw [← hw2]
  have b2 : Blk w2 M [.string ByteArray.empty, .slice none 0 0] 183 := by
   have := b1.set 1 (.slice none 0 0)
   rw [← hw2] at this
   exact this
  have c12 : Chg [M] w w2 := by rw [hw2]; exact (k1.trans (Chg.set w1 M 1 _)).mono (fun b h _ => by simpa using h)
  have B2 := Lib.hid b2
  have C12 := Lib.hid c12
  clear hw2 b1 k1 t0 t1 tf0 tf1 tl z1 b2 c12
  go_loopw [61] (fun t wr => t = .int .i64 0 ∧ wr = w2) (fun _ _ => 0)
  case atStart => exact ⟨rfl, rfl⟩
  case round =>
   obtain ⟨rfl, rfl⟩ := hrel
   have b2 := B2.out
   have hl2 := b2.lt
   have hinit := oinputs_init wr M 0 s ByteArray.empty (by have := HN.out; omega) ((b2.cell 0).trans rfl) (b2.free 0) hl2
   have HI := Lib.hid hinit
   clear hinit b2
   go_wp2_with (first | (go_at_call 96; (with_reducible refine HI.out.mono ?_); rintro e w3 ⟨rfl, rfl⟩))
   obtain ⟨w3, hw3⟩ : ∃ w3, w3 = wr.setCell ⟨M, 0, none⟩ (.string s) := ⟨_, rfl⟩
   rw [← hw3]
   have b3 : Blk w3 M [.string s, .slice none 0 0] 183 := by rw [hw3]; exact B2.out.set 0 _
   have c13' : Chg [] w w3 := by
    rw [hw3]
    exact (C12.out.trans (Chg.set wr M 0 _)).mono (fun b h hlt => by simp at h; omega)
   have ho := H.out.chg c13'
   have m0 : w3.cell? ⟨M, 0, none⟩ = some (.string s) := (b3.cell 0).trans rfl
   have m1 : w3.cell? ⟨M, 1, none⟩ = some (.slice none 0 0) := (b3.cell 1).trans rfl
   have hl3 := b3.lt
   have hs := HX.out.plain
   have hsz : 0 < s.size := by have := HN.out; omega
   have hr : runeAt s 0 ≠ -1 := by have := (rune_bd s hs 0).2.2; omega
   have hw : wdAt s 0 = 1 := wdAt_in hsz
   have st0 : Calls Tryz.prog 184 #[.pointer (some ⟨M, 0, none⟩), .int .i64 0] w3 fun e w' => e = .returned (.tuple #[.int .i32 (runeAt s 0), .int .i64 (wdAt s 0 : Nat)]) ∧ w' = w3 := ostep_at M 0 s hs (by have := HN.out; omega) w3 m0
   have st1 : Calls Tryz.prog 184 #[.pointer (some ⟨M, 0, none⟩), .int .i64 1] w3 fun e w' => e = .returned (.tuple #[.int .i32 (runeAt s 1), .int .i64 (wdAt s 1 : Nat)]) ∧ w' = w3 := ostep_at M 1 s hs (by have := HN.out; omega) w3 m0
   have hfl := oflag_new (-1) (runeAt s 0) w3
   obtain ⟨i0, i1, i2, _⟩ := ho.at_ 1 _ (dg_one n)
   simp only [Nat.one_mul, Nat.reduceAdd] at i0 i1 i2
   have hmt := oflag_begin (flagOf (-1) (runeAt s 0)) w3
   rw [flag_hi _ _ (by omega) (by omega), decide_eq_true (by omega)] at hmt
   have d2 := ho.one
   have d6 := ho.pre
   obtain ⟨cap, dO⟩ := ho.insts
   have dO1 := ho.start
   obtain ⟨q1, q2, q3, q4⟩ := ho.lt
   have hsize : ByteArray.empty.size = 0 := rfl
   have A1 := Lib.hid st0
   have A2 := Lib.hid st1
   have A3 := Lib.hid hfl
   have A4 := Lib.hid hmt
   have A5 := Lib.hid ho
   have A6 := Lib.hid b3
   have A7 := Lib.hid c13'
   clear st0 st1 hfl hmt ho b3 c13' hw3
   go_wp2_with (first | (go_at_call 184; (with_reducible refine A1.out.mono ?_); rintro e w2 ⟨rfl, rfl⟩) | (go_at_call 184; (with_reducible refine A2.out.mono ?_); rintro e w2 ⟨rfl, rfl⟩) | (go_at_call 97; (with_reducible refine A3.out.mono ?_); rintro e w2 ⟨rfl, rfl⟩) | (go_at_call 98; (with_reducible refine A4.out.mono ?_); rintro e w2 ⟨rfl, rfl⟩))
   show (Code.loop onBody).wp Tryz.prog _ _ _
   refine once_loop A5.out HN.out HX.out hb h0 m0 m1 hl3 ?_ (by rw [hw]; constructor)
   intro a' hol
   show ∃ k', 0 = 0 ∧ ∃ M, OL M (.slice (some ⟨d, 0, none⟩) 0 0) true a' ∧ Blk _ M [.string s, .slice none 0 0] 183 ∧ w.heap.size ≤ M ∧ ∃ x : Ext w, _ = x.now
   exact ⟨0, rfl, M, hol, A6.out, by omega, Ext.of (A7.out.below (Nat.le_refl _) (fun b hb => by cases hb))⟩
 ·rintro k l a w1 ⟨rfl, M, hol, b1, hge, x, rfl⟩
  refine ⟨onRest, on_label, ?_⟩
  have m1 : x.now.cell? ⟨M, 1, none⟩ = some (.slice none 0 0) := (b1.cell 1).trans rfl
  have hl1 := b1.lt
  have hfree := ofree x.now M s ((b1.cell 0).trans rfl) (b1.free 0) hl1
  have HF := Lib.hid hfree
  clear hfree hnew
  cases hol
  conv => arg 2; whnf
  go_wp2_with (first | (go_at_call 101; (with_reducible refine HF.out.mono ?_); rintro e w2 ⟨rfl, rfl⟩))
  simp only [Exit.jumps]
  go_ret
  have cM : Chg [M] w (x.now.setCell ⟨M, 0, none⟩ (.string ByteArray.empty)) := ((Chg.of_below x.below).trans (Chg.set x.now M 0 _)).mono (fun b h _ => by simpa using h)
  exact ⟨rfl, Ext.of (cM.below (Nat.le_refl _) (fun b hb => by simp at hb; omega))⟩

set_option maxRecDepth 1000000 in
set_option maxHeartbeats 4000000 in
theorem once_match {R O G rb n : Nat} {s : ByteArray} {w : World} (h : OnceAt w R O G rb n) (hn : s.size = n) (hx : HexAll s) (hb : n < 1000) (h0 : 0 < n) :
  Calls Tryz.prog 26 #[.pointer (some ⟨R, 0, none⟩), .string s] w fun e w' => e = .returned (.bool true) ∧ ∃ x : Ext w, w' = x.now := by
 have hfind : Calls Tryz.prog 69 #[.pointer (some ⟨R, 0, none⟩), .nilIface, .slice none 0 0, .string s, .int .i64 0, .int .i64 0, .slice none 0 0] w fun e w' => ∃ d, e = .returned (.slice (some ⟨d, 0, none⟩) 0 0) ∧ ∃ x : Ext w, w' = x.now := by
  have m14 := h.min
  have hl := h.lt.1
  have hs : (s.size : Int) = (n : Int) := by omega
  have hlt : IntKind.i64.wrap (0 + (s.size : Int)) = (s.size : Int) := by rw [Int.zero_add, Go.IntWalk.i64_left]; exact Go.IntWalk.wrap64_in _ (by omega)
  have sl_nil : ∀ w : World, (binOp BinOp.eql 128 (.slice none 0 0) (.slice none 0 0)).run Tryz.prog w = .ok (.bool true) w := fun w => by kernel_rfl
  have H := Lib.hid h
  have HX := Lib.hid hx
  have HN := Lib.hid hn
  clear h hx hn
  go_enter Tryz.func69, Tryz.ntmps69
  go_wp2_with (first | (go_at_call 81; (with_reducible refine (once_pass (H.out.chg (Chg.alloc w _)) HN.out HX.out hb h0 _).mono ?_); rintro e w1 ⟨rfl, x, rfl⟩))
  go_ret
  exact ⟨_, rfl, Ext.via x⟩
 have hmatch : Calls Tryz.prog 44 #[.pointer (some ⟨R, 0, none⟩), .nilIface, .slice none 0 0, .string s] w fun e w' => e = .returned (.bool true) ∧ ∃ x : Ext w, w' = x.now := by
  have ints_nn : ∀ (A : Nat) (w : World), (binOp BinOp.neq 128 (.slice (some ⟨A, 0, none⟩) 0 0) (.slice none 0 0)).run Tryz.prog w = .ok (.bool true) w := fun A w => by kernel_rfl
  have HF := Lib.hid hfind
  clear h hx hn hfind
  go_enter Tryz.func44, Tryz.ntmps44
  go_wp2_with (first | (go_at_call 69; (with_reducible refine HF.out.mono ?_); rintro e w1 ⟨d, rfl, x, rfl⟩))
  go_ret
  exact ⟨rfl, x, rfl⟩
 have HM := Lib.hid hmatch
 clear h hx hn hfind hmatch
 go_enter Tryz.func26, Tryz.ntmps26
 go_wp2_with (first | (go_at_call 44; (with_reducible refine HM.out.mono ?_); rintro e w1 ⟨rfl, x, rfl⟩))
 go_ret
 exact ⟨rfl, x, rfl⟩

end
end Go.Proofs.YtkbmigfkclnlaaaGreatDoor
namespace Go.Proofs.YtkbmigfkclnlaaaGreatDoor
open Go.RowKit Go.Rx

def idRuns : List Run := [⟨1, 5, 0, 0, 0, 0, []⟩, ⟨1, 3, 2, 0, 4, 0, dgRunes⟩, ⟨1, 2, 3, 0, 2, 0, dgRunes⟩, ⟨64, 7, 4, 1, 0, 0, dgRunes⟩, ⟨1, 2, 68, 0, 3, 0, []⟩, ⟨1, 3, 69, 0, 8, 0, []⟩, ⟨1, 4, 0, 0, 0, 0, []⟩]

noncomputable def idnBody : Code := Tryz.f25.body.getD .skip
noncomputable def idnRest : Code := dropSeq 3 idnBody
def idnW0 (w : World) : World := (w.alloc (runeObj dgRunes)).alloc (.cells #[] 21)
def idnSl (w : World) : Sl := (some ⟨w.heap.size, 0, none⟩, 4, 4)
def idnNo (w : World) : Sl := (some ⟨(w.alloc (runeObj dgRunes)).heap.size, 0, none⟩, 0, 0)
def idnL1 (w : World) : List (Run × Sl) := [(⟨1, 5, 0, 0, 0, 0, []⟩, none, 0, 0), (⟨1, 3, 2, 0, 4, 0, []⟩, none, 0, 0), (⟨1, 2, 3, 0, 2, 0, []⟩, none, 0, 0), (⟨64, 7, 4, 1, 0, 0, dgRunes⟩, idnSl w), (⟨1, 2, 68, 0, 3, 0, []⟩, none, 0, 0), (⟨1, 3, 69, 0, 8, 0, []⟩, none, 0, 0), (⟨1, 4, 0, 0, 0, 0, []⟩, none, 0, 0)]
def idnL2 (w : World) (nb : Nat) : List ORun := [((⟨1, 5, 0, 0, 0, 0, []⟩, none, 0, 0), ((none, 0, 0), 0)), ((⟨1, 3, 2, 0, 4, 0, dgRunes⟩, idnSl w), ((none, 0, 0), 0)), ((⟨1, 2, 3, 0, 2, 0, dgRunes⟩, idnSl w), ((none, 0, 0), 0)), ((⟨64, 7, 4, 1, 0, 0, dgRunes⟩, idnSl w), ((some ⟨nb, 0, none⟩, 3, 3), 1)), ((⟨1, 2, 68, 0, 3, 0, []⟩, idnNo w), ((none, 0, 0), 0)), ((⟨1, 3, 69, 0, 8, 0, []⟩, idnNo w), ((none, 0, 0), 0)), ((⟨1, 4, 0, 0, 0, 0, []⟩, none, 0, 0), ((none, 0, 0), 0))]
noncomputable def idnTo (w : World) := runTo Tryz.prog Tryz.f25.ntmps 3 idnBody [] w
theorem idn_rest : idnRest = .seq (.region 3 (lastOps idnRest) false) .ret := by kernel_rfl
theorem idn_to (w : World) : idnTo w = some (idnRest, knOf (idnTo w), idnW0 w) := by kernel_rfl
noncomputable def idnP1 (w : World) := runK Tryz.prog Tryz.f25.ntmps ((lastOps idnRest).toList.take 9) (knOf (idnTo w)) (idnW0 w)
theorem idn_p1 (w : World) : idnP1 w = some (knOf2 (idnP1 w), (idnW0 w).alloc (.cells (runsCells (idnL1 w)).toArray 79)) := by kernel_rfl
theorem idn_drop : (lastOps idnRest).toList.drop 9 = opN idnRest 9 :: ((lastOps idnRest).toList.drop 10).take 16 ++ opN idnRest 26 :: (lastOps idnRest).toList.drop 27 := by kernel_rfl
theorem idn_c1 : (opN idnRest 9).guard = none ∧ (opN idnRest 9).dst = some 14 ∧ (opN idnRest 26).guard = none ∧ (opN idnRest 26).dst = some 31 := ⟨by kernel_rfl, by kernel_rfl, by kernel_rfl, by kernel_rfl⟩
theorem idn_e1 (w w1 : World) : (execOp (evalK (knOf2 (idnP1 w))) (opN idnRest 9)).run Tryz.prog w1 = .ok (.enter 42 #[.slice (some ⟨(idnW0 w).heap.size, 0, none⟩) 7 7]) w1 := by kernel_rfl
noncomputable def idnP2 (w : World) (v : Value) (w1 : World) := runK Tryz.prog Tryz.f25.ntmps (((lastOps idnRest).toList.drop 10).take 16) ((14, v) :: knOf2 (idnP1 w)) w1
def idnW2 (w : World) (v : Value) (w1 : World) : World :=
 ((w1.alloc (.cells (progCells v 4).toArray 82)).alloc (.cells #[.int .u32 4, .int .u32 4, .int .u32 4] 86)).alloc (.cells ((idnL2 w ((w1.alloc (.cells (progCells v 4).toArray 82)).heap.size)).flatMap oCells).toArray 79)
theorem idn_p2 (w : World) (a : Option Addr) (i j : Nat) (w1 : World) : idnP2 w (.slice a i j) w1 = some (knOf2 (idnP2 w (.slice a i j) w1), idnW2 w (.slice a i j) w1) := by kernel_rfl
theorem idn_e2 (w : World) (a : Option Addr) (i j : Nat) (w1 w2 : World) : (execOp (evalK (knOf2 (idnP2 w (.slice a i j) w1))) (opN idnRest 26)).run Tryz.prog w2 = .ok (.enter 43 #[.slice (some ⟨((w1.alloc (.cells (progCells (.slice a i j) 4).toArray 82)).alloc (.cells #[.int .u32 4, .int .u32 4, .int .u32 4] 86)).heap.size, 0, none⟩) 7 7]) w2 := by kernel_rfl
noncomputable def idnP3 (w : World) (v : Value) (w1 : World) (v2 : Value) (w3 : World) := runK Tryz.prog Tryz.f25.ntmps ((lastOps idnRest).toList.drop 27) ((31, v2) :: knOf2 (idnP2 w v w1)) w3
noncomputable def idnText : ByteArray := match (opN idnRest 30).op with | .build _ p => strOf p.toList.head? | _ => ByteArray.empty
noncomputable def idnW3 (w1 : World) (v2 : Value) (w3 : World) : World :=
 ((w3.alloc (.cells (progCells v2 4).toArray 88)).alloc (.cells #[.string ByteArray.empty, .string ByteArray.empty] 9)).alloc (.cells #[.string idnText, .pointer (some ⟨w1.heap.size, 0, none⟩), .pointer (some ⟨w3.heap.size, 0, none⟩), .int .i64 1, .int .i64 0, .slice (some ⟨(w3.alloc (.cells (progCells v2 4).toArray 88)).heap.size, 0, none⟩) 2 2, .string ByteArray.empty, .slice none 0 0, .int .i32 0, .int .u32 1, .int .i64 0, .int .i64 4, .bool false, .int .u8 4, .int .i64 64, .bool false] 92)
theorem idn_p3 (w : World) (a : Option Addr) (i j : Nat) (w1 : World) (b : Option Addr) (i2 j2 : Nat) (w3 : World) : idnP3 w (.slice a i j) w1 (.slice b i2 j2) w3 = some (knOf2 (idnP3 w (.slice a i j) w1 (.slice b i2 j2) w3), idnW3 w1 (.slice b i2 j2) w3) := by kernel_rfl
theorem idn_ret (w : World) (a : Option Addr) (i j : Nat) (w1 : World) (b : Option Addr) (i2 j2 : Nat) (w3 : World) : look (knOf2 (idnP3 w (.slice a i j) w1 (.slice b i2 j2) w3)) 0 = .pointer (some ⟨((w3.alloc (.cells (progCells (.slice b i2 j2) 4).toArray 88)).alloc (.cells #[.string ByteArray.empty, .string ByteArray.empty] 9)).heap.size, 0, none⟩) := by kernel_rfl

theorem idn_any (w : World) : Calls Tryz.prog 25 #[] w fun e w' => ∃ R O G rb, e = .returned (.pointer (some ⟨R, 0, none⟩)) ∧ OnceR w' R O G rb 64 idRuns 70 ∧ ∃ x : Ext w, w' = x.now := by
 have ha := agree_start Tryz.f25.ntmps
 have h1 := idn_to w
 rw [idn_rest] at h1
 refine calls_of_wp Tryz.func25 (c := idnBody) (by kernel_rfl) ?_
 refine wp_part (k := 3) (m := 9) h1 (idn_p1 w) ?_ ha
 intro F hF a2 ha2
 rw [idn_drop]
 obtain ⟨c1, c2, c3, c4⟩ := idn_c1
 obtain ⟨w1, hw1⟩ : ∃ w1, w1 = (idnW0 w).alloc (.cells (runsCells (idnL1 w)).toArray 79) := ⟨_, rfl⟩
 rw [← hw1]
 have bR0 : Blk (idnW0 w) w.heap.size (dgRunes.map (Value.int .i32)) 21 := by unfold idnW0; exact (Blk.new w (dgRunes.map (Value.int .i32)) 21).alloc _
 have c0 : Chg [] w (idnW0 w) := by unfold idnW0; exact ((Chg.alloc _ _).trans (Chg.alloc _ _)).mono (fun _ h _ => by simp at h)
 have bL1 : Blk w1 (idnW0 w).heap.size (runsCells (idnL1 w)) 79 := by rw [hw1]; exact Blk.new _ _ _
 have c01 : Chg [] w w1 := by rw [hw1]; exact (c0.trans (Chg.alloc _ _)).mono (fun _ h _ => by simp at h)
 have bR1 : Blk w1 w.heap.size (dgRunes.map (Value.int .i32)) 21 := by rw [hw1]; exact bR0.alloc _
 have hok1 : ∀ x, x ∈ idnL1 w → RunOk x.1 := fun x hx => runOk_of (by
  simp only [idnL1, List.mem_cons, List.not_mem_nil, or_false] at hx
  rcases hx with rfl | rfl | rfl | rfl | rfl | rfl | rfl <;> (dsimp only; decide +kernel))
 have hz := ozz_insts w1 (idnW0 w).heap.size (idnL1 w) 7 (runsAt_blk bL1) bL1.lt hok1 (by show 7 ≤ 1000; omega)
 refine wpList_enter c1 ha2 (idn_e1 w w1) hz ?_
 rintro v w2 ⟨hwo, y, rfl⟩
 have htot : total ((idnL1 w).take (idnL1 w).length) = 70 := rfl
 have hwo2 := hwo
 rw [htot] at hwo2
 obtain ⟨g, cap, rfl, _, _, _⟩ := ownsRow_cell hwo2 (by omega)
 rw [c2]
 have ha3 := ha2.put 14 (of_decide_eq_true (by kernel_rfl)) (.slice (some ⟨g, 0, none⟩) 70 cap)
 refine wpList_run _ _ _ _ _ (idn_p2 w (some ⟨g, 0, none⟩) 70 cap y.now) ?_ _ ha3
 intro a4 ha4
 obtain ⟨w2, hw2⟩ : ∃ w2, w2 = idnW2 w (.slice (some ⟨g, 0, none⟩) 70 cap) y.now := ⟨_, rfl⟩
 rw [← hw2]
 have e1 : (y.now.alloc (.cells (progCells (.slice (some ⟨g, 0, none⟩) 70 cap) 4).toArray 82)).heap.size = y.now.heap.size + 1 := by simp
 have bN : Blk w2 (y.now.heap.size + 1) [.int .u32 4, .int .u32 4, .int .u32 4] 86 := by
  rw [hw2]; unfold idnW2
  rw [← e1]
  exact (Blk.new _ [.int .u32 4, .int .u32 4, .int .u32 4] 86).alloc _
 have bL2 : Blk w2 ((y.now.alloc (.cells (progCells (.slice (some ⟨g, 0, none⟩) 70 cap) 4).toArray 82)).alloc (.cells #[.int .u32 4, .int .u32 4, .int .u32 4] 86)).heap.size ((idnL2 w (y.now.heap.size + 1)).flatMap oCells) 79 := by
  rw [hw2]; unfold idnW2
  rw [e1]
  exact Blk.new _ _ _
 have cy2 : Chg [] y.now w2 := by rw [hw2]; unfold idnW2; exact (((Chg.alloc _ _).trans (Chg.alloc _ _)).trans (Chg.alloc _ _)).mono (fun _ h _ => by simp at h)
 have c02 : Chg [] w w2 := ((c01.trans (Chg.of_below y.below)).trans cy2).mono (fun _ h _ => by simp at h)
 have bR2 : Blk w2 w.heap.size (dgRunes.map (Value.int .i32)) 21 := (bR1.chg (Chg.of_below y.below) (by simp)).chg cy2 (by simp)
 have hnext : ∀ x, x ∈ idnL2 w (y.now.heap.size + 1) → NextAt w2 x.2.1 ∧ 0 ≤ x.2.2 ∧ x.2.2 ≤ 1 := by
  intro x hx
  simp only [idnL2, List.mem_cons, List.not_mem_nil, or_false] at hx
  rcases hx with rfl | rfl | rfl | rfl | rfl | rfl | rfl
  ·exact ⟨.inl rfl, by dsimp only; decide, by dsimp only; decide⟩
  ·exact ⟨.inl rfl, by dsimp only; decide, by dsimp only; decide⟩
  ·exact ⟨.inl rfl, by dsimp only; decide, by dsimp only; decide⟩
  ·refine ⟨.inr ⟨y.now.heap.size + 1, 3, rfl, by omega, bN.lt, fun j hj => ⟨4, by omega, ?_⟩⟩, by dsimp only; decide, by dsimp only; decide⟩
   rw [bN.cell]
   match j, hj with
   | 0, _ => rfl
   | 1, _ => rfl
   | 2, _ => rfl
  ·exact ⟨.inl rfl, by dsimp only; decide, by dsimp only; decide⟩
  ·exact ⟨.inl rfl, by dsimp only; decide, by dsimp only; decide⟩
  ·exact ⟨.inl rfl, by dsimp only; decide, by dsimp only; decide⟩
 have hok2 : ∀ x, x ∈ idnL2 w (y.now.heap.size + 1) → RunOk x.1.1 := by
  intro x hx
  refine runOk_of ?_
  simp only [idnL2, List.mem_cons, List.not_mem_nil, or_false] at hx
  rcases hx with rfl | rfl | rfl | rfl | rfl | rfl | rfl <;> (dsimp only; decide +kernel)
 have hz2 := zz_one w2 _ (idnL2 w (y.now.heap.size + 1)) 7 (oruns_blk bL2 hnext) bL2.lt hok2 (by show 7 ≤ 1000; omega)
 refine wpList_enter c3 ha4 (idn_e2 w (some ⟨g, 0, none⟩) 70 cap y.now w2) hz2 ?_
 rintro v2 w3 ⟨nx, hnx, hown, x3, rfl⟩
 rw [c4]
 obtain ⟨w4, hw4⟩ : ∃ w4, w4 = idnW3 y.now v2 x3.now := ⟨_, rfl⟩
 have c34 : Chg [] x3.now w4 := by rw [hw4]; unfold idnW3; exact (((Chg.alloc _ _).trans (Chg.alloc _ _)).trans (Chg.alloc _ _)).mono (fun _ h _ => by simp at h)
 obtain ⟨g2, cap2, rfl, hg2, htab⟩ := once_row (rs := idRuns) (m := 70) (rb := w.heap.size) (l := idnL2 w (y.now.heap.size + 1)) rfl (by
  intro x hx h7
  simp only [idnL2, List.mem_cons, List.not_mem_nil, or_false] at hx
  rcases hx with rfl | rfl | rfl | rfl | rfl | rfl | rfl
  ·cases h7
  ·cases h7
  ·cases h7
  ·rfl
  ·cases h7
  ·cases h7
  ·cases h7) hnx hown c34 (by decide +kernel) (by omega)
 have ha5 := ha4.put 31 (of_decide_eq_true (by kernel_rfl)) (.slice (some ⟨g2, 0, none⟩) 70 cap2)
 rw [← List.append_nil ((lastOps idnRest).toList.drop 27)]
 refine wpList_run _ _ _ _ _ (idn_p3 w (some ⟨g, 0, none⟩) 70 cap y.now (some ⟨g2, 0, none⟩) 70 cap2 x3.now) ?_ _ ha5
 intro a6 ha6
 rw [← hw4]
 show F a6 w4
 refine hF a6 _ ?_
 refine wp_ret ?_
 have hret := ha6.at_ 0
 rw [idn_ret] at hret
 have f1 : (x3.now.alloc (.cells (progCells (.slice (some ⟨g2, 0, none⟩) 70 cap2) 4).toArray 88)).heap.size = x3.now.heap.size + 1 := by simp
 have f2 : ((x3.now.alloc (.cells (progCells (.slice (some ⟨g2, 0, none⟩) 70 cap2) 4).toArray 88)).alloc (.cells #[.string ByteArray.empty, .string ByteArray.empty] 9)).heap.size = x3.now.heap.size + 2 := by simp
 rw [f2] at hret
 have bO : Blk w4 x3.now.heap.size (progCells (.slice (some ⟨g2, 0, none⟩) 70 cap2) 4) 88 := by
  rw [hw4]; unfold idnW3
  exact ((Blk.new _ _ _).alloc _).alloc _
 have bR : Blk w4 (x3.now.heap.size + 2) [.string idnText, .pointer (some ⟨y.now.heap.size, 0, none⟩), .pointer (some ⟨x3.now.heap.size, 0, none⟩), .int .i64 1, .int .i64 0, .slice (some ⟨x3.now.heap.size + 1, 0, none⟩) 2 2, .string ByteArray.empty, .slice none 0 0, .int .i32 0, .int .u32 1, .int .i64 0, .int .i64 4, .bool false, .int .u8 4, .int .i64 64, .bool false] 92 := by
  rw [hw4]; unfold idnW3
  rw [f1, ← f2]
  exact Blk.new _ _ _
 have bR4 : Blk w4 w.heap.size (dgRunes.map (Value.int .i32)) 21 := (bR2.chg (Chg.of_below x3.below) (by simp)).chg c34 (by simp)
 have hd := ha6.defers
 obtain ⟨tm, df⟩ := a6
 dsimp only at hd
 subst hd
 refine bodyPost_ret (v := .pointer (some ⟨x3.now.heap.size + 2, 0, none⟩)) ?_ rfl ⟨_, x3.now.heap.size, g2, w.heap.size, rfl, ⟨(bR.cell 2).trans rfl, (bR.cell 6).trans rfl, (bR.cell 13).trans rfl, (bR.cell 14).trans rfl, ⟨cap2, (bO.cell 0).trans rfl⟩, (bO.cell 1).trans rfl, htab, fun i x hx => ?_, bR.lt, bO.lt, hg2, bR4.lt⟩, ?_⟩
 ·have d3' : tm[0]?.getD undef = .pointer (some ⟨x3.now.heap.size + 2, 0, none⟩) := by rw [← Array.getD_eq_getD_getElem?]; exact hret
  simp [results, Tryz.results25, go_sem, d3']
 ·rw [bR4.cell, List.getElem?_map, hx]
  rfl
 ·have hh : Chg [] w w4 := ((c02.trans (Chg.of_below x3.below)).trans c34).mono (fun _ h _ => by simp at h)
  exact Ext.of (hh.below (Nat.le_refl _) (fun b hb => by cases hb))

end Go.Proofs.YtkbmigfkclnlaaaGreatDoor
namespace Go.Proofs.YtkbmigfkclnlaaaGreatDoor
open Go.RowKit Go.Rx
attribute [local go_sem] ostep_method ostep_func
attribute [local go_sem] Ext.cell Ext.frozen Ext.lt Ext.lt_add Ext.cell2 Ext.frozen2
attribute [local go_sem] ints_nil

theorem id_expand : expand idRuns = [⟨5, 0, 0, []⟩, ⟨3, 2, 4, dgRunes⟩, ⟨2, 3, 2, dgRunes⟩] ++ (((List.range 64).map fun k => (⟨7, k + 4, 0, dgRunes⟩ : Inst)) ++ [⟨2, 68, 3, []⟩, ⟨3, 69, 8, []⟩, ⟨4, 0, 0, []⟩]) := by kernel_rfl
theorem id_one : (expand idRuns)[1]? = some ⟨3, 2, 4, dgRunes⟩ := by kernel_rfl
theorem id_two : (expand idRuns)[2]? = some ⟨2, 3, 2, dgRunes⟩ := by kernel_rfl
theorem id_mid (j : Nat) (h : j < 64) : (expand idRuns)[j + 3]? = some ⟨7, j + 4, 0, dgRunes⟩ := by
 rw [id_expand, List.getElem?_append_right (by simp)]
 simp only [List.length_cons, List.length_nil, Nat.zero_add, Nat.reduceAdd, Nat.add_sub_cancel]
 rw [List.getElem?_append_left (by simpa using h), List.getElem?_map, List.getElem?_range h]
 rfl
theorem id_end : (expand idRuns)[67]? = some ⟨2, 68, 3, []⟩ ∧ (expand idRuns)[68]? = some ⟨3, 69, 8, []⟩ := ⟨by kernel_rfl, by kernel_rfl⟩

theorem takes_shx (s : ByteArray) (hs : Plain s) (p : Nat) (hp : p < s.size) : classTakes dgRunes (runeAt s p) = shx (s[p]'hp).toNat := by
 have e : runeAt s p = ((s[p]'hp).toNat : Nat) := by unfold runeAt; rw [dif_pos hp]
 rw [e]
 show classTakes [48, 57, 97, 102] _ = _
 rw [cls_shx _ (hs p hp)]

section
variable {R O G rb M : Nat} {s : ByteArray} {dst : Value} {w : World} {Q : Exit → Act → World → Prop}

def ITop (R M : Nat) (dst : Value) (s : ByteArray) (w : World) (i : Nat) (a : Act) (w' : World) : Prop :=
 (∃ x : Ext w, w' = x.now) ∧ ∃ pc pos, i = 70 - pc ∧ pos ≤ 64 ∧ (∀ j (h : j < s.size), j < pos → shx (s[j]'h).toNat = true) ∧ ((pc = 1 ∧ pos = 0) ∨ (pc = 2 ∧ pos = 0) ∨ (3 ≤ pc ∧ pc = pos + 3) ∨ (pc = 68 ∧ pos = 64)) ∧ OF R M pos dst (runeAt s pos) (runeAt s (pos + 1)) (wdAt s pos) (wdAt s (pos + 1)) (flagOf (runeAhead s pos) (runeAt s pos)) pc a

theorem id_loop {a : Act} (h : OnceR w R O G rb 64 idRuns 70) (hs : Plain s) (hz : 64 ≤ s.size) (hb : s.size < 8000000000) (hno : ¬ (s.size = 64 ∧ HexAll s)) (hM0 : w.cell? ⟨M, 0, none⟩ = some (.string s)) (hM1 : w.cell? ⟨M, 1, none⟩ = some (.slice none 0 0)) (hMl : M < w.heap.size)
  (hfin : ∀ a (x : Ext w), OL M dst false a → Q (.goto 0) a x.now) (hf : OF R M 0 dst (runeAt s 0) (runeAt s 1) (wdAt s 0) (wdAt s 1) (flagOf (-1) (runeAt s 0)) 1 a) : (Code.loop onBody).wp Tryz.prog Q a w := by
 refine wp_loop_nat (ITop R M dst s w) (70 - 1) ⟨Ext.here _, 1, 0, rfl, Nat.zero_le _, fun _ _ h => absurd h (by omega), .inl ⟨rfl, rfl⟩, hf⟩ ?_
 rintro i a w' ⟨⟨x0, rfl⟩, pc, pos, rfl, hpos, hall, hc, hfr⟩
 replace h := h.chg (Chg.of_below x0.below)
 replace hM0 := (x0.cell M 0 hMl).trans hM0
 replace hM1 := (x0.cell M 1 hMl).trans hM1
 replace hMl := x0.lt M hMl
 obtain ⟨l1, l2, l3, l4⟩ := h.lt
 obtain ⟨cap, hi⟩ := h.insts
 rw [on_in]
 refine wp_block ?_
 obtain ⟨b1, b2, b3⟩ := ahead_bd s hs pos (by omega)
 obtain ⟨d1, d2, d3⟩ := rune_bd s hs pos
 by_cases hp1 : pc = 1
 ·have hp0 : pos = 0 := by omega
  subst hp1
  subst hp0
  obtain ⟨i0, i1, i2, _⟩ := h.at_ 1 _ id_one
  have hm := oflag_begin (flagOf (runeAhead s 0) (runeAt s 0)) x0.now
  rw [flag_hi _ _ b1 b2, decide_eq_true (b3.2 rfl)] at hm
  refine on_ew R M 0 dst _ _ _ _ _ 1 x0.now _ O G 70 cap h.one l1 hi l2 l3 (by omega) (by omega) 2 4 (by omega) (by omega) i0 i1 i2 hm ?_ hfr
  intro a' hf'
  exact ⟨70 - 2, by omega, ⟨x0, rfl⟩, 2, 0, rfl, by omega, hall, .inr (.inl ⟨rfl, rfl⟩), hf'⟩
 ·by_cases hp2 : pc = 2
  ·have hp0 : pos = 0 := by omega
   subst hp2
   subst hp0
   obtain ⟨i0, i1, i2, _⟩ := h.at_ 2 _ id_two
   refine on_cap R M 0 dst _ _ _ _ _ 2 x0.now _ O G 70 cap h.one l1 hi l2 l3 (by omega) (by omega) 3 2 (by omega) (by omega) i0 i1 i2 hM1 hMl ?_ hfr
   intro a' x1 hf'
   exact ⟨70 - 3, by omega, Ext.both x0 x1, 3, 0, rfl, by omega, hall, .inr (.inr (.inl ⟨by omega, rfl⟩)), hf'⟩
  ·by_cases hp68 : pc = 68
   ·have hpn : pos = 64 := by omega
    subst hp68
    subst hpn
    obtain ⟨i0, i1, i2, _⟩ := h.at_ 68 _ id_end.2
    have hlt : 64 < s.size := by
     by_cases e : s.size = 64
     ·exact absurd ⟨e, fun j hj => hall j hj (by omega)⟩ hno
     ·omega
    have hm := oflag_end (flagOf (runeAhead s 64) (runeAt s 64)) x0.now
    rw [flag_lo _ _ d1 d2, decide_eq_false (by omega)] at hm
    exact on_ew_no R M 64 dst _ _ _ _ _ 68 x0.now _ O G 70 cap h.one l1 hi l2 l3 (by omega) (by omega) 69 8 (by omega) (by omega) i0 i1 i2 hm (fun a h => hfin a x0 h) hfr
   ·have hpp : pc = pos + 3 := by omega
    subst hpp
    by_cases hlt : pos < 64
    ·obtain ⟨i0, i1, i2, i3⟩ := h.at_ (pos + 3) _ (id_mid pos hlt)
     have hm := match_rune_at G ((pos + 3) * 5) rb 4 dgRunes (runeAt s pos) x0.now (i3 rfl) (fun i x hx => h.rune i x hx) (.inr (.inr (.inl rfl)))
     rw [takes_shx s hs pos (by omega)] at hm
     cases hx : shx (s[pos]'(by omega)).toNat with
     | false =>
      rw [hx] at hm
      exact on_rune_no R M pos dst _ _ _ _ _ (pos + 3) x0.now _ O G 70 cap h.one l1 hi l2 l3 (by omega) (by omega) (pos + 4) (by omega) i0 i1 hm (fun a h => hfin a x0 h) hfr
     | true =>
      rw [hx] at hm
      have hw : wdAt s pos = 1 := wdAt_in (by omega)
      have hfl := oflag_new (runeAt s pos) (runeAt s (pos + 1)) x0.now
      have hah : runeAhead s (pos + 1) = runeAt s pos := by unfold runeAhead; rw [if_neg (by omega)]; rfl
      have hall2 : ∀ j (h : j < s.size), j < pos + 1 → shx (s[j]'h).toNat = true := fun j hj hj2 => by
       by_cases e : j = pos
       ·subst e; exact hx
       ·exact hall j hj (by omega)
      have hgo : ∀ a', OF R M (pos + 1) dst (runeAt s (pos + 1)) (runeAt s (pos + 2)) (wdAt s (pos + 1)) (wdAt s (pos + 2)) (flagOf (runeAt s pos) (runeAt s (pos + 1))) (pos + 4) a' → Exit.inBlock 3 (Exit.then (fun a' w1 => ∃ k', k' < 70 - (pos + 3) ∧ ITop R M dst s w k' a' w1) Q) .normal a' x0.now := by
       intro a' hf'
       refine ⟨70 - (pos + 4), by omega, ⟨x0, rfl⟩, pos + 4, pos + 1, rfl, by omega, hall2, .inr (.inr (.inl ⟨by omega, rfl⟩)), ?_⟩
       rw [hah]
       exact hf'
      by_cases hl2 : pos + 1 < s.size
      ·have hr1 : runeAt s (pos + 1) ≠ -1 := by
        have := (rune_bd s hs (pos + 1)).2.2
        omega
       have hw2 : wdAt s (pos + 1) = 1 := wdAt_in (by omega)
       exact on_rune_next R M pos dst _ _ _ _ _ (pos + 3) x0.now _ O G 70 cap h.one l1 hi l2 l3 (by omega) (by omega) (pos + 4) (by omega) i0 i1 hm (by omega) (pos + 1) (by rw [hw]; rfl) (by omega) _ hfl hr1 (pos + 2) (by rw [hw2]; omega) (by omega) _ _ (ostep_at M (pos + 2) s hs (by omega) x0.now hM0) hgo hfr
      ·have hr1 : runeAt s (pos + 1) = -1 := runeAt_out (by omega)
       have hw2 : wdAt s (pos + 1) = 0 := wdAt_out (by omega)
       refine on_rune_last R M pos dst _ _ _ _ _ (pos + 3) x0.now _ O G 70 cap h.one l1 hi l2 l3 (by omega) (by omega) (pos + 4) (by omega) i0 i1 hm (by omega) (pos + 1) (by rw [hw]; rfl) (by omega) _ hfl hr1 ?_ hfr
       intro a' hf'
       refine hgo a' ?_
       rw [runeAt_out (s := s) (p := pos + 2) (by omega), wdAt_out (s := s) (p := pos + 2) (by omega)]
       rw [hr1, hw2] at hf' ⊢
       exact hf'
    ·have hpn : pos = 64 := by omega
     subst hpn
     obtain ⟨i0, i1, i2, _⟩ := h.at_ 67 _ id_end.1
     refine on_cap R M 64 dst _ _ _ _ _ 67 x0.now _ O G 70 cap h.one l1 hi l2 l3 (by omega) (by omega) 68 3 (by omega) (by omega) i0 i1 i2 hM1 hMl ?_ hfr
     intro a' x1 hf'
     exact ⟨70 - 68, by omega, Ext.both x0 x1, 68, 64, rfl, by omega, hall, .inr (.inr (.inr ⟨rfl, rfl⟩)), hf'⟩

set_option maxRecDepth 1000000 in
set_option maxHeartbeats 4000000 in
theorem id_pass {R O G rb : Nat} {s : ByteArray} {w : World} (h : OnceR w R O G rb 64 idRuns 70) (hs : Plain s) (hz : 64 ≤ s.size) (hb : s.size < 8000000000) (hno : ¬ (s.size = 64 ∧ HexAll s)) (d : Nat) :
  Calls Tryz.prog 81 #[.pointer (some ⟨R, 0, none⟩), .nilIface, .slice none 0 0, .string s, .int .i64 0, .int .i64 0, .slice (some ⟨d, 0, none⟩) 0 0] w fun e w' => e = .returned (.slice none 0 0) ∧ ∃ x : Ext w, w' = x.now := by
 obtain ⟨l1, l2, l3, l4⟩ := h.lt
 have c13 := h.cond
 have hnew := onew w
 have hb4 : bits .and .u8 4 4 = 4 := by rfl
 have H := Lib.hid h
 have HS := Lib.hid hs
 have HNO := Lib.hid hno
 clear h hs hno
 go_enter Tryz.func81, Tryz.ntmps81
 go_wp2_with fail
 show (Code.scope onScope).wp Tryz.prog _ _ _
 refine wp_scope_nat (fun l k a w1 => l = 0 ∧ ∃ M, OL M (.slice (some ⟨d, 0, none⟩) 0 0) false a ∧ Blk w1 M [.string s, .slice none 0 0] 183 ∧ w.heap.size ≤ M ∧ ∃ x : Ext w, w1 = x.now) ?_ ?_
 ·conv => arg 2; whnf
  go_wp2_with (first | (go_at_call 95; (with_reducible refine hnew.mono ?_); rintro e w1 ⟨rfl, b1, k1, z1⟩; have t0 : w1.cell? ⟨w.heap.size, 0, none⟩ = some (.string ByteArray.empty) := (b1.cell 0).trans rfl; have t1 : w1.cell? ⟨w.heap.size, 1, none⟩ = some (.slice none 0 0) := (b1.cell 1).trans rfl; have tf0 := b1.free 0; have tf1 := b1.free 1; have tl := b1.lt))
  obtain ⟨M, hM⟩ : ∃ M, w.heap.size = M := ⟨_, rfl⟩
  rw [hM] at b1 t0 t1 tf0 tf1 tl ⊢
  obtain ⟨w2, hw2⟩ : ∃ w2, w2 = w1.setCell ⟨M, 1, none⟩ (.slice none 0 0) := ⟨_, rfl⟩
  rw [← hw2]
  have b2 : Blk w2 M [.string ByteArray.empty, .slice none 0 0] 183 := by
   have := b1.set 1 (.slice none 0 0)
   rw [← hw2] at this
   exact this
  have c12 : Chg [M] w w2 := by rw [hw2]; exact (k1.trans (Chg.set w1 M 1 _)).mono (fun b h _ => by simpa using h)
  have B2 := Lib.hid b2
  have C12 := Lib.hid c12
  clear hw2 b1 k1 t0 t1 tf0 tf1 tl z1 b2 c12
  go_loopw [61] (fun t wr => t = .int .i64 0 ∧ wr = w2) (fun _ _ => 0)
  case atStart => exact ⟨rfl, rfl⟩
  case round =>
   obtain ⟨rfl, rfl⟩ := hrel
   have b2 := B2.out
   have hl2 := b2.lt
   have hinit := oinputs_init wr M 0 s ByteArray.empty (by omega) ((b2.cell 0).trans rfl) (b2.free 0) hl2
   have HI := Lib.hid hinit
   clear hinit b2
   go_wp2_with (first | (go_at_call 96; (with_reducible refine HI.out.mono ?_); rintro e w3 ⟨rfl, rfl⟩))
   obtain ⟨w3, hw3⟩ : ∃ w3, w3 = wr.setCell ⟨M, 0, none⟩ (.string s) := ⟨_, rfl⟩
   rw [← hw3]
   have b3 : Blk w3 M [.string s, .slice none 0 0] 183 := by rw [hw3]; exact B2.out.set 0 _
   have c13' : Chg [] w w3 := by
    rw [hw3]
    exact (C12.out.trans (Chg.set wr M 0 _)).mono (fun b h hlt => by simp at h; omega)
   have ho := H.out.chg c13'
   have m0 : w3.cell? ⟨M, 0, none⟩ = some (.string s) := (b3.cell 0).trans rfl
   have m1 : w3.cell? ⟨M, 1, none⟩ = some (.slice none 0 0) := (b3.cell 1).trans rfl
   have hl3 := b3.lt
   have hs := HS.out
   have hsz : 0 < s.size := by omega
   have hr : runeAt s 0 ≠ -1 := by have := (rune_bd s hs 0).2.2; omega
   have hw : wdAt s 0 = 1 := wdAt_in hsz
   have st0 : Calls Tryz.prog 184 #[.pointer (some ⟨M, 0, none⟩), .int .i64 0] w3 fun e w' => e = .returned (.tuple #[.int .i32 (runeAt s 0), .int .i64 (wdAt s 0 : Nat)]) ∧ w' = w3 := ostep_at M 0 s hs (by omega) w3 m0
   have st1 : Calls Tryz.prog 184 #[.pointer (some ⟨M, 0, none⟩), .int .i64 1] w3 fun e w' => e = .returned (.tuple #[.int .i32 (runeAt s 1), .int .i64 (wdAt s 1 : Nat)]) ∧ w' = w3 := ostep_at M 1 s hs (by omega) w3 m0
   have hfl := oflag_new (-1) (runeAt s 0) w3
   obtain ⟨i0, i1, i2, _⟩ := ho.at_ 1 _ id_one
   simp only [Nat.one_mul, Nat.reduceAdd] at i0 i1 i2
   have hmt := oflag_begin (flagOf (-1) (runeAt s 0)) w3
   rw [flag_hi _ _ (by omega) (by omega), decide_eq_true (by omega)] at hmt
   have d2 := ho.one
   have d6 := ho.pre
   obtain ⟨cap, dO⟩ := ho.insts
   have dO1 := ho.start
   obtain ⟨q1, q2, q3, q4⟩ := ho.lt
   have hsize : ByteArray.empty.size = 0 := rfl
   have A1 := Lib.hid st0
   have A2 := Lib.hid st1
   have A3 := Lib.hid hfl
   have A4 := Lib.hid hmt
   have A5 := Lib.hid ho
   have A6 := Lib.hid b3
   have A7 := Lib.hid c13'
   clear st0 st1 hfl hmt ho b3 c13' hw3
   go_wp2_with (first | (go_at_call 184; (with_reducible refine A1.out.mono ?_); rintro e w2 ⟨rfl, rfl⟩) | (go_at_call 184; (with_reducible refine A2.out.mono ?_); rintro e w2 ⟨rfl, rfl⟩) | (go_at_call 97; (with_reducible refine A3.out.mono ?_); rintro e w2 ⟨rfl, rfl⟩) | (go_at_call 98; (with_reducible refine A4.out.mono ?_); rintro e w2 ⟨rfl, rfl⟩))
   show (Code.loop onBody).wp Tryz.prog _ _ _
   refine id_loop A5.out HS.out hz hb HNO.out m0 m1 hl3 ?_ (by rw [hw]; constructor)
   intro a' x1 hol
   show ∃ k', 0 = 0 ∧ ∃ M, OL M (.slice (some ⟨d, 0, none⟩) 0 0) false a' ∧ Blk x1.now M [.string s, .slice none 0 0] 183 ∧ w.heap.size ≤ M ∧ ∃ x : Ext w, x1.now = x.now
   exact ⟨0, rfl, M, hol, A6.out.chg (Chg.of_below x1.below) (by simp), by omega, Ext.of ((A7.out.trans (Chg.of_below x1.below)).below (Nat.le_refl _) (fun b hb => by simp at hb))⟩
 ·rintro k l a w1 ⟨rfl, M, hol, b1, hge, x, rfl⟩
  refine ⟨onRest, on_label, ?_⟩
  have m1 : x.now.cell? ⟨M, 1, none⟩ = some (.slice none 0 0) := (b1.cell 1).trans rfl
  have hl1 := b1.lt
  have hfree := ofree x.now M s ((b1.cell 0).trans rfl) (b1.free 0) hl1
  have HF := Lib.hid hfree
  clear hfree hnew
  cases hol
  conv => arg 2; whnf
  go_wp2_with (first | (go_at_call 101; (with_reducible refine HF.out.mono ?_); rintro e w2 ⟨rfl, rfl⟩))
  simp only [Exit.jumps]
  go_ret
  have cM : Chg [M] w (x.now.setCell ⟨M, 0, none⟩ (.string ByteArray.empty)) := ((Chg.of_below x.below).trans (Chg.set x.now M 0 _)).mono (fun b h _ => by simpa using h)
  exact ⟨rfl, Ext.of (cM.below (Nat.le_refl _) (fun b hb => by simp at hb; omega))⟩

set_option maxRecDepth 1000000 in
set_option maxHeartbeats 4000000 in
theorem id_no {R O G rb : Nat} {s : ByteArray} {w : World} (h : OnceR w R O G rb 64 idRuns 70) (hs : Plain s) (hb : s.size < 8000000000) (hno : ¬ (s.size = 64 ∧ HexAll s)) :
  Calls Tryz.prog 26 #[.pointer (some ⟨R, 0, none⟩), .string s] w fun e w' => e = .returned (.bool false) ∧ ∃ x : Ext w, w' = x.now := by
 have hfind : Calls Tryz.prog 69 #[.pointer (some ⟨R, 0, none⟩), .nilIface, .slice none 0 0, .string s, .int .i64 0, .int .i64 0, .slice none 0 0] w fun e w' => e = .returned (.slice none 0 0) ∧ ∃ x : Ext w, w' = x.now := by
  have m14 := h.min
  have hl := h.lt.1
  have hlt : IntKind.i64.wrap (0 + (s.size : Int)) = (s.size : Int) := by rw [Int.zero_add, Go.IntWalk.i64_left]; exact Go.IntWalk.wrap64_in _ (by omega)
  have sl_nil : ∀ w : World, (binOp BinOp.eql 128 (.slice none 0 0) (.slice none 0 0)).run Tryz.prog w = .ok (.bool true) w := fun w => by kernel_rfl
  by_cases hz : 64 ≤ s.size
  ·have hz' : ¬ (s.size : Int) < 64 := by omega
   have H := Lib.hid h
   have HS := Lib.hid hs
   have HNO := Lib.hid hno
   clear h hs hno
   go_enter Tryz.func69, Tryz.ntmps69
   go_wp2_with (first | (go_at_call 81; (with_reducible refine (id_pass (H.out.chg (Chg.alloc w _)) HS.out hz hb HNO.out _).mono ?_); rintro e w1 ⟨rfl, x, rfl⟩))
   go_ret
   exact ⟨rfl, Ext.via x⟩
  ·have hz' : (s.size : Int) < 64 := by omega
   clear h hs hno
   go_enter Tryz.func69, Tryz.ntmps69
   go_wp2_with fail
   go_ret
   exact ⟨rfl, Ext.alloc1 _ _⟩
 have hmatch : Calls Tryz.prog 44 #[.pointer (some ⟨R, 0, none⟩), .nilIface, .slice none 0 0, .string s] w fun e w' => e = .returned (.bool false) ∧ ∃ x : Ext w, w' = x.now := by
  have ints_nn : ∀ (w : World), (binOp BinOp.neq 128 (.slice none 0 0) (.slice none 0 0)).run Tryz.prog w = .ok (.bool false) w := fun w => by kernel_rfl
  have HF := Lib.hid hfind
  clear h hs hno hfind
  go_enter Tryz.func44, Tryz.ntmps44
  go_wp2_with (first | (go_at_call 69; (with_reducible refine HF.out.mono ?_); rintro e w1 ⟨rfl, x, rfl⟩))
  go_ret
  exact ⟨rfl, x, rfl⟩
 have HM := Lib.hid hmatch
 clear h hs hno hfind hmatch
 go_enter Tryz.func26, Tryz.ntmps26
 go_wp2_with (first | (go_at_call 44; (with_reducible refine HM.out.mono ?_); rintro e w1 ⟨rfl, x, rfl⟩))
 go_ret
 exact ⟨rfl, x, rfl⟩

end
end Go.Proofs.YtkbmigfkclnlaaaGreatDoor
namespace Go.Proofs.YtkbmigfkclnlaaaGreatDoor
open Go.RowKit Go.Rx
attribute [local go_sem] Ext.cell Ext.frozen Ext.lt Ext.lt_add Ext.cell2 Ext.frozen2

theorem nats_extract (s : ByteArray) (a b : Nat) : nats (s.extract a b) = ((nats s).take b).drop a := by
 unfold nats
 rw [ByteArray.data_extract, Array.toList_extract, List.extract_eq_drop_take', List.map_drop, List.map_take]

theorem nats_append (s t : ByteArray) : nats (s ++ t) = nats s ++ nats t := by
 unfold nats
 rw [ByteArray.data_append, Array.toList_append, List.map_append]

theorem nats_inj {s t : ByteArray} (h : nats s = nats t) : s = t := by
 refine WideShapes.bytes_inj ?_
 have hi : ∀ (a b : List UInt8), a.map UInt8.toNat = b.map UInt8.toNat → a = b := by
  intro a
  induction a with
  | nil => intro b hb; cases b with
   | nil => rfl
   | cons y b => simp at hb
  | cons x a ih => intro b hb; cases b with
   | nil => simp at hb
   | cons y b =>
    simp only [List.map_cons, List.cons.injEq] at hb
    rw [UInt8.toNat_inj.1 hb.1, ih b hb.2]
 exact hi _ _ h

theorem beq_nats (s t : ByteArray) : (s.toList == t.toList) = decide (nats s = nats t) := by
 by_cases h : nats s = nats t
 ·rw [nats_inj h]
  simp
 ·rw [decide_eq_false h]
  have hne : s ≠ t := fun e => h (by rw [e])
  exact beq_eq_false_iff_ne.2 fun e => hne (WideShapes.bytes_inj (by rw [← Lib.toList_data, e, Lib.toList_data]))

def runLen (p : Nat → Bool) (l : List Nat) : Nat := (l.takeWhile p).length

theorem runLen_le (p : Nat → Bool) (l : List Nat) : runLen p l ≤ l.length := (List.takeWhile_prefix p).length_le

theorem runLen_at {p : Nat → Bool} {l : List Nat} {i : Nat} (h : i < l.length) : runLen p (l.drop i) = if p (l.getD i 0) = true then runLen p (l.drop (i + 1)) + 1 else 0 := by
 unfold runLen
 rw [List.drop_eq_getElem_cons h, List.takeWhile_cons, List.getD_eq_getElem?_getD, List.getElem?_eq_getElem h]
 simp only [Option.getD_some]
 by_cases hp : p l[i] = true
 ·rw [if_pos hp, if_pos hp]; rfl
 ·rw [if_neg hp, if_neg hp]; rfl

theorem runLen_end {p : Nat → Bool} {l : List Nat} {i : Nat} (h : l.length ≤ i) : runLen p (l.drop i) = 0 := by
 unfold runLen
 rw [List.drop_eq_nil_of_le h]
 rfl

def allF (p : Nat → Bool) (l : List Nat) : Bool := decide (l ≠ []) && l.all p

theorem runLen_all (p : Nat → Bool) (l : List Nat) : decide (runLen p l = l.length) = l.all p := by
 unfold runLen
 induction l with
 | nil => rfl
 | cons x l ih =>
  rw [List.takeWhile_cons, List.all_cons]
  cases p x with
  | true => simpa using ih
  | false => simp

def firstF (c : Nat) (l : List Nat) : Int := if c ∈ l then runLen (fun x => !is c x) l else -1


abbrev Enters (F : FuncId) : Prop := ∀ (args : Array Value) (w : World), (callFunc F args).run Tryz.prog w = .ok (.enter F args) w

theorem enters_digit : Enters 59 := fun args w => by kernel_rfl

set_option maxRecDepth 100000 in
theorem run_any {F : FuncId} {p : Nat → Bool} (he : Enters F) (hk : Kind F p) (s : ByteArray) (i : Nat) (w : World) (hi : i ≤ s.size) (hs : s.size < 100000000000) :
  Calls Tryz.prog 76 #[.string s, .int .i64 i, .func (.func F) #[] #[]] w fun e w' => e = .returned (.int .i64 (i + runLen p ((nats s).drop i) : Nat)) ∧ ∃ y : Ext w, w' = y.now := by
 have HK := Lib.hid hk
 clear hk
 go_enter Tryz.func76, Tryz.ntmps76
 go_wp2_with fail
 go_loopw [1] (fun t wr => ∃ k : Nat, t = .int .i64 k ∧ i ≤ k ∧ k ≤ s.size ∧ k + runLen p ((nats s).drop k) = i + runLen p ((nats s).drop i) ∧ ∃ x : Ext w, wr = x.now) (fun t _ => s.size - (intOf t).toNat)
 case atStart => exact ⟨i, rfl, Nat.le_refl _, hi, rfl, Ext.here _⟩
 case round =>
  obtain ⟨k, rfl, hik, hks, hrun, x, rfl⟩ := hrel
  by_cases hlt : k < s.size
  ·have hlt' : (k : Int) < (s.size : Int) := by omega
   have h0 : (0 : Int) ≤ (k : Int) := by omega
   have hr := runLen_at (p := p) (l := nats s) (i := k) (by rw [nats_length]; exact hlt)
   rw [nats_at s k hlt] at hr
   have hK := HK.out ((s[k]'hlt).toNat) x.now
   have HKK := Lib.hid hK
   have HR := Lib.hid hr
   clear hK hr
   go_wp2_with (with_reducible refine HKK.out.mono ?_; rintro e w1 ⟨rfl, y, rfl⟩)
   ·rename_i hp
    have := HR.out
    rw [if_pos (by simpa using hp)] at this
    exact ⟨⟨k + 1, by simp, by omega, by omega, by omega, Ext.both x y⟩, by simp [intOf]; omega⟩
   ·rename_i hp
    have := HR.out
    rw [if_neg (by simp [hp])] at this
    go_ret
    rw [show i + runLen p ((nats s).drop i) = k by omega]
    exact ⟨rfl, Ext.both x y⟩
  ·have hkn : k = s.size := by omega
   subst hkn
   have hlt' : ¬ ((s.size : Int) < (s.size : Int)) := by omega
   have := runLen_end (p := p) (l := nats s) (i := s.size) (by rw [nats_length]; exact Nat.le_refl _)
   have e : ((s.size : Nat) : Int) = (i : Int) + (runLen p ((nats s).drop i) : Int) := by omega
   have E := Lib.hid e
   clear this hrun e
   go_wp2_with fail
   go_ret
   exact ⟨by rw [← E.out]; rfl, x, rfl⟩

theorem firstF_cons (c x : Nat) (l : List Nat) : firstF c (x :: l) = if x = c then 0 else if firstF c l = -1 then -1 else firstF c l + 1 := by
 unfold firstF runLen
 by_cases hx : x = c
 ·subst hx
  simp [is]
 ·have hcx : ¬ c = x := fun e => hx e.symm
  by_cases hm : c ∈ l
  ·rw [if_pos (List.mem_cons_of_mem _ hm), if_neg hx, if_pos hm, if_neg (by omega), List.takeWhile_cons, if_pos (by simp [is, hx])]
   simp
  ·rw [if_neg (by simp [hcx, hm]), if_neg hx, if_neg hm, if_pos rfl]

theorem firstF_at {c : Nat} {l : List Nat} {i : Nat} (h : i < l.length) : firstF c (l.drop i) = if l.getD i 0 = c then 0 else if firstF c (l.drop (i + 1)) = -1 then -1 else firstF c (l.drop (i + 1)) + 1 := by
 rw [List.drop_eq_getElem_cons h, firstF_cons, List.getD_eq_getElem?_getD, List.getElem?_eq_getElem h]
 rfl

theorem firstF_end {c : Nat} {l : List Nat} {i : Nat} (h : l.length ≤ i) : firstF c (l.drop i) = -1 := by
 rw [List.drop_eq_nil_of_le h]
 rfl

set_option maxRecDepth 100000 in
theorem first_any (s : ByteArray) (c : Nat) (w : World) (hs : s.size < 100000000000) :
  Calls Tryz.prog 7 #[.string s, .int .u8 c] w fun e w' => e = .returned (.int .i64 (firstF c (nats s))) ∧ w' = w := by
 go_enter Tryz.func7, Tryz.ntmps7
 go_wp2_with fail
 go_loopw [5] (fun t wr => ∃ k : Nat, t = .int .i64 k ∧ k ≤ s.size ∧ firstF c (nats s) = (if firstF c ((nats s).drop k) = -1 then -1 else (k : Int) + firstF c ((nats s).drop k)) ∧ wr = w) (fun t _ => s.size - (intOf t).toNat)
 case atStart => exact ⟨0, rfl, Nat.zero_le _, by rw [List.drop_zero]; split <;> simp_all, rfl⟩
 case round =>
  obtain ⟨k, rfl, hks, hrun, rfl⟩ := hrel
  by_cases hlt : k < s.size
  ·have hlt' : (k : Int) < (s.size : Int) := by omega
   have h0 : (0 : Int) ≤ (k : Int) := by omega
   have hr := firstF_at (c := c) (l := nats s) (i := k) (by rw [nats_length]; exact hlt)
   rw [nats_at s k hlt] at hr
   have HR := Lib.hid hr
   have HRUN := Lib.hid hrun
   clear hr hrun
   by_cases hc : (s[k]'hlt).toNat = c
   ·have hc' : (((s[k]'hlt).toNat : Nat) : Int) = (c : Int) := by omega
    have e : firstF c (nats s) = (k : Int) := by
     rw [HRUN.out, HR.out, if_pos hc]
     simp
    have E := Lib.hid e
    clear e hc
    go_wp2_with fail
    go_ret
    exact ⟨by rw [E.out]; rfl, rfl⟩
   ·have hc' : ¬ (((s[k]'hlt).toNat : Nat) : Int) = (c : Int) := by omega
    have e : firstF c (nats s) = (if firstF c ((nats s).drop (k + 1)) = -1 then -1 else ((k + 1 : Nat) : Int) + firstF c ((nats s).drop (k + 1))) := by
     rw [HRUN.out, HR.out, if_neg hc]
     by_cases hz : firstF c ((nats s).drop (k + 1)) = -1
     ·rw [if_pos hz, if_pos hz, if_pos rfl]
     ·rw [if_neg hz, if_neg hz]
      have : (0 : Int) ≤ firstF c ((nats s).drop (k + 1)) := by
       unfold firstF at hz ⊢
       split <;> simp_all
      rw [if_neg (by omega)]
      omega
    have E := Lib.hid e
    clear e hc
    go_wp2_with fail
    exact ⟨⟨k + 1, by simp, by omega, E.out, True.intro⟩, by simp [intOf]; omega⟩
  ·have hkn : k = s.size := by omega
   subst hkn
   have hlt' : ¬ ((s.size : Int) < (s.size : Int)) := by omega
   have := firstF_end (c := c) (l := nats s) (i := s.size) (by rw [nats_length]; exact Nat.le_refl _)
   rw [this, if_pos rfl] at hrun
   have HRUN := Lib.hid hrun
   clear this hrun
   go_wp2_with fail
   go_ret
   exact ⟨by rw [HRUN.out]; rfl, rfl⟩

theorem int_beq (a b : Nat) : (((a : Nat) : Int) == ((b : Nat) : Int)) = decide (a = b) := by
 by_cases h : a = b
 ·subst h; simp
 ·rw [decide_eq_false h]
  exact beq_eq_false_iff_ne.2 (by omega)

theorem nats_nil : nats ByteArray.empty = [] := rfl

theorem empty_nats (s : ByteArray) : s.toList.isEmpty = decide (nats s = []) := by
 rw [Lib.toList_data]
 unfold nats
 cases s.data.toList <;> simp

set_option maxRecDepth 100000 in
theorem all_any {F : FuncId} {p : Nat → Bool} (he : Enters F) (hk : Kind F p) (s : ByteArray) (w : World) (hs : s.size < 100000000000) :
  Calls Tryz.prog 54 #[.string s, .func (.func F) #[] #[]] w fun e w' => e = .returned (.bool (allF p (nats s))) ∧ ∃ y : Ext w, w' = y.now := by
 have hr : Calls Tryz.prog 76 #[.string s, .int .i64 0, .func (.func F) #[] #[]] w fun e w' => e = .returned (.int .i64 (runLen p (nats s) : Nat)) ∧ ∃ y : Ext w, w' = y.now := by
  have := run_any he hk s 0 w (Nat.zero_le _) hs
  simp only [List.drop_zero, Nat.zero_add] at this
  exact this
 have HR := Lib.hid hr
 have ha := runLen_all p (nats s)
 rw [nats_length] at ha
 clear hr he hk
 by_cases hz : nats s = []
 ·have e : s.toList.isEmpty = true := by rw [empty_nats, decide_eq_true hz]
  have : allF p (nats s) = false := by simp [allF, hz]
  rw [this]
  clear this ha hz
  go_enter Tryz.func54, Tryz.ntmps54
  go_wp2_with fail
  go_ret
  exact ⟨rfl, Ext.here _⟩
 ·have e : s.toList.isEmpty = false := by rw [empty_nats, decide_eq_false hz]
  have : allF p (nats s) = decide (runLen p (nats s) = s.size) := by simp [allF, hz, ha]
  rw [this]
  clear this ha hz
  go_enter Tryz.func54, Tryz.ntmps54
  go_wp2_with (first | (go_at_call 76; (with_reducible refine HR.out.mono ?_); rintro e w1 ⟨rfl, y, rfl⟩))
  go_ret
  refine ⟨?_, y, rfl⟩
  show Ending.returned (.bool (((runLen p (nats s) : Nat) : Int) == ((s.size : Nat) : Int))) = _
  rw [int_beq]

end Go.Proofs.YtkbmigfkclnlaaaGreatDoor
