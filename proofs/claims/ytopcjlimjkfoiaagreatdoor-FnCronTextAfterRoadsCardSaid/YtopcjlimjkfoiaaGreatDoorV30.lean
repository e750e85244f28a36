/-
FnCronTextAfterRoads: the calendar, the schedules, their texts and the zones, part 30 of 34.
-/
import Derived.Test.YtopcjlimjkfoiaaGreatDoorV29
import Derived.Test.YtopcjlimjkfoiaaGreatDoorV19
import Derived.Below
import Derived.Deep.Heap
import Derived.Test.YtopcjlimjkfoiaaGreatDoorV20
import Derived.Test.YtopcjlimjkfoiaaGreatDoorV08
set_option linter.all false
namespace Go.Proofs.YtopcjlimjkfoiaaGreatDoor
open Go.RowKit Go.Cal
attribute [local go_sem] Ext.cell Ext.frozen Ext.lt Ext.lt_add Ext.cell2 Ext.frozen2
attribute [local irreducible] wpQuiet

def BRow (w : World) (v : Value) (n : Nat) : Prop :=
  ∃ (oa : Option Addr) (cap : Nat), v = .slice oa n cap ∧ (0 < n → ∃ g off, oa = some ⟨g, off, none⟩ ∧ g < w.heap.size ∧ n ≤ cap ∧ ∀ i, i < n → ∃ b, w.cell? ⟨g, off + i, none⟩ = some (.bool b))

theorem BRow.ext {w : World} {v : Value} {n : Nat} (h : BRow w v n) (x : Ext w) : BRow x.now v n := by
  obtain ⟨oa, cap, hv, h⟩ := h
  refine ⟨oa, cap, hv, fun hl => ?_⟩
  obtain ⟨g, off, h1, h2, h3, h4⟩ := h hl
  exact ⟨g, off, h1, x.lt _ h2, h3, fun i hi => by rw [x.cell _ _ h2]; exact h4 i hi⟩

theorem orow_ext {w : World} {base : Nat} {e : TypeId} {size : Nat} {v : Value} {n : Nat} {xs : List Value} (h : w.ownsRow base e size v n xs) (x : Ext w) : x.now.ownsRow base e size v n xs := by
  obtain ⟨h1, h2⟩ := h
  refine ⟨h1, ?_⟩
  rcases h2 with h2 | ⟨g, cap, cur, h3, h4, h5, h6⟩
  · exact .inl h2
  · exact .inr ⟨g, cap, cur, h3, h4, (x.block g (Array.getElem?_eq_some_iff.1 h5).1).trans h5, h6⟩

structure ZIn (W : World) (N : Nat) (zv tv : Value) (wr : World) : Prop where
  c0 : wr.cell? ⟨N, 0, none⟩ = some (.bool false)
  c2 : wr.cell? ⟨N, 2, none⟩ = some zv
  c3 : wr.cell? ⟨N, 3, none⟩ = some tv
  c7 : wr.cell? ⟨N, 7, none⟩ = some (.pointer none)
  f2 : wr.frozen? ⟨N, 2, none⟩ = false
  f3 : wr.frozen? ⟨N, 3, none⟩ = false
  lt : N < wr.heap.size
  os : wr.os = W.os
  tape : wr.tape = W.tape
  out : wr.output = W.output
  size : W.heap.size ≤ wr.heap.size
  keep : ∀ b, b < W.heap.size → b ≠ N → wr.heap[b]? = W.heap[b]?

section
variable {W wr w2 : World} {N : Nat} {zv tv : Value}
theorem ZIn.grown (h : ZIn W N zv tv wr) {v : Value} {base n size : Nat} {e : TypeId} {xs : List Value} (hB : W.heap.size ≤ base) (hN : N < base) (hown : wr.ownsRow base e size v n xs) (y : Ext wr) (o : Obj) (hgr : (y.now.alloc o).grownBy w2 v.ownBlock) : ZIn W N zv tv w2 := by
  have hls := h.lt
  have hy := y.le
  have hne : ∀ b, b < base → some b ≠ v.ownBlock := fun b hb e => by have := (hown.lt b e.symm).1; omega
  have hb : ∀ b, b < base → b < wr.heap.size → w2.heap[b]? = wr.heap[b]? := fun b h1 h2 => by
    rw [hgr.block b (by simp; omega) (hne b h1)]
    exact ((Ext.one y.now o).block b (by omega)).trans (y.block b h2)
  have hN2 := hb N hN h.lt
  refine ⟨?_, ?_, ?_, ?_, ?_, ?_, ?_, ?_, ?_, ?_, ?_, ?_⟩
  · rw [World.cell?_of_block (w := wr) hN2]; exact h.c0
  · rw [World.cell?_of_block (w := wr) hN2]; exact h.c2
  · rw [World.cell?_of_block (w := wr) hN2]; exact h.c3
  · rw [World.cell?_of_block (w := wr) hN2]; exact h.c7
  · rw [World.frozen?_of_block (w := wr) hN2]; exact h.f2
  · rw [World.frozen?_of_block (w := wr) hN2]; exact h.f3
  · have := hgr.size; simp at this; omega
  · exact hgr.os.trans (y.below.os.trans h.os)
  · exact hgr.tape.trans (y.below.tape.trans h.tape)
  · exact hgr.output.trans (y.below.output.trans h.out)
  · have := hgr.size; have := h.size; simp at *; omega
  · intro b hb1 hb2
    rw [hb b (by omega) (by have := h.size; omega)]
    exact h.keep b hb1 hb2

theorem ZIn.put2 (h : ZIn W N zv tv wr) (v : Value) : ZIn W N v tv (wr.setCell ⟨N, 2, none⟩ v) :=
  ⟨by rw [World.cell?_setCell_other _ _ _ _ (by simp)]; exact h.c0, World.cell?_setCell_same _ _ _ h.c2, by rw [World.cell?_setCell_other _ _ _ _ (by simp)]; exact h.c3,
    by rw [World.cell?_setCell_other _ _ _ _ (by simp)]; exact h.c7, by simp [h.f2], by simp [h.f3], by simpa using h.lt, h.os, h.tape, h.out, by simpa using h.size,
    fun b hb hn => by rw [Deep.blk_setCell_other _ _ _ _ hn]; exact h.keep b hb hn⟩

theorem ZIn.put3 (h : ZIn W N zv tv wr) (v : Value) : ZIn W N zv v (wr.setCell ⟨N, 3, none⟩ v) :=
  ⟨by rw [World.cell?_setCell_other _ _ _ _ (by simp)]; exact h.c0, by rw [World.cell?_setCell_other _ _ _ _ (by simp)]; exact h.c2, World.cell?_setCell_same _ _ _ h.c3,
    by rw [World.cell?_setCell_other _ _ _ _ (by simp)]; exact h.c7, by simp [h.f2], by simp [h.f3], by simpa using h.lt, h.os, h.tape, h.out, by simpa using h.size,
    fun b hb hn => by rw [Deep.blk_setCell_other _ _ _ _ hn]; exact h.keep b hb hn⟩
end

theorem zone_info : (Tryz.prog.info? 155).map (fun i => (i.zero.map (·.cells.size), i.size, i.bytes)) = some (some 3, 3, 32) := by kernel_rfl
theorem trans_info : (Tryz.prog.info? 157).map (fun i => (i.zero.map (·.cells.size), i.size, i.bytes)) = some (some 4, 4, 16) := by kernel_rfl

theorem row_append (T E k bytes : Nat) (ht : Tryz.prog.underlying T = some (.slice E)) (hinfo : (Tryz.prog.info? E).map (fun i => (i.zero.map (·.cells.size), i.size, i.bytes)) = some (some k, k, bytes)) (hk : 0 < k) (hbt : bytes < 100)
    (w : World) {ops : Array Oper} {o : Oper} {a : Act} {K : Act → World → Prop} {Q : Exit → Act → World → Prop} {El : Prop} (hgd : o.guard = none) (s x : Operand)
    (ho : o.op = .call { callee := .builtin .append, args := #[s, x], argTypes := #[T, T] }) (base n : Nat) (v : Value) (xs : List Value) (hs : a.eval s = v)
    (hown : w.ownsRow base E k v n xs) (ad : Addr) (c : Nat) (news : List Value) (hx : a.eval x = .slice (some ad) 1 c) (hl : news.length = k)
    (hnews : ∀ j u, news[j]? = some u → w.cell? (ad.add j) = some u) (h1 : ∀ u ∈ news, u.oneCell' = true) (hn : n < 1000000) (hbase : base ≤ w.heap.size)
    (h : ∀ g cap w', w'.ownsRow base E k (.slice (some ⟨g, 0, none⟩) (n + 1) cap) (n + 1) (xs ++ news) → w.grownBy w' v.ownBlock → K (a.put o.dst (.slice (some ⟨g, 0, none⟩) (n + 1) cap)) w') :
    if Region.wanted o (yielded ops a.tmps) = true then o.wp Tryz.prog a w K Q else El := by
  obtain ⟨i, hi, he⟩ := Option.map_eq_some_iff.1 hinfo
  injection he with e1 e2
  injection e2 with e2 e3
  obtain ⟨z, hz, hzc⟩ := Option.map_eq_some_iff.1 e1
  refine step_append_lies w hgd s x T ho base E i z k bytes ht hi hz e2 e3 hzc hk v n xs hs hown ad 1 c news hx (by omega) hnews h1 (by omega) (by simp [maxLen]; omega) ?_ hbase _ rfl (fun g cap w' a1 a2 _ _ => h g cap w' a1 a2)
  have : (n + 1) * bytes ≤ 1000000 * 100 := Nat.mul_le_mul (by omega) (by omega)
  omega

def ZRowP (O : List Int) (n : Nat) (xs : List Value) : Prop := ∀ j, j < n → (∃ v, xs[j * 3]? = some v) ∧ xs[j * 3 + 1]? = some (.int .i64 (O.getD j 0)) ∧ ∃ v, xs[j * 3 + 2]? = some v
def TRowP (W I : List Int) (n : Nat) (xs : List Value) : Prop := ∀ j, j < n → xs[j * 4]? = some (.int .i64 (W.getD j 0)) ∧ xs[j * 4 + 1]? = some (.int .u8 ((I.getD j 0).toNat : Nat))

theorem ZRowP.more {O : List Int} {n : Nat} {xs : List Value} (h : ZRowP O n xs) (hl : xs.length = n * 3) (a b : Value) (x : Int) (hx : x = O.getD n 0) : ZRowP O (n + 1) (xs ++ [a, .int .i64 x, b]) := by
  intro j hj
  rcases Nat.lt_or_ge j n with hlt | hge
  · rw [List.getElem?_append_left (by omega), List.getElem?_append_left (by omega), List.getElem?_append_left (by omega)]
    exact h j hlt
  · obtain rfl : j = n := by omega
    rw [List.getElem?_append_right (by omega), List.getElem?_append_right (by omega), List.getElem?_append_right (by omega), hl]
    refine ⟨⟨a, by simp⟩, ?_, ⟨b, ?_⟩⟩
    · rw [show j * 3 + 1 - j * 3 = 1 from by omega, hx]; rfl
    · rw [show j * 3 + 2 - j * 3 = 2 from by omega]; rfl

theorem TRowP.more {W I : List Int} {n : Nat} {xs : List Value} (h : TRowP W I n xs) (hl : xs.length = n * 4) (a b : Value) (x k : Int) (hx : x = W.getD n 0) (hk : k = ((I.getD n 0).toNat : Nat)) : TRowP W I (n + 1) (xs ++ [.int .i64 x, .int .u8 k, a, b]) := by
  intro j hj
  rcases Nat.lt_or_ge j n with hlt | hge
  · rw [List.getElem?_append_left (by omega), List.getElem?_append_left (by omega)]
    exact h j hlt
  · obtain rfl : j = n := by omega
    rw [List.getElem?_append_right (by omega), List.getElem?_append_right (by omega), hl]
    refine ⟨?_, ?_⟩
    · rw [Nat.sub_self, hx]; rfl
    · rw [show j * 4 + 1 - j * 4 = 1 from by omega, hk]; rfl

structure Two (a b : Addr) (u v : Value) where
  now : World
  ca : now.cell? a = some u
  cb : now.cell? b = some v
attribute [local go_sem] Two.ca Two.cb

set_option maxRecDepth 1000000 in
set_option maxHeartbeats 4000000 in
theorem zzZone_any {w : World} {vo vd vw vi : Value} {O W I : List Int} (hO : IRow w vo O) (hD : BRow w vd O.length) (hW : IRow w vw W) (hI : IRow w vi I) (hIW : I.length = W.length) (hO0 : 0 < O.length) (h64 : O.length ≤ 64) (hW0 : 0 < W.length) (hW4 : W.length ≤ 4096)
    (hix : ∀ i, i < I.length → 0 ≤ I.getD i 0 ∧ I.getD i 0 < O.length) :
    Calls Tryz.prog 62 #[vo, vd, vw, vi] w fun e w' => (∃ L zb tb, e = .returned (.pointer (some ⟨L, 0, none⟩)) ∧ ZoneAt w' L zb tb O.length (fun i => (I.getD i 0).toNat) ⟨W.length, fun i => W.getD i 0, fun i => O.getD (I.getD i 0).toNat 0⟩) ∧ ∃ y : Ext w, w' = y.now := by
  obtain ⟨oO, cO, rfl, hO⟩ := hO
  obtain ⟨oD, cD, rfl, hD⟩ := hD
  obtain ⟨oW, cW, rfl, hW⟩ := hW
  obtain ⟨oI, cI, rfl, hI⟩ := hI
  obtain ⟨gO, fO, rfl, hgO, hcO, HO⟩ := hO (fun e => by rw [e] at hO0; simp at hO0)
  obtain ⟨gD, fD, rfl, hgD, hcD, HD⟩ := hD hO0
  obtain ⟨gW, fW, rfl, hgW, hcW, HW⟩ := hW (fun e => by rw [e] at hW0; simp at hW0)
  obtain ⟨gI, fI, rfl, hgI, hcI, HI⟩ := hI (fun e => by rw [e] at hIW; simp at hIW; omega)
  have HO := Lib.hid HO
  have HD := Lib.hid HD
  have HW := Lib.hid HW
  have HI := Lib.hid HI
  have HIX := Lib.hid hix
  have HIW := Lib.hid hIW
  clear hO hD hW hI hix hIW
  go_enter Tryz.func62, Tryz.ntmps62
  have HKW := Lib.hid (fun (wr : World) (zv tv : Value) (h : ZIn w w.heap.size zv tv wr) (b o : Nat) (hb : b < w.heap.size) => (show wr.cell? ⟨b, o, none⟩ = w.cell? ⟨b, o, none⟩ from World.cell?_of_block (h.keep b hb (by omega))))
  obtain ⟨N, hN⟩ : ∃ N, N = w.heap.size := ⟨_, rfl⟩
  have HN := Lib.hid hN
  go_upto_block 0 with fail
  rw [← hN] at HKW ⊢
  clear hN
  go_cut [10, 11] (fun _ _ wr => ∃ zv xs, ZIn w N zv (.slice none 0 0) wr ∧ wr.ownsRow (N + 1) 155 3 zv O.length xs ∧ ZRowP O O.length xs)
  case first =>
    go_wp2_with fail
    go_loopw [18] (fun t18 wr => ∃ (i : Nat) (zv : Value) (xs : List Value), t18 = .int .i64 i ∧ i ≤ O.length ∧ ZIn w N zv (.slice none 0 0) wr ∧ wr.ownsRow (N + 1) 155 3 zv i xs ∧ ZRowP O i xs) (fun t _ => O.length - (intOf t).toNat)
    case atStart => exact ⟨0, .slice none 0 0, [], rfl, Nat.zero_le _, ⟨by simp [go_sem, HN.out], by simp [go_sem, HN.out], by simp [go_sem, HN.out], by simp [go_sem, HN.out], by simp [go_sem, HN.out], by simp [go_sem, HN.out], by simp [HN.out], rfl, rfl, rfl, by simp, fun b hb _ => (Ext.one w _).block b hb⟩, World.ownsRow_nil _ _ _ _, fun j h => absurd h (Nat.not_lt_zero _)⟩
    case round =>
      obtain ⟨i, zv, xs, rfl, hi, hZ, hown, hP⟩ := hrel
      have HP := Lib.hid hP
      have HZ := Lib.hid hZ
      have HOWN := Lib.hid hown
      have hlN := hZ.lt
      have hc2 := hZ.c2
      clear hP hZ hown
      by_cases hlt : i < O.length
      · have hlt' : (i : Int) < (O.length : Int) := by omega
        have hls : wr.heap.size > N := hlN
        have hgO2 : gO < wr.heap.size := by have := HN.out; omega
        have hgD2 : gD < wr.heap.size := by have := HN.out; omega
        have hco : wr.cell? ⟨gO, fO + i, none⟩ = some (.int .i64 (O.getD i 0)) := (HKW.out wr _ _ HZ.out gO _ (by have := HN.out; omega)).trans (HO.out i hlt)
        obtain ⟨bd, hbd⟩ := HD.out i hlt
        have hcd : wr.cell? ⟨gD, fD + i, none⟩ = some (.bool bd) := (HKW.out wr _ _ HZ.out gD _ (by have := HN.out; omega)).trans hbd
        obtain ⟨x, hx⟩ : ∃ x, x = O.getD i 0 := ⟨_, rfl⟩
        rw [← hx] at hco
        have HX := Lib.hid hx
        have HBD := Lib.hid hbd
        clear hx hbd
        go_wp2_with fail
        haveI hne : Nonempty (Two ⟨N, 2, none⟩ ⟨gD, fD + i, none⟩ zv (.bool bd)) := ⟨⟨wr.drew, hc2, hcd⟩⟩
        refine wp_region_plan 13 [(0, false), (1, false), (2, false), (3, false), (4, false), (5, false), (6, false), (7, false), (8, false), (9, false), (10, false), (11, true), (12, true)] (fun w' => ∃ x : Two ⟨N, 2, none⟩ ⟨gD, fD + i, none⟩ zv (.bool bd), w' = x.now)
          (by kernel_rfl) (by kernel_rfl) (fun _ _ d _ _ h => by cases d <;> exact h) ⟨⟨wr.drew, hc2, hcd⟩, rfl⟩ ?_
        iterate 11 (refine plan_read rfl (fun K hK => ?_); go_simp; refine hK _ ?_; clear hK K)
        obtain ⟨y, hy⟩ : ∃ y : Ext wr, wr.drew = y.now := ⟨Ext.drewn wr, rfl⟩
        rw [hy]
        clear hy
        have hly : N < y.now.heap.size := y.lt _ hlN
        have hgy : gD < y.now.heap.size := y.lt _ hgD2
        refine plan_step rfl (fun K hK => ?_); go_simp
        refine hK _ _ ⟨⟨_, ((Ext.one y.now _).cell _ _ hly).trans ((y.cell _ _ hlN).trans hc2), ((Ext.one y.now _).cell _ _ hgy).trans ((y.cell _ _ hgD2).trans hcd)⟩, rfl⟩ ?_; clear hK K
        refine plan_step rfl (fun K hK => ?_)
        refine row_append 149 155 3 32 (by kernel_rfl) zone_info (by decide) (by decide) _ rfl _ _ rfl (N + 1) i zv xs rfl ((orow_ext HOWN.out y).alloc _) ⟨y.now.heap.size, 0, none⟩ 1 [.string ⟨#[122, 111, 110, 101]⟩, .int .i64 x, .bool bd] rfl rfl (World.news_of_block (heap_alloc_new y.now _)) (by simp [Value.oneCell']) (by omega) (by simp; omega) ?_
        intro g cap w2 hown2 hgr
        have hZ2 := HZ.out.grown (by have := HN.out; omega) (Nat.lt_succ_self N) HOWN.out y _ hgr
        refine hK _ _ ⟨⟨w2, hZ2.c2, (HKW.out w2 _ _ hZ2 gD _ (by have := HN.out; omega)).trans HBD.out⟩, rfl⟩ ?_; clear hK K
        refine plan_nil ?_
        simp only [List.drop_succ_cons, List.drop_zero]
        have hc2' := hZ2.c2
        have hf2' := hZ2.f2
        have HZ2 := Lib.hid hZ2
        have HOWN2 := Lib.hid hown2
        clear hZ2 hown2 hgr hc2 hcd hco hlN hls hgO2 hgD2 hly hgy hne
        go_wp2_with fail
        go_roundw
        case rel => exact ⟨i + 1, _, _, by simp, by omega, HZ2.out.put2 _, ownsRow_setCell_below HOWN2.out (Nat.lt_succ_self N) _, HP.out.more HOWN.out.1 _ _ _ HX.out⟩
        case measure => simp [intOf]; omega
      · obtain rfl : i = O.length := by omega
        have hlt' : ¬ (O.length : Int) < (O.length : Int) := by omega
        go_wp2_with fail
        go_meet
        case rel => exact ⟨zv, xs, HZ.out, HOWN.out, HP.out⟩
  case rest =>
    obtain ⟨zv, xs, hZ, hown, hP⟩ := hcut
    obtain ⟨gz, cz, rfl, hgz, hgzl, hzc⟩ := ownsRow_cell hown hO0
    have HP := Lib.hid hP
    have HZ := Lib.hid hZ
    have HZC := Lib.hid hzc
    have HGZ := Lib.hid hgz
    have hlN := hZ.lt
    clear hP hZ hown hzc hgz
    have HK2 := Lib.hid (fun (wr : World) (zv tv : Value) (h : ZIn wc N zv tv wr) (b o : Nat) (hb : b < wc.heap.size) (hn : b ≠ N) => (show wr.cell? ⟨b, o, none⟩ = wc.cell? ⟨b, o, none⟩ from World.cell?_of_block (h.keep b hb hn)))
    have HST := Lib.hid (show ∀ b, b < w.heap.size → b < wc.heap.size ∧ b ≠ N from fun b hb => by have := HN.out; omega)
    go_upto_block 2 with fail
    go_cut [12, 13] (fun _ _ wr => ∃ tv xs2, ZIn wc N (.slice (some ⟨gz, 0, none⟩) O.length cz) tv wr ∧ wr.ownsRow wc.heap.size 157 4 tv W.length xs2 ∧ TRowP W I W.length xs2)
    case first =>
      go_wp2_with fail
      go_loopw [41] (fun t41 wr => ∃ (i : Nat) (tv : Value) (xs2 : List Value), t41 = .int .i64 i ∧ i ≤ W.length ∧ ZIn wc N (.slice (some ⟨gz, 0, none⟩) O.length cz) tv wr ∧ wr.ownsRow wc.heap.size 157 4 tv i xs2 ∧ TRowP W I i xs2) (fun t _ => W.length - (intOf t).toNat)
      case atStart => exact ⟨0, .slice none 0 0, [], rfl, Nat.zero_le _, ⟨HZ.out.c0, HZ.out.c2, HZ.out.c3, HZ.out.c7, HZ.out.f2, HZ.out.f3, HZ.out.lt, rfl, rfl, rfl, Nat.le_refl _, fun _ _ _ => rfl⟩, World.ownsRow_nil _ _ _ _, fun j h => absurd h (Nat.not_lt_zero _)⟩
      case round =>
        obtain ⟨i, tv, xs2, rfl, hi, hZr, hown, hPr⟩ := hrel
        have HPR := Lib.hid hPr
        have HZR := Lib.hid hZr
        have HOWN := Lib.hid hown
        have hlNr := hZr.lt
        have hc3 := hZr.c3
        have hszr := hZr.size
        clear hPr hZr hown
        by_cases hlt : i < W.length
        · have hlt' : (i : Int) < (W.length : Int) := by omega
          have hltI : (i : Int) < (I.length : Int) := by have := HIW.out; omega
          have hgW1 := HST.out gW hgW
          have hgI1 := HST.out gI hgI
          have hgW2 : gW < wr.heap.size := by omega
          have hgI2 : gI < wr.heap.size := by omega
          have hcw : wr.cell? ⟨gW, fW + i, none⟩ = some (.int .i64 (W.getD i 0)) := (HK2.out wr _ _ HZR.out gW _ hgW1.1 hgW1.2).trans ((HKW.out wc _ _ HZ.out gW _ (by have := HN.out; omega)).trans (HW.out i hlt))
          have hciw : w.cell? ⟨gI, fI + i, none⟩ = some (.int .i64 (I.getD i 0)) := HI.out i (by have := HIW.out; omega)
          have hci : wr.cell? ⟨gI, fI + i, none⟩ = some (.int .i64 (I.getD i 0)) := (HK2.out wr _ _ HZR.out gI _ hgI1.1 hgI1.2).trans ((HKW.out wc _ _ HZ.out gI _ (by have := HN.out; omega)).trans hciw)
          obtain ⟨v0, v1⟩ := HIX.out i (by have := HIW.out; omega)
          obtain ⟨x, hx⟩ : ∃ x, x = W.getD i 0 := ⟨_, rfl⟩
          obtain ⟨k, hk⟩ : ∃ k, k = I.getD i 0 := ⟨_, rfl⟩
          rw [← hx] at hcw
          rw [← hk] at hci hciw v0 v1
          have v2 : k < 64 := by omega
          have hwk : IntKind.u8.wrap k = k := by simp [IntKind.wrap, IntKind.bits, IntKind.signed]; omega
          have HX := Lib.hid hx
          have HKK := Lib.hid hk
          have HCI := Lib.hid hciw
          have HGI1 := Lib.hid hgI1
          clear hx hk hciw hgW1 hgI1
          go_wp2_with fail
          haveI hne : Nonempty (Two ⟨N, 3, none⟩ ⟨gI, fI + i, none⟩ tv (.int .i64 k)) := ⟨⟨wr.drew, hc3, hci⟩⟩
          refine wp_region_plan 14 [(0, false), (1, false), (2, false), (3, false), (4, false), (5, false), (6, false), (7, false), (8, false), (9, false), (10, false), (11, false), (12, true), (13, true)] (fun w' => ∃ x : Two ⟨N, 3, none⟩ ⟨gI, fI + i, none⟩ tv (.int .i64 k), w' = x.now)
            (by kernel_rfl) (by kernel_rfl) (fun _ _ d _ _ h => by cases d <;> exact h) ⟨⟨wr.drew, hc3, hci⟩, rfl⟩ ?_
          iterate 12 (refine plan_read rfl (fun K hK => ?_); go_simp; refine hK _ ?_; clear hK K)
          obtain ⟨y, hy⟩ : ∃ y : Ext wr, wr.drew = y.now := ⟨Ext.drewn wr, rfl⟩
          rw [hy]
          clear hy
          have hly : N < y.now.heap.size := y.lt _ hlNr
          have hgy : gI < y.now.heap.size := y.lt _ hgI2
          refine plan_step rfl (fun K hK => ?_); go_simp
          refine hK _ _ ⟨⟨_, ((Ext.one y.now _).cell _ _ hly).trans ((y.cell _ _ hlNr).trans hc3), ((Ext.one y.now _).cell _ _ hgy).trans ((y.cell _ _ hgI2).trans hci)⟩, rfl⟩ ?_; clear hK K
          refine plan_step rfl (fun K hK => ?_)
          refine row_append 150 157 4 16 (by kernel_rfl) trans_info (by decide) (by decide) _ rfl _ _ rfl wc.heap.size i tv xs2 rfl ((orow_ext HOWN.out y).alloc _) ⟨y.now.heap.size, 0, none⟩ 1 [.int .i64 x, .int .u8 k, .bool false, .bool false] rfl rfl (World.news_of_block (heap_alloc_new y.now _)) (by simp [Value.oneCell']) (by omega) (by have := y.le; simp; omega) ?_
          intro g cap w2 hown2 hgr
          have hZ2 := HZR.out.grown (Nat.le_refl _) hlN HOWN.out y _ hgr
          refine hK _ _ ⟨⟨w2, hZ2.c3, (HK2.out w2 _ _ hZ2 gI _ HGI1.out.1 HGI1.out.2).trans ((HKW.out wc _ _ HZ.out gI _ (by have := HN.out; omega)).trans HCI.out)⟩, rfl⟩ ?_; clear hK K
          refine plan_nil ?_
          simp only [List.drop_succ_cons, List.drop_zero]
          have hc3' := hZ2.c3
          have hf3' := hZ2.f3
          have HZ2 := Lib.hid hZ2
          have HOWN2 := Lib.hid hown2
          clear hZ2 hown2 hgr hc3 hci hcw hlNr hszr hgW2 hgI2 hly hgy hne
          go_wp2_with fail
          go_roundw
          case rel => exact ⟨i + 1, _, _, by simp, by omega, HZ2.out.put3 _, ownsRow_setCell_below HOWN2.out hlN _, HPR.out.more HOWN.out.1 _ _ _ _ HX.out (by rw [← HKK.out]; omega)⟩
          case measure => simp [intOf]; omega
        · obtain rfl : i = W.length := by omega
          have hlt' : ¬ (W.length : Int) < (W.length : Int) := by omega
          go_wp2_with fail
          go_meet
          case rel => exact ⟨tv, xs2, HZR.out, HOWN.out, HPR.out⟩
    case rest =>
      obtain ⟨tv, xs2, hZr, hown, hPr⟩ := hcut
      obtain ⟨gt, ct, rfl, hgt, hgtl, htc⟩ := ownsRow_cell hown hW0
      have HPR := Lib.hid hPr
      have HZR := Lib.hid hZr
      have HTC := Lib.hid htc
      clear hPr hZr hown htc hgt
      go_wp2_with fail
      go_ret
      refine ⟨⟨N, gz, gt, rfl, ⟨HZR.out.c0, ⟨cz, HZR.out.c2⟩, ⟨ct, HZR.out.c3⟩, HZR.out.c7, fun i hi => ?_, ⟨HZR.out.lt, by have := HZR.out.size; omega, hgtl⟩, hO0, ⟨by omega, by show W.length < 1000000; omega⟩⟩⟩, ?_⟩
      · have hi' : i < W.length := hi
        obtain ⟨a1, a2⟩ := HPR.out i hi'
        obtain ⟨b0, b1⟩ := HIX.out i (by have := HIW.out; omega)
        have hk : (I.getD i 0).toNat < O.length := by omega
        obtain ⟨⟨u, c1⟩, c2, ⟨u2, c3⟩⟩ := HP.out _ hk
        have hz := fun j => HK2.out wc _ _ HZR.out gz j hgzl (by have := HGZ.out; omega)
        refine ⟨(HTC.out _ (by omega)).trans a1, (HTC.out _ (by omega)).trans a2, hk, ?_, ⟨u, ?_⟩, ⟨u2, ?_⟩⟩
        · rw [hz, HZC.out _ (by omega)]; exact c2
        · rw [hz, HZC.out _ (by omega)]; exact c1
        · rw [hz, HZC.out _ (by omega)]; exact c3
      · exact Ext.of ⟨HZR.out.os.trans HZ.out.os, HZR.out.tape.trans HZ.out.tape, HZR.out.out.trans HZ.out.out, Nat.le_trans HZ.out.size HZR.out.size,
          fun b hb => (HZR.out.keep b (HST.out b hb).1 (HST.out b hb).2).trans (HZ.out.keep b hb (HST.out b hb).2)⟩

end Go.Proofs.YtopcjlimjkfoiaaGreatDoor
namespace Go.Proofs.YtopcjlimjkfoiaaGreatDoor
open Go.RowKit Go.Cal
attribute [local go_sem] Ext.cell Ext.frozen Ext.lt Ext.lt_add Ext.cell2 Ext.frozen2

def zoneOf (O W I : List Int) : Zn := if O.length = 0 then utcZn else ⟨W.length, fun i => W.getD i 0, fun i => O.getD (I.getD i 0).toNat 0⟩

theorem zone_plain {O W I : List Int} {nd : Nat} (hg : GoodZ O W I nd) (hp : PlainZ O W I) : Plain (zoneOf O W I) := by
  unfold zoneOf
  rcases hg with ⟨h, _, _⟩ | ⟨h1, h2, h3, h4, h5, h6, h7, h8, h9⟩
  · rw [if_pos (by rw [h]; rfl)]
    exact utc_plain
  · rw [if_neg (by omega)]
    obtain ⟨p1, p2⟩ := hp
    have hk : ∀ i, i < W.length → (I.getD i 0).toNat < O.length := fun i hi => by have := h9 i (by omega); omega
    refine ⟨h4, h7, fun i hi => ?_, fun i hi => ?_, fun i h1 hi => ?_, fun i hi => ?_⟩
    · have := (h9 (i + 1) (by have : i + 1 < W.length := hi; omega)).2.2 (by omega)
      simpa using this
    · have a := h8 _ (hk i hi)
      have b := p1 _ (hk i hi)
      exact ⟨a.1, a.2, b⟩
    · have := (p2 (i + 1) (by omega) hi).2.2.1 (by omega)
      have e : i + 1 - 1 = i := by omega
      rw [e] at this
      show W.getD i 0 + 345600 ≤ W.getD (i + 1) 0
      omega
    · have := (p2 (i + 1) (by omega) hi).2.2.2 _ _ rfl rfl
      have e : i + 1 - 1 = i := by omega
      rw [e] at this
      obtain ⟨b1, b2, b3, b4, b5, b6⟩ := this
      refine ⟨b1, b2, ?_, b4, b5, b6⟩
      show O.getD (I.getD i 0).toNat 0 - 3600 ≤ O.getD (I.getD (i + 1) 0).toNat 0
      omega

theorem location_z {w : World} {vo vd vw vi : Value} {O W I : List Int} {nd : Nat} (hO : IRow w vo O) (hD : BRow w vd nd) (hW : IRow w vw W) (hI : IRow w vi I) (hg : GoodZ O W I nd) :
    Calls Tryz.prog 32 #[.agg #[vo, vd, vw, vi]] w fun e w' => (∃ L p, e = .returned (.pointer (some ⟨L, 0, none⟩)) ∧ Lpl w' L p (zoneOf O W I)) ∧ ∃ y : Ext w, w' = y.now := by
  unfold zoneOf
  rcases hg with ⟨h, hw, hi⟩ | ⟨h1, h2, h3, h4, h5, h6, h7, h8, h9⟩
  · rw [if_pos (by rw [h]; rfl)]
    obtain ⟨oO, cO, rfl, _⟩ := hO
    have h0 : O.length = 0 := by rw [h]; rfl
    rw [h0]
    clear h hD hW hI hw hi h0
    have hu := Lib.hid (fun (W : World) => utc_two W)
    go_enter Tryz.func32, Tryz.ntmps32
    go_wp2_with (go_at_call 61; (with_reducible refine (hu.out _).mono ?_); rintro e9 w9 ⟨l, rfl, c0, c2, hl, y9, rfl⟩; have HL := Lib.hid (Lpl.utc c0 c2 hl); clear c0 c2 hl)
    go_ret
    exact ⟨⟨l, none, rfl, HL.out⟩, Ext.via y9⟩
  · rw [if_neg (by omega)]
    obtain ⟨oO, cO, rfl, hOr⟩ := hO
    have HZ := Lib.hid (fun (o : Obj) => zzZone_any (O := O) (W := W) (I := I) (vd := vd) (vw := vw) (vi := vi) (w := w.alloc o) (IRow.ext ⟨oO, cO, rfl, hOr⟩ (Ext.one w o)) (BRow.ext (h3 ▸ hD) (Ext.one w o)) (hW.ext (Ext.one w o)) (hI.ext (Ext.one w o)) h6 h1 h2 h4 h5 (fun i hi => ⟨(h9 i hi).1, (h9 i hi).2.1⟩))
    have k0 : ((O.length : Int) == 0) = false := beq_eq_false_iff_ne.2 (by omega)
    clear hOr hD hW hI h1 h2 h3 h4 h5 h6 h7 h8 h9
    go_enter Tryz.func32, Tryz.ntmps32
    go_wp2_with (go_at_call 62; (with_reducible refine (HZ.out _).mono ?_); rintro e9 w9 ⟨⟨L, zb, tb, rfl, hz⟩, y9, rfl⟩; have HL := Lib.hid (Lpl.zone hz); clear hz)
    go_ret
    exact ⟨⟨L, _, rfl, HL.out⟩, Ext.via y9⟩

end Go.Proofs.YtopcjlimjkfoiaaGreatDoor
namespace Go.Cal

theorem Par.Run.res_bd {p : Par} {B : Int} {k : Nat} {s : St} {r : Option Int} (h : p.Run B k s r) : ∀ t, r = some t → -2000000000000000 ≤ t ∧ t ≤ B := by
  induction h with
  | @fin s r lo hi h =>
    intro t hr
    subst hr
    unfold Par.step at h
    cases hp : s.ph <;> rw [hp] at h <;> simp only at h
    · split at h <;> cases h
    · split at h <;> cases h
    · split at h <;> cases h
    · split at h <;> cases h
    · split at h <;> cases h
    · split at h
      · injection h with h
        injection h with h
        subst h
        exact ⟨lo, hi⟩
      · cases h
  | on lo hi x h e ih => exact ih

end Go.Cal
namespace Go.Proofs.YtopcjlimjkfoiaaGreatDoor
open Go.RowKit Go.Cal
attribute [local go_sem] Ext.cell Ext.frozen Ext.lt Ext.lt_add Ext.cell2 Ext.frozen2

theorem nx_ends {z : Zn} (hz : Plain z) (f : Nat → Nat) (t : Int) (h0 : -1000000000000 ≤ t) (h1 : t ≤ 1000000000000) : ∃ k r Bd, Bd ≤ 20000000000000 ∧ (nxPar z (yr z t + 5) f).Run Bd k ⟨.wr, t, false⟩ r := by
  have hA := hz.at_any t h0
  have c := c0_eq
  have hlo := hA.lo hz
  have hbig := hA.big
  have hs0 := hA.s0
  obtain ⟨D, hD⟩ : ∃ D, D = dayN z t := ⟨_, rfl⟩
  rw [← hD] at hlo hbig hA
  have ey : yr z t = yearD D := by unfold yr; rw [hD]
  have hyp := year_pos D (by omega)
  have h2 := day_year D hyp
  have h3 := first_mono (yearD D + 1) (by omega) 5
  obtain ⟨k, hp⟩ := parts D
  have hj := jf_le D
  have e1 : yearD D = cen D * 100 + cyr D + jfb D := rfl
  have hp1 := hp.day
  have hp2 := hp.hk
  have hcy := hp.hcy
  have e2 : firstD (yearD D + 6) 1 = 146097 * ((yearD D + 5) / 100) / 4 + (1461 * ((yearD D + 5) % 100) / 4 + 306) := rfl
  have hup : firstD (yearD D + 6) 1 ≤ D + 2600 := by omega
  have e3 : yearD D + 1 + 5 = yearD D + 6 := by omega
  rw [e3] at h3
  obtain ⟨n, r, hr⟩ := start_ends (p := nxPar z (yr z t + 5) f) hz t h0 (by
    have e4 : (nxPar z (yr z t + 5) f).lim + 1 = yearD D + 6 := by show yr z t + 5 + 1 = _; rw [ey]
    rw [e4]
    omega)
  refine ⟨n, r, _, ?_, hr⟩
  have e4 : (nxPar z (yr z t + 5) f).lim + 1 = yearD D + 6 := by show yr z t + 5 + 1 = _; rw [ey]
  rw [e4]
  omega

def NextIs (K : Kd) (z : Zn) (s n : Int) (m x : Int) : Prop :=
  match K with
  | .every d => m = d % 1000000000 ∧ x = s + 62135596800 + d / 1000000000
  | .sets f => ∃ k Bd r, Bd ≤ 20000000000000 ∧ (nxPar z (yr z (s + 1) + 5) f).Run Bd k ⟨.wr, s + 1, false⟩ r ∧ m = 0 ∧ x = (match r with | none => 0 | some t => t + 62135596800)

theorem next_is (K : Kd) (hK : K.Ok) {z : Zn} (hz : Plain z) (s n : Int) (s0 : -62135596800 ≤ s) (s1 : s ≤ 253402300799) : ∃ m x, NextIs K z s n m x ∧ 0 ≤ m ∧ m < 1000000000 ∧ -9223372036854775808 ≤ x - 62135596800 ∧ x ≤ 9223372036854775807 := by
  cases K with
  | every d =>
    obtain ⟨h1, h2, h3⟩ := hK
    exact ⟨_, _, ⟨rfl, rfl⟩, by omega, by omega, by omega, by omega⟩
  | sets f =>
    obtain ⟨k, r, Bd, hB, hR⟩ := nx_ends hz f (s + 1) (by omega) (by omega)
    refine ⟨0, _, ⟨k, Bd, r, hB, hR, rfl, rfl⟩, by omega, by omega, ?_⟩
    cases r with
    | none => exact ⟨by decide, by decide⟩
    | some t =>
      have := hR.res_bd t rfl
      simp only
      omega

inductive PlaceAt (w : World) (zo : Zn) : Option Addr → Zn → Prop
  | nil : PlaceAt w zo none zo
  | own {L : Nat} {p : Option Addr} {z : Zn} (h : Lpl w L p z) : PlaceAt w zo (some ⟨L, 0, none⟩) z

theorem PlaceAt.ext {w : World} {zo z : Zn} {p : Option Addr} (h : PlaceAt w zo p z) (x : Ext w) : PlaceAt x.now zo p z := by
  cases h with
  | nil => exact .nil
  | own h => exact .own (h.ext x)

theorem IfAt.ext {w : World} {p : Option Addr} {K : Kd} {v : Value} (h : IfAt w p K v) (x : Ext w) : IfAt x.now p K v := by
  cases K with
  | every d => exact h
  | sets f =>
    obtain ⟨S, h1, h2, h3⟩ := h
    exact ⟨S, h1, h2.ext x, by rw [x.cell _ _ h2.lt]; exact h3⟩

theorem specNext_any {w : World} {S : Nat} {f : Nat → Nat} {pl q : Option Addr} {z zo : Zn} (hS : Sch w S f) (h6 : w.cell? ⟨S, 6, none⟩ = some (.pointer pl)) (hpl : PlaceAt w zo pl z) (hz : Plain z) (hT : Tpl w q zo) {s n m x : Int} (hN : NextIs (.sets f) z s n m x)
    (n0 : 0 ≤ n) (n1 : n < 1000000000) (s0 : -62135596800 ≤ s) (s1 : s ≤ 253402300799) :
    Calls Tryz.prog 160 #[.pointer (some ⟨S, 0, none⟩), tv n (s + 62135596800) q] w fun e w' => (∃ q', e = .returned (tv m x q')) ∧ ∃ y : Ext w, w' = y.now := by
  obtain ⟨k, Bd, r, hB, hR, rfl, rfl⟩ := hN
  have hv : ∀ q, ∃ q', nxVal r q = tv 0 (match r with | none => 0 | some t => t + 62135596800) q' := fun q => by
    cases r with
    | none => exact ⟨none, rfl⟩
    | some t => exact ⟨q, rfl⟩
  cases hpl with
  | nil =>
    refine (next_nil hz hT hS h6 n s n0 n1 (by omega) (by omega) hB hR).mono ?_
    rintro e w' ⟨rfl, hx⟩
    obtain ⟨q', h⟩ := hv q
    exact ⟨⟨q', by rw [h]⟩, hx⟩
  | own hL =>
    refine (next_loc hz hL hT hS h6 n s n0 n1 (by omega) (by omega) hB hR).mono ?_
    rintro e w' ⟨rfl, hx⟩
    obtain ⟨q', h⟩ := hv q
    exact ⟨⟨q', by rw [h]⟩, hx⟩

theorem delayNext_is {d : Int} (hd : (Kd.every d).Ok) {z : Zn} {s n m x : Int} (hN : NextIs (.every d) z s n m x) (q : Option Addr) (w : World) (n0 : 0 ≤ n) (n1 : n < 1000000000) (s0 : -62135596800 ≤ s) (s1 : s ≤ 253402300799) :
    Calls Tryz.prog 193 #[.agg #[.int .i64 d], tv n (s + 62135596800) q] w fun e w' => (∃ q', e = .returned (tv m x q')) ∧ ∃ y : Ext w, w' = y.now := by
  obtain ⟨rfl, rfl⟩ := hN
  obtain ⟨h1, h2, h3⟩ := hd
  refine (delayNext_any n (s + 62135596800) d q w n0 n1 (by omega) (by omega) (by omega) (by omega)).mono ?_
  rintro e w' ⟨rfl, hx⟩
  exact ⟨⟨q, rfl⟩, hx⟩

end Go.Proofs.YtopcjlimjkfoiaaGreatDoor
