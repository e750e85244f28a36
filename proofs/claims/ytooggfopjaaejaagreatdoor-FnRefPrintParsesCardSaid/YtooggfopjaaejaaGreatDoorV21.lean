/-
FnRefPrintParses: the regular expressions, the digest and the reference, part 21 of 25.
-/
import Derived.Test.YtooggfopjaaejaaGreatDoorV20
import Derived.Test.YtooggfopjaaejaaGreatDoorV19
set_option linter.all false
namespace Go.Proofs.YtooggfopjaaejaaGreatDoor
open Go.RowKit Go.Rx
attribute [local go_sem] Ext.cell Ext.frozen Ext.lt Ext.lt_add Ext.cell2 Ext.frozen2

/-- A run with where its runes and its next places lie. -/
abbrev ORun := (Run × Sl) × (Sl × Int)

def oCells (x : ORun) : List Value := [.int .i64 x.1.1.n, .int .u8 x.1.1.op, .int .i64 x.1.1.out, .int .i64 x.1.1.dout, .int .i64 x.1.1.arg, .int .i64 x.1.1.darg, slV x.1.2, slV x.2.1, .int .i64 x.2.2]

/-- Next places in memory. -/
def NextAt (w : World) (s : Sl) : Prop := s = (none, 0, 0) ∨ ∃ b n, s = (some ⟨b, 0, none⟩, n, n) ∧ n ≤ 10 ∧ b < w.heap.size ∧ ∀ j, j < n → ∃ u : Nat, u ≤ 1000 ∧ w.cell? ⟨b, j, none⟩ = some (.int .u32 u)

/-- Runs in memory. -/
structure ORunsAt (w : World) (B : Nat) (l : List ORun) : Prop where
  cell : ∀ (i : Nat) x, l[i]? = some x → ∀ (j : Nat) u, (oCells x)[j]? = some u → w.cell? ⟨B, i * 9 + j, none⟩ = some u
  next : ∀ x, x ∈ l → NextAt w x.2.1 ∧ 0 ≤ x.2.2 ∧ x.2.2 ≤ 1

theorem u32_one_append (w : World) {ops : Array Oper} {rest : List Oper} {o : Oper} {a : Act} {Q : Exit → Act → World → Prop} (hgd : o.guard = none) (s x : Operand)
    (ho : o.op = .call { callee := .builtin .append, args := #[s, x], argTypes := #[78, 78] }) (base n : Nat) (v : Value) (xs : List Value) (hs : a.eval s = v)
    (hown : w.ownsRow base 84 1 v n xs) (ad : Addr) (c : Nat) (u : Value) (hx : a.eval x = .slice (some ad) 1 c)
    (hu : w.cell? ad = some u) (h1 : u.oneCell' = true) (hn : n < 1000000000) (hbase : base ≤ w.heap.size)
    (h : ∀ g cap w', w'.ownsRow base 84 1 (.slice (some ⟨g, 0, none⟩) (n + 1) cap) (n + 1) (xs ++ [u]) → w.grownBy w' v.ownBlock → wpList Tryz.prog ops Q rest (a.put o.dst (.slice (some ⟨g, 0, none⟩) (n + 1) cap)) w') :
    wpList Tryz.prog ops Q (o :: rest) a w := by
  obtain ⟨i, hi, hz0, hz1, hz2⟩ := info_parts u32_info
  refine wpList_append_lies w hgd s x 78 ho base 84 i _ 1 4 (by kernel_rfl) hi hz0 hz1 hz2 rfl (by omega) v n xs hs hown ad 1 c [u] hx rfl (fun j v hj => ?_) (fun v hv => ?_) (by omega) (by simp [maxLen]; omega) (by omega) hbase _ rfl (fun g cap w' a1 a2 a3 _ => h g cap w' a1 a2)
  · cases j with
    | zero =>
      simp at hj
      subst hj
      simpa [Addr.add] using hu
    | succ j => simp at hj
  · simp at hv
    subst hv
    exact h1

theorem op_info : (Tryz.prog.info? 206).map (fun i => (i.zero, i.size, i.bytes)) = some (some (.agg #[.int .u8 0, .int .u32 0, .int .u32 0, .slice none 0 0, .slice none 0 0]), 5, 64) := by kernel_rfl

theorem op_append (w : World) {ops : Array Oper} {rest : List Oper} {o : Oper} {a : Act} {Q : Exit → Act → World → Prop} (hgd : o.guard = none) (s x : Operand)
    (ho : o.op = .call { callee := .builtin .append, args := #[s, x], argTypes := #[182, 182] }) (base n : Nat) (v : Value) (xs : List Value) (hs : a.eval s = v)
    (hown : w.ownsRow base 206 5 v n xs) (ad : Addr) (c : Nat) (news : List Value) (hx : a.eval x = .slice (some ad) 1 c) (hl : news.length = 5)
    (hnews : ∀ j u, news[j]? = some u → w.cell? (ad.add j) = some u) (h1 : ∀ u ∈ news, u.oneCell' = true) (hn : n < 1000000000) (hbase : base ≤ w.heap.size)
    (h : ∀ g cap w', w'.ownsRow base 206 5 (.slice (some ⟨g, 0, none⟩) (n + 1) cap) (n + 1) (xs ++ news) → w.grownBy w' v.ownBlock → (v.ownBlock = some g ∨ g = w.heap.size) → wpList Tryz.prog ops Q rest (a.put o.dst (.slice (some ⟨g, 0, none⟩) (n + 1) cap)) w') :
    wpList Tryz.prog ops Q (o :: rest) a w := by
  obtain ⟨i, hi, hz0, hz1, hz2⟩ := info_parts op_info
  exact wpList_append_lies w hgd s x 182 ho base 206 i _ 5 64 (by kernel_rfl) hi hz0 hz1 hz2 rfl (by omega) v n xs hs hown ad 1 c news hx (by simpa using hl) hnews h1 (by omega) (by simp [maxLen]; omega) (by omega) hbase _ rfl (fun g cap w' a1 a2 a3 _ => h g cap w' a1 a2 a3)

/-- The one-pass instructions' cells: the pairs, each with its next places' value. -/
def cells5 (ps : List ((Run × Sl) × Nat)) (nx : List Value) : List Value := (ps.zip nx).flatMap fun y => instCells (y.1.1.1.inst y.1.2) (slV y.1.1.2) ++ [y.2]

theorem cells5_snoc (ps : List ((Run × Sl) × Nat)) (nx : List Value) (h : ps.length = nx.length) (y : (Run × Sl) × Nat) (v : Value) : cells5 (ps ++ [y]) (nx ++ [v]) = cells5 ps nx ++ (instCells (y.1.1.inst y.2) (slV y.1.2) ++ [v]) := by
  unfold cells5
  rw [List.zip_append h, List.flatMap_append]
  simp

def oPairs (l : List ORun) (i : Nat) : List ((Run × Sl) × Nat) := pairs ((l.map (·.1)).take i)
def rowPairs (x : Run × Sl) (k : Nat) : List ((Run × Sl) × Nat) := (List.range k).map fun j => (x, j)
theorem rowPairs_succ (x : Run × Sl) (k : Nat) : rowPairs x (k + 1) = rowPairs x k ++ [(x, k)] := by
  unfold rowPairs
  rw [List.range_succ, List.map_append]
  rfl
theorem oPairs_succ {l : List ORun} {i : Nat} {x : ORun} (h : l[i]? = some x) : oPairs l (i + 1) = oPairs l i ++ rowPairs x.1 x.1.1.n := by
  unfold oPairs pairs rowPairs
  rw [List.take_add_one, List.getElem?_map, h]
  simp
theorem pairs_len (l : List (Run × Sl)) : (pairs l).length = total l := by
  unfold pairs total
  rw [List.length_flatMap]
  simp

/-- What is there behind some instructions. -/
def Wrote5 (w : World) (ps : List ((Run × Sl) × Nat)) (v : Value) (wr : World) : Prop :=
  ∃ nx, ps.length = nx.length ∧ wr.ownsRow w.heap.size 206 5 v ps.length (cells5 ps nx) ∧ ∃ x : Ext w, wr = x.now

set_option maxRecDepth 1000000 in
set_option maxHeartbeats 4000000 in
theorem zz_one (w : World) (B : Nat) (l : List ORun) (c : Nat) (hB : ORunsAt w B l) (hBl : B < w.heap.size) (hok : ∀ x, x ∈ l → RunOk x.1.1) (hl : l.length ≤ 1000) :
    Calls Tryz.prog 86 #[.slice (some ⟨B, 0, none⟩) l.length c] w fun e w' => ∃ v, e = .returned v ∧ Wrote5 w (oPairs l l.length) v w' := by
  have HB := Lib.hid hB
  have HK := Lib.hid hok
  clear hB hok
  go_enter Tryz.func86, Tryz.ntmps86
  go_wp2_with fail
  go_loopw [3, 12] (fun v t wr => ∃ i : Nat, i ≤ l.length ∧ t = .int .i64 i ∧ Wrote5 w (oPairs l i) v wr) (fun _ t _ => l.length - (intOf t).toNat)
  case atStart => exact ⟨0, Nat.zero_le _, rfl, [], rfl, World.ownsRow_nil w w.heap.size 206 5, Ext.refl w, rfl⟩
  case round =>
    obtain ⟨i, hi, rfl, nx, hnx, hown, x, rfl⟩ := hrel
    by_cases hlt : i < l.length
    · have hlt' : (i : Int) < (l.length : Int) := by omega
      obtain ⟨y, hy⟩ : ∃ y, l[i]? = some y := ⟨_, List.getElem?_eq_getElem hlt⟩
      have hym := List.mem_of_getElem? hy
      have hyo := HK.out y hym
      have hyn := hyo.n
      have hRA := HB.out.cell i y hy
      obtain ⟨hNA, hd0, hd1⟩ := HB.out.next y hym
      have cc : ∀ j u, (oCells y)[j]? = some u → x.now.cell? ⟨B, i * 9 + j, none⟩ = some u := fun j u h => by rw [x.cell B (i * 9 + j) hBl]; exact hRA j u h
      have hT0 : (oPairs l i).length ≤ 1000000 := by
        unfold oPairs
        rw [pairs_len]
        have h1 := total_le ((l.map (·.1)).take i) (fun z hz => by
          obtain ⟨q, hq, rfl⟩ := List.mem_map.1 (List.mem_of_mem_take hz)
          exact HK.out q hq)
        rw [List.length_take, List.length_map] at h1
        have : min i l.length ≤ 1000 := by omega
        omega
      obtain ⟨⟨r, ao, m, cv⟩, ⟨no, nm, nk⟩, dn⟩ := y
      obtain ⟨n, op, out, dout, arg, darg, rune⟩ := r
      have c0 := cc 0 _ rfl
      have c1 := cc 1 _ rfl
      have c2 := cc 2 _ rfl
      have c3 := cc 3 _ rfl
      have c4 := cc 4 _ rfl
      have c5 := cc 5 _ rfl
      have c6 := cc 6 _ rfl
      have c7 := cc 7 _ rfl
      have c8 := cc 8 _ rfl
      simp only [Nat.add_zero, slV] at c0 c1 c2 c3 c4 c5 c6 c7 c8
      dsimp only at hyn hd0 hd1
      have HY := Lib.hid hyo
      have HYI := Lib.hid hy
      have HOWN := Lib.hid hown
      have HNX := Lib.hid hnx
      have HNA := Lib.hid hNA
      have hBx := x.lt B hBl
      clear hyo hy hRA cc hown hnx hNA hym
      go_wp2_with fail
      obtain ⟨w1, hw1⟩ : ∃ w1, w1 = x.now.alloc (Obj.cells #[.int .i64 n, .int .u8 op, .int .i64 out, .int .i64 dout, .int .i64 arg, .int .i64 darg, .slice ao m cv, .slice no nm nk, .int .i64 dn] 179) := ⟨_, rfl⟩
      obtain ⟨BV, hBV⟩ : ∃ BV, x.now.heap.size = BV := ⟨_, rfl⟩
      rw [← hw1, hBV]
      have bBV : Blk w1 BV [.int .i64 n, .int .u8 op, .int .i64 out, .int .i64 dout, .int .i64 arg, .int .i64 darg, .slice ao m cv, .slice no nm nk, .int .i64 dn] 179 := by rw [hw1, ← hBV]; exact Blk.new _ _ _
      have own1 : w1.ownsRow w.heap.size 206 5 u3 (oPairs l i).length (cells5 (oPairs l i) nx) := by rw [hw1]; exact HOWN.out.alloc _
      have hne : u3.ownBlock ≠ some BV := fun e => by have := (HOWN.out.lt BV e).2; omega
      have hx1 : ∃ y : Ext w, w1 = y.now := by rw [hw1]; exact Ext.both x (Ext.one x.now _)
      have W1 := Lib.hid bBV
      have W2 := Lib.hid own1
      have W3 := Lib.hid hx1
      clear hw1 bBV own1 hx1 c0 c1 c2 c3 c4 c5 c6 c7 c8
      go_loopw [3, 6] (fun v t wr => ∃ k : Nat, k ≤ n ∧ t = .int .i64 k ∧ Wrote5 w (oPairs l i ++ rowPairs (⟨n, op, out, dout, arg, darg, rune⟩, ao, m, cv) k) v wr ∧ Blk wr BV [.int .i64 n, .int .u8 op, .int .i64 out, .int .i64 dout, .int .i64 arg, .int .i64 darg, .slice ao m cv, .slice no nm nk, .int .i64 dn] 179 ∧ v.ownBlock ≠ some BV) (fun _ t _ => n - (intOf t).toNat)
      case atStart => exact ⟨0, Nat.zero_le _, rfl, ⟨nx, by simpa [rowPairs] using HNX.out, by simpa [rowPairs] using W2.out, W3.out⟩, W1.out, hne⟩
      case round =>
        obtain ⟨k, hk, rfl, ⟨nx2, hnx2, hwo, y, rfl⟩, hbv, hnb⟩ := hrel
        have d0 : y.now.cell? ⟨BV, 0, none⟩ = some (.int .i64 n) := (hbv.cell 0).trans rfl
        have d1 : y.now.cell? ⟨BV, 1, none⟩ = some (.int .u8 op) := (hbv.cell 1).trans rfl
        have d2 : y.now.cell? ⟨BV, 2, none⟩ = some (.int .i64 out) := (hbv.cell 2).trans rfl
        have d3 : y.now.cell? ⟨BV, 3, none⟩ = some (.int .i64 dout) := (hbv.cell 3).trans rfl
        have d4 : y.now.cell? ⟨BV, 4, none⟩ = some (.int .i64 arg) := (hbv.cell 4).trans rfl
        have d5 : y.now.cell? ⟨BV, 5, none⟩ = some (.int .i64 darg) := (hbv.cell 5).trans rfl
        have d6 : y.now.cell? ⟨BV, 6, none⟩ = some (.slice ao m cv) := (hbv.cell 6).trans rfl
        have d7 : y.now.cell? ⟨BV, 7, none⟩ = some (.slice no nm nk) := (hbv.cell 7).trans rfl
        have d8 : y.now.cell? ⟨BV, 8, none⟩ = some (.int .i64 dn) := (hbv.cell 8).trans rfl
        have hBVl := hbv.lt
        have V0 := Lib.hid hnx2
        have V1 := Lib.hid hwo
        have V2 := Lib.hid hbv
        have V3 := Lib.hid hnb
        clear hwo hbv hnb hnx2
        by_cases hkn : k < n
        · have hkn' : (k : Int) < (n : Int) := by omega
          have hkd : 0 ≤ (k : Int) * dn ∧ (k : Int) * dn ≤ 1000 := by
            have : dn = 0 ∨ dn = 1 := by omega
            rcases this with h | h <;> rw [h] <;> omega
          obtain ⟨kd0, kd1⟩ := hkd
          have hinst := oinst_any ⟨n, op, out, dout, arg, darg, rune⟩ HY.out ao no m cv nm nk dn k hkn y.now
          dsimp only at hinst
          have HI := Lib.hid hinst
          clear hinst
          go_wp2_with (first | (go_at_call 97; (with_reducible refine HI.out.mono ?_); rintro e w2 ⟨rfl, z, rfl⟩; have e7 := (z.cell BV 7 hBVl).trans d7; have e8 := (z.cell BV 8 hBVl).trans d8; have hBVz := z.lt BV hBVl))
          obtain ⟨BI, hBI⟩ : ∃ BI, z.now.heap.size = BI := ⟨_, rfl⟩
          rw [hBI]
          obtain ⟨w3, hw3⟩ : ∃ w3, w3 = z.now.alloc (Obj.cells #[.int .u8 (Run.inst ⟨n, op, out, dout, arg, darg, rune⟩ k).op, .int .u32 (Run.inst ⟨n, op, out, dout, arg, darg, rune⟩ k).out, .int .u32 (Run.inst ⟨n, op, out, dout, arg, darg, rune⟩ k).arg, .slice ao m cv, .slice none 0 0] 206) := ⟨_, rfl⟩
          rw [← hw3]
          have bBI : Blk w3 BI [.int .u8 (Run.inst ⟨n, op, out, dout, arg, darg, rune⟩ k).op, .int .u32 (Run.inst ⟨n, op, out, dout, arg, darg, rune⟩ k).out, .int .u32 (Run.inst ⟨n, op, out, dout, arg, darg, rune⟩ k).arg, .slice ao m cv, .slice none 0 0] 206 := by rw [hw3, ← hBI]; exact Blk.new _ _ _
          have hsz3 : w3.heap.size = BI + 1 := by rw [hw3]; simp; omega
          have c23 : Chg [] y.now w3 := by rw [hw3]; exact ((Chg.of_below z.below).trans (Chg.alloc _ _)).mono (fun _ h _ => by cases h)
          have hBVI : BV < BI := by omega
          have X1 := Lib.hid bBI
          have X2 := Lib.hid c23
          clear hw3 bBI c23
          go_loopw [29] (fun t wr => ∃ (j : Nat) (nv : Value) (xs : List Value), j ≤ nm ∧ t = .int .i64 j ∧ Blk wr BI [.int .u8 (Run.inst ⟨n, op, out, dout, arg, darg, rune⟩ k).op, .int .u32 (Run.inst ⟨n, op, out, dout, arg, darg, rune⟩ k).out, .int .u32 (Run.inst ⟨n, op, out, dout, arg, darg, rune⟩ k).arg, .slice ao m cv, nv] 206 ∧ wr.ownsRow (BI + 1) 84 1 nv j xs ∧ Chg [BI] w3 wr) (fun t _ => nm - (intOf t).toNat)
          case atStart => exact ⟨0, .slice none 0 0, [], Nat.zero_le _, rfl, X1.out, World.ownsRow_nil _ _ _ _, (Chg.refl w3).mono (fun _ h => by cases h)⟩
          case round =>
            obtain ⟨j, nv, xs, hj, rfl, hbi, hno, hch⟩ := hrel
            have g4 : wr.cell? ⟨BI, 4, none⟩ = some nv := (hbi.cell 4).trans rfl
            have fr4 := hbi.free 4
            have hBIl := hbi.lt
            have hwsz : BI + 1 ≤ wr.heap.size := by have := hch.size; omega
            have hBVr : BV < wr.heap.size := by omega
            have bvr : Blk wr BV [.int .i64 n, .int .u8 op, .int .i64 out, .int .i64 dout, .int .i64 arg, .int .i64 darg, .slice ao m cv, .slice no nm nk, .int .i64 dn] 179 := (V2.out.chg X2.out (by simp)).chg hch (by simp; omega)
            have g8 : wr.cell? ⟨BV, 8, none⟩ = some (.int .i64 dn) := (bvr.cell 8).trans rfl
            have Z1 := Lib.hid hbi
            have Z2 := Lib.hid hno
            have Z3 := Lib.hid hch
            have Z4 := Lib.hid bvr
            clear hbi hno hch bvr
            by_cases hjn : j < nm
            · have hjn' : (j : Int) < (nm : Int) := by omega
              rcases HNA.out with hq | ⟨b, n2, hq, hn10, hbl, hcells⟩
              · simp only [Prod.mk.injEq] at hq; omega
              · simp only [Prod.mk.injEq] at hq
                obtain ⟨rfl, rfl, rfl⟩ := hq
                obtain ⟨u, hu, hcu⟩ := hcells j hjn
                have hbw : b < y.now.heap.size := y.lt b hbl
                have hcu2 : wr.cell? ⟨b, j, none⟩ = some (.int .u32 u) := by
                  have h1 : y.now.cell? ⟨b, j, none⟩ = some (.int .u32 u) := (y.cell b j hbl).trans hcu
                  have h2 := (World.cell?_of_block (a := ⟨b, j, none⟩) (X2.out.block b hbw (by simp))).trans h1
                  have h3 := z.le
                  exact (World.cell?_of_block (a := ⟨b, j, none⟩) (Z3.out.block b (by omega) (by simp; omega))).trans h2
                have hbr : b < wr.heap.size := by have := z.le; omega
                clear hcells
                go_wp2_with (at_builtin; refine u32_one_append _ rfl _ _ rfl (BI + 1) j nv xs rfl (Z2.out.alloc _) ⟨wr.heap.size, 0, none⟩ 1 (.int .u32 ((u : Int) + (k : Int) * dn)) rfl (by simp) rfl (by omega) (by simp; omega) ?_)
                intro g cap w5 hown5 hgr5
                have hca : Chg [] wr (wr.alloc (Obj.cells #[Value.int .u32 ((u : Int) + (k : Int) * dn)] 84)) := Chg.alloc _ _
                have hnvb : ∀ q, nv.ownBlock = some q → BI + 1 ≤ q := fun q hq => (Z2.out.lt q hq).1
                have hc5 : Chg [BI] w3 w5 := by
                  have h0 := (Z3.out.trans hca)
                  refine ⟨hgr5.os.trans h0.os, hgr5.tape.trans h0.tape, hgr5.output.trans h0.output, Nat.le_trans h0.size hgr5.size, fun q hq hn => ?_⟩
                  rw [hgr5.block q (Nat.lt_of_lt_of_le hq h0.size) (fun e => by have := hnvb q e.symm; omega)]
                  exact h0.block q hq (by simpa using hn)
                have bI5 : Blk w5 BI [.int .u8 (Run.inst ⟨n, op, out, dout, arg, darg, rune⟩ k).op, .int .u32 (Run.inst ⟨n, op, out, dout, arg, darg, rune⟩ k).out, .int .u32 (Run.inst ⟨n, op, out, dout, arg, darg, rune⟩ k).arg, .slice ao m cv, nv] 206 := by
                  refine Eq.trans (hgr5.block BI (by simp; omega) (fun e => by have := hnvb BI e.symm; omega)) ?_
                  exact Z1.out.alloc _
                have fr5 := bI5.free 4
                have bIl5 := bI5.lt
                have g45 : w5.cell? ⟨BI, 4, none⟩ = some nv := (bI5.cell 4).trans rfl
                have Y1 := Lib.hid hown5
                have Y2 := Lib.hid hc5
                have Y3 := Lib.hid bI5
                clear hown5 hgr5 hc5 bI5 hca
                go_wp2_with fail
                refine ⟨⟨j + 1, _, _, by omega, by simp, Y3.out.set 4 _, own_chg_any Y1.out (Chg.set w5 BI 4 _) (fun q hq => ?_), (Y2.out.trans (Chg.set w5 BI 4 _)).mono (fun q h _ => by simpa using h)⟩, by simp [intOf]; omega⟩
                have := (Y1.out.lt q hq).1
                simp
                omega
            · have hjm : j = nm := by omega
              subst hjm
              have hjn' : ¬ (j : Int) < (j : Int) := by omega
              have hnv1 : nv.oneCell' = true := by
                rcases Z2.out.2 with ⟨rfl, _⟩ | ⟨g, cap, cur, rfl, _⟩ <;> rfl
              have g0 : wr.cell? ⟨BI, 0, none⟩ = some (.int .u8 (Run.inst ⟨n, op, out, dout, arg, darg, rune⟩ k).op) := (Z1.out.cell 0).trans rfl
              have g1 : wr.cell? ⟨BI, 1, none⟩ = some (.int .u32 (Run.inst ⟨n, op, out, dout, arg, darg, rune⟩ k).out) := (Z1.out.cell 1).trans rfl
              have g2 : wr.cell? ⟨BI, 2, none⟩ = some (.int .u32 (Run.inst ⟨n, op, out, dout, arg, darg, rune⟩ k).arg) := (Z1.out.cell 2).trans rfl
              have g3 : wr.cell? ⟨BI, 3, none⟩ = some (.slice ao m cv) := (Z1.out.cell 3).trans rfl
              have hvb : ∀ q, u3.ownBlock = some q → q < y.now.heap.size := fun q hq => (V1.out.lt q hq).2
              have hzl := z.le
              have hownr : wr.ownsRow w.heap.size 206 5 u3 (oPairs l i ++ rowPairs (⟨n, op, out, dout, arg, darg, rune⟩, ao, m, cv) k).length (cells5 (oPairs l i ++ rowPairs (⟨n, op, out, dout, arg, darg, rune⟩, ao, m, cv) k) nx2) :=
                own_chg_any (own_chg_any V1.out X2.out (fun q _ => by simp)) Z3.out (fun q hq => by have := hvb q hq; simp; omega)
              have hlenp : (oPairs l i ++ rowPairs (⟨n, op, out, dout, arg, darg, rune⟩, ao, m, cv) k).length = (oPairs l i).length + k := by simp [rowPairs]
              have hxr : ∃ yy : Ext w, wr = yy.now := by
                have h1 : Chg [] w y.now := Chg.of_below y.below
                have h2 : Chg [] w wr := ((h1.trans X2.out).trans Z3.out).mono (fun q hq hlt => by
                  simp at hq
                  have := y.le
                  omega)
                exact Ext.of (h2.below (Nat.le_refl _) (fun q hq => by cases hq))
              have hwr : w.heap.size ≤ wr.heap.size := by have := y.le; omega
              have U1 := Lib.hid hownr
              have U2 := Lib.hid hxr
              have U3 := Lib.hid hvb
              clear hownr hxr hvb g8 fr4
              go_wp2_with (at_builtin; refine op_append _ rfl _ _ rfl w.heap.size (oPairs l i ++ rowPairs (⟨n, op, out, dout, arg, darg, rune⟩, ao, m, cv) k).length u3 (cells5 (oPairs l i ++ rowPairs (⟨n, op, out, dout, arg, darg, rune⟩, ao, m, cv) k) nx2) rfl (U1.out.alloc _) ⟨wr.heap.size, 0, none⟩ 1 [.int .u8 (Run.inst ⟨n, op, out, dout, arg, darg, rune⟩ k).op, .int .u32 (Run.inst ⟨n, op, out, dout, arg, darg, rune⟩ k).out, .int .u32 (Run.inst ⟨n, op, out, dout, arg, darg, rune⟩ k).arg, .slice ao m cv, nv] rfl rfl (by intro j2 u hu; match j2, hu with | 0, hu => simpa [Addr.add] using hu | 1, hu => simpa [Addr.add] using hu | 2, hu => simpa [Addr.add] using hu | 3, hu => simpa [Addr.add] using hu | 4, hu => simpa [Addr.add] using hu | j2 + 5, hu => simp at hu) (by intro u hu; simp at hu; rcases hu with rfl | rfl | rfl | rfl | rfl; rfl; rfl; rfl; rfl; exact hnv1) (by omega) (by simp; omega) ?_)
              intro g cap w6 hown6 hgr6 hat6
              have Y1 := Lib.hid hown6
              have Y2 := Lib.hid hgr6
              have Y3 := Lib.hid hat6
              clear hown6 hgr6 hat6
              go_wp2_with fail
              refine ⟨⟨k + 1, by omega, by simp, ⟨nx2 ++ [nv], ?_, ?_, ?_⟩, ?_, ?_⟩, by simp [intOf]; omega⟩
              · have h0 := V0.out
                rw [rowPairs_succ, ← List.append_assoc]
                simp only [List.length_append] at h0 ⊢
                rw [h0]
                rfl
              · rw [rowPairs_succ, ← List.append_assoc, cells5_snoc _ _ V0.out]
                have e : ∀ q : (Run × Sl) × Nat, (oPairs l i ++ rowPairs (⟨n, op, out, dout, arg, darg, rune⟩, ao, m, cv) k ++ [q]).length = (oPairs l i).length + k + 1 := fun q => by rw [List.length_append, hlenp]; rfl
                rw [e]
                exact Y1.out
              · obtain ⟨yy, hyy⟩ := U2.out
                obtain ⟨yz, hyz⟩ := Ext.both yy (Ext.one yy.now (Obj.cells #[.int .u8 (Run.inst ⟨n, op, out, dout, arg, darg, rune⟩ k).op, .int .u32 (Run.inst ⟨n, op, out, dout, arg, darg, rune⟩ k).out, .int .u32 (Run.inst ⟨n, op, out, dout, arg, darg, rune⟩ k).arg, .slice ao m cv, nv] 206))
                have hyz2 : wr.alloc (Obj.cells #[.int .u8 (Run.inst ⟨n, op, out, dout, arg, darg, rune⟩ k).op, .int .u32 (Run.inst ⟨n, op, out, dout, arg, darg, rune⟩ k).out, .int .u32 (Run.inst ⟨n, op, out, dout, arg, darg, rune⟩ k).arg, .slice ao m cv, nv] 206) = yz.now := by rw [hyy]; exact hyz
                exact Ext.grown yz hyz2 (U1.out.alloc _) Y2.out
              · refine Eq.trans (Y2.out.block BV (by simp; omega) (fun e => V3.out e.symm)) ?_
                exact Z4.out.alloc _
              · intro e
                simp [Value.ownBlock] at e
                rcases Y3.out with h | h
                · exact V3.out (by rw [h, e])
                · omega
        · have hke : k = n := by omega
          subst hke
          have hkn' : ¬ (k : Int) < (k : Int) := by omega
          go_wp2_with fail
          refine ⟨⟨i + 1, by omega, by simp, nx2, ?_, ?_, y, rfl⟩, by simp [intOf]; omega⟩
          · rw [oPairs_succ HYI.out]
            exact V0.out
          · rw [oPairs_succ HYI.out]
            exact V1.out
    · have hil : i = l.length := by omega
      subst hil
      have hlt' : ¬ (l.length : Int) < (l.length : Int) := by omega
      have HOWN := Lib.hid hown
      have HNX := Lib.hid hnx
      clear hown hnx
      go_wp2_with fail
      go_ret
      exact ⟨_, rfl, nx, HNX.out, HOWN.out, x, rfl⟩

end Go.Proofs.YtooggfopjaaejaaGreatDoor
namespace Go.Proofs.YtooggfopjaaejaaGreatDoor
open Go.RowKit Go.Rx

def dgRunes : List Int := [48, 57, 97, 102]
/-- The runs of an expression of n small hexadecimal digits. -/
def dgRuns (n : Nat) : List Run := [⟨1, 5, 0, 0, 0, 0, []⟩, ⟨1, 3, 2, 0, 4, 0, dgRunes⟩, ⟨n, 7, 3, 1, 0, 0, dgRunes⟩, ⟨1, 3, n + 3, 0, 8, 0, []⟩, ⟨1, 4, 0, 0, 0, 0, []⟩]

theorem cells5_at (ps : List ((Run × Sl) × Nat)) (nx : List Value) (h : ps.length = nx.length) {pc : Nat} {y : (Run × Sl) × Nat} (hy : ps[pc]? = some y) (j : Nat) (hj : j < 4) :
    (cells5 ps nx)[pc * 5 + j]? = (instCells (y.1.1.inst y.2) (slV y.1.2))[j]? := by
  have hlt := (List.getElem?_eq_some_iff.1 hy).1
  obtain ⟨v, hv⟩ : ∃ v, nx[pc]? = some v := ⟨_, List.getElem?_eq_getElem (by omega)⟩
  unfold cells5
  rw [chunk_get _ 5 (fun _ => rfl) _ _ _ (by omega), (List.getElem?_zip_eq_some (z := (y, v))).2 ⟨hy, hv⟩]
  show (instCells (y.1.1.inst y.2) (slV y.1.2) ++ [v])[j]? = _
  rw [List.getElem?_append_left (by simpa [instCells] using hj)]

/-- A one-pass expression of n small hexadecimal digits. -/
structure OnceAt (w : World) (R O G rb n : Nat) : Prop where
  one : w.cell? ⟨R, 2, none⟩ = some (.pointer (some ⟨O, 0, none⟩))
  pre : w.cell? ⟨R, 6, none⟩ = some (.string ByteArray.empty)
  cond : w.cell? ⟨R, 13, none⟩ = some (.int .u8 4)
  min : w.cell? ⟨R, 14, none⟩ = some (.int .i64 n)
  insts : ∃ cap, w.cell? ⟨O, 0, none⟩ = some (.slice (some ⟨G, 0, none⟩) (n + 4) cap)
  start : w.cell? ⟨O, 1, none⟩ = some (.int .i64 1)
  at_ : ∀ pc i, (expand (dgRuns n))[pc]? = some i → w.cell? ⟨G, pc * 5, none⟩ = some (.int .u8 i.op) ∧ w.cell? ⟨G, pc * 5 + 1, none⟩ = some (.int .u32 i.out) ∧ w.cell? ⟨G, pc * 5 + 2, none⟩ = some (.int .u32 i.arg) ∧
    (i.op = 7 → w.cell? ⟨G, pc * 5 + 3, none⟩ = some (.slice (some ⟨rb, 0, none⟩) 4 4))
  rune : ∀ i x, dgRunes[i]? = some x → w.cell? ⟨rb, i, none⟩ = some (.int .i32 x)
  lt : R < w.heap.size ∧ O < w.heap.size ∧ G < w.heap.size ∧ rb < w.heap.size

theorem oruns_blk {w : World} {B : Nat} {l : List ORun} {t : TypeId} (h : Blk w B (l.flatMap oCells) t) (hn : ∀ x, x ∈ l → NextAt w x.2.1 ∧ 0 ≤ x.2.2 ∧ x.2.2 ≤ 1) : ORunsAt w B l := by
  refine ⟨fun i x hx j u hu => ?_, hn⟩
  have hj : j < 9 := by
    have := (List.getElem?_eq_some_iff.1 hu).1
    simpa [oCells] using this
  rw [h.cell, chunk_get _ 9 (fun _ => rfl) _ _ _ hj, hx]
  exact hu

/-- What the table says, from the row. -/
theorem once_row {w3 w4 : World} {base n rb : Nat} {l : List ORun} {v : Value} {nx : List Value} (hl : (l.map (·.1)).map (·.1) = dgRuns n) (h7 : ∀ x, x ∈ l → x.1.1.op = 7 → x.1.2 = (some ⟨rb, 0, none⟩, 4, 4)) (hnx : (oPairs l l.length).length = nx.length)
    (hown : w3.ownsRow base 206 5 v (oPairs l l.length).length (cells5 (oPairs l l.length) nx)) (hc : Chg [] w3 w4) (hlen : (expand (dgRuns n)).length = n + 4) :
    ∃ g cap, v = .slice (some ⟨g, 0, none⟩) (n + 4) cap ∧ g < w4.heap.size ∧ ∀ pc i, (expand (dgRuns n))[pc]? = some i → w4.cell? ⟨g, pc * 5, none⟩ = some (.int .u8 i.op) ∧ w4.cell? ⟨g, pc * 5 + 1, none⟩ = some (.int .u32 i.out) ∧ w4.cell? ⟨g, pc * 5 + 2, none⟩ = some (.int .u32 i.arg) ∧
      (i.op = 7 → w4.cell? ⟨g, pc * 5 + 3, none⟩ = some (.slice (some ⟨rb, 0, none⟩) 4 4)) := by
  have e0 : oPairs l l.length = pairs (l.map (·.1)) := by unfold oPairs; rw [List.take_of_length_le (by simp)]
  have e1 : (pairs (l.map (·.1))).length = n + 4 := by rw [pairs_len, total_pairs, hl, hlen]
  rw [e0] at hown hnx
  have hown2 := hown
  rw [e1] at hown2
  obtain ⟨g, cap, rfl, hg, hgl, hcell⟩ := ownsRow_cell hown2 (by omega)
  refine ⟨g, cap, rfl, Nat.lt_of_lt_of_le hgl hc.size, fun pc i hi => ?_⟩
  have hpc : pc < n + 4 := by rw [← hlen]; exact (List.getElem?_eq_some_iff.1 hi).1
  have hp : (expand ((l.map (·.1)).map (·.1)))[pc]? = some i := by rw [hl]; exact hi
  rw [expand_pairs, List.getElem?_map] at hp
  cases hy : (pairs (l.map (·.1)))[pc]? with
  | none => rw [hy] at hp; cases hp
  | some y =>
    rw [hy] at hp
    simp at hp
    have cell : ∀ j, j < 4 → w4.cell? ⟨g, pc * 5 + j, none⟩ = (instCells i (slV y.1.2))[j]? := fun j hj => by
      rw [← hp, ← cells5_at _ nx hnx hy j hj, ← hcell _ (by omega)]
      exact World.cell?_of_block (hc.block g hgl (by simp))
    refine ⟨cell 0 (by omega), cell 1 (by omega), cell 2 (by omega), fun h => ?_⟩
    have hm := List.mem_of_getElem? hy
    unfold pairs at hm
    obtain ⟨x, hx, hxy⟩ := List.mem_flatMap.1 hm
    obtain ⟨k, _, rfl⟩ := List.mem_map.1 hxy
    obtain ⟨q, hq, rfl⟩ := List.mem_map.1 hx
    rw [← hp] at h
    have := h7 q hq h
    rw [cell 3 (by omega)]
    show some (slV q.1.2) = _
    rw [this]
    rfl

/-! ### ZZDigest256 -/
noncomputable def dg64Body : Code := Tryz.f99.body.getD .skip
noncomputable def dg64Rest : Code := dropSeq 3 dg64Body
def dg64W0 (w : World) : World := (w.alloc (runeObj dgRunes)).alloc (.cells #[] 21)
def dg64Sl (w : World) : Sl := (some ⟨w.heap.size, 0, none⟩, 4, 4)
def dg64No (w : World) : Sl := (some ⟨(w.alloc (runeObj dgRunes)).heap.size, 0, none⟩, 0, 0)
def dg64L1 (w : World) : List (Run × Sl) := [(⟨1, 5, 0, 0, 0, 0, []⟩, none, 0, 0), (⟨1, 3, 2, 0, 4, 0, []⟩, none, 0, 0), (⟨64, 7, 3, 1, 0, 0, dgRunes⟩, dg64Sl w), (⟨1, 3, 67, 0, 8, 0, []⟩, none, 0, 0), (⟨1, 4, 0, 0, 0, 0, []⟩, none, 0, 0)]
def dg64L2 (w : World) (nb : Nat) : List ORun := [((⟨1, 5, 0, 0, 0, 0, []⟩, none, 0, 0), ((none, 0, 0), 0)), ((⟨1, 3, 2, 0, 4, 0, dgRunes⟩, dg64Sl w), ((none, 0, 0), 0)), ((⟨64, 7, 3, 1, 0, 0, dgRunes⟩, dg64Sl w), ((some ⟨nb, 0, none⟩, 3, 3), 1)), ((⟨1, 3, 67, 0, 8, 0, []⟩, dg64No w), ((none, 0, 0), 0)), ((⟨1, 4, 0, 0, 0, 0, []⟩, none, 0, 0), ((none, 0, 0), 0))]
noncomputable def dg64To (w : World) := runTo Tryz.prog Tryz.f99.ntmps 3 dg64Body [] w
theorem dg64_rest : dg64Rest = .seq (.region 3 (lastOps dg64Rest) false) .ret := by kernel_rfl
theorem dg64_to (w : World) : dg64To w = some (dg64Rest, knOf (dg64To w), dg64W0 w) := by kernel_rfl
noncomputable def dg64P1 (w : World) := runK Tryz.prog Tryz.f99.ntmps ((lastOps dg64Rest).toList.take 7) (knOf (dg64To w)) (dg64W0 w)
theorem dg64_p1 (w : World) : dg64P1 w = some (knOf2 (dg64P1 w), (dg64W0 w).alloc (.cells (runsCells (dg64L1 w)).toArray 179)) := by kernel_rfl
theorem dg64_drop : (lastOps dg64Rest).toList.drop 7 = opN dg64Rest 7 :: ((lastOps dg64Rest).toList.drop 8).take 12 ++ opN dg64Rest 20 :: (lastOps dg64Rest).toList.drop 21 := by kernel_rfl
theorem dg64_c1 : (opN dg64Rest 7).guard = none ∧ (opN dg64Rest 7).dst = some 12 ∧ (opN dg64Rest 20).guard = none ∧ (opN dg64Rest 20).dst = some 25 := ⟨by kernel_rfl, by kernel_rfl, by kernel_rfl, by kernel_rfl⟩
theorem dg64_e1 (w w1 : World) : (execOp (evalK (knOf2 (dg64P1 w))) (opN dg64Rest 7)).run Tryz.prog w1 = .ok (.enter 85 #[.slice (some ⟨(dg64W0 w).heap.size, 0, none⟩) 5 5]) w1 := by kernel_rfl
noncomputable def dg64P2 (w : World) (v : Value) (w1 : World) := runK Tryz.prog Tryz.f99.ntmps (((lastOps dg64Rest).toList.drop 8).take 12) ((12, v) :: knOf2 (dg64P1 w)) w1
def dg64W2 (w : World) (v : Value) (w1 : World) : World :=
  ((w1.alloc (.cells (progCells v 2).toArray 83)).alloc (.cells #[.int .u32 3, .int .u32 3, .int .u32 3] 84)).alloc (.cells ((dg64L2 w ((w1.alloc (.cells (progCells v 2).toArray 83)).heap.size)).flatMap oCells).toArray 179)
theorem dg64_p2 (w : World) (a : Option Addr) (i j : Nat) (w1 : World) : dg64P2 w (.slice a i j) w1 = some (knOf2 (dg64P2 w (.slice a i j) w1), dg64W2 w (.slice a i j) w1) := by kernel_rfl
theorem dg64_e2 (w : World) (a : Option Addr) (i j : Nat) (w1 w2 : World) : (execOp (evalK (knOf2 (dg64P2 w (.slice a i j) w1))) (opN dg64Rest 20)).run Tryz.prog w2 = .ok (.enter 86 #[.slice (some ⟨((w1.alloc (.cells (progCells (.slice a i j) 2).toArray 83)).alloc (.cells #[.int .u32 3, .int .u32 3, .int .u32 3] 84)).heap.size, 0, none⟩) 5 5]) w2 := by kernel_rfl
noncomputable def dg64P3 (w : World) (v : Value) (w1 : World) (v2 : Value) (w3 : World) := runK Tryz.prog Tryz.f99.ntmps ((lastOps dg64Rest).toList.drop 21) ((25, v2) :: knOf2 (dg64P2 w v w1)) w3
noncomputable def dg64Text : ByteArray := match (opN dg64Rest 24).op with | .build _ p => strOf p.toList.head? | _ => ByteArray.empty
noncomputable def dg64W3 (w1 : World) (v2 : Value) (w3 : World) : World :=
  ((w3.alloc (.cells (progCells v2 2).toArray 185)).alloc (.cells #[.string ByteArray.empty] 9)).alloc (.cells #[.string dg64Text, .pointer (some ⟨w1.heap.size, 0, none⟩), .pointer (some ⟨w3.heap.size, 0, none⟩), .int .i64 0, .int .i64 0, .slice (some ⟨(w3.alloc (.cells (progCells v2 2).toArray 185)).heap.size, 0, none⟩) 1 1, .string ByteArray.empty, .slice none 0 0, .int .i32 0, .int .u32 1, .int .i64 0, .int .i64 2, .bool false, .int .u8 4, .int .i64 64, .bool false] 187)
theorem dg64_p3 (w : World) (a : Option Addr) (i j : Nat) (w1 : World) (b : Option Addr) (i2 j2 : Nat) (w3 : World) : dg64P3 w (.slice a i j) w1 (.slice b i2 j2) w3 = some (knOf2 (dg64P3 w (.slice a i j) w1 (.slice b i2 j2) w3), dg64W3 w1 (.slice b i2 j2) w3) := by kernel_rfl
theorem dg64_ret (w : World) (a : Option Addr) (i j : Nat) (w1 : World) (b : Option Addr) (i2 j2 : Nat) (w3 : World) : look (knOf2 (dg64P3 w (.slice a i j) w1 (.slice b i2 j2) w3)) 0 = .pointer (some ⟨((w3.alloc (.cells (progCells (.slice b i2 j2) 2).toArray 185)).alloc (.cells #[.string ByteArray.empty] 9)).heap.size, 0, none⟩) := by kernel_rfl

theorem dg64_any (w : World) : Calls Tryz.prog 99 #[] w fun e w' => ∃ R O G rb, e = .returned (.pointer (some ⟨R, 0, none⟩)) ∧ OnceAt w' R O G rb 64 ∧ ∃ x : Ext w, w' = x.now := by
  have ha := agree_start Tryz.f99.ntmps
  have h1 := dg64_to w
  rw [dg64_rest] at h1
  refine calls_of_wp Tryz.func99 (c := dg64Body) (by kernel_rfl) ?_
  refine wp_part (k := 3) (m := 7) h1 (dg64_p1 w) ?_ ha
  intro F hF a2 ha2
  rw [dg64_drop]
  obtain ⟨c1, c2, c3, c4⟩ := dg64_c1
  obtain ⟨w1, hw1⟩ : ∃ w1, w1 = (dg64W0 w).alloc (.cells (runsCells (dg64L1 w)).toArray 179) := ⟨_, rfl⟩
  rw [← hw1]
  have bR0 : Blk (dg64W0 w) w.heap.size (dgRunes.map (Value.int .i32)) 21 := by unfold dg64W0; exact (Blk.new w (dgRunes.map (Value.int .i32)) 21).alloc _
  have c0 : Chg [] w (dg64W0 w) := by unfold dg64W0; exact ((Chg.alloc _ _).trans (Chg.alloc _ _)).mono (fun _ h _ => by simp at h)
  have bL1 : Blk w1 (dg64W0 w).heap.size (runsCells (dg64L1 w)) 179 := by rw [hw1]; exact Blk.new _ _ _
  have c01 : Chg [] w w1 := by rw [hw1]; exact (c0.trans (Chg.alloc _ _)).mono (fun _ h _ => by simp at h)
  have bR1 : Blk w1 w.heap.size (dgRunes.map (Value.int .i32)) 21 := by rw [hw1]; exact bR0.alloc _
  have hok1 : ∀ x, x ∈ dg64L1 w → RunOk x.1 := fun x hx => runOk_of (by
    simp only [dg64L1, List.mem_cons, List.not_mem_nil, or_false] at hx
    rcases hx with rfl | rfl | rfl | rfl | rfl <;> (dsimp only; decide +kernel))
  have hz := ozz_insts w1 (dg64W0 w).heap.size (dg64L1 w) 5 (runsAt_blk bL1) bL1.lt hok1 (by show 5 ≤ 1000; omega)
  refine wpList_enter c1 ha2 (dg64_e1 w w1) hz ?_
  rintro v w2 ⟨hwo, y, rfl⟩
  have htot : total ((dg64L1 w).take (dg64L1 w).length) = 68 := rfl
  have hwo2 := hwo
  rw [htot] at hwo2
  obtain ⟨g, cap, rfl, _, _, _⟩ := ownsRow_cell hwo2 (by omega)
  rw [c2]
  have ha3 := ha2.put 12 (of_decide_eq_true (by kernel_rfl)) (.slice (some ⟨g, 0, none⟩) 68 cap)
  refine wpList_run _ _ _ _ _ (dg64_p2 w (some ⟨g, 0, none⟩) 68 cap y.now) ?_ _ ha3
  intro a4 ha4
  obtain ⟨w2, hw2⟩ : ∃ w2, w2 = dg64W2 w (.slice (some ⟨g, 0, none⟩) 68 cap) y.now := ⟨_, rfl⟩
  rw [← hw2]
  have e1 : (y.now.alloc (.cells (progCells (.slice (some ⟨g, 0, none⟩) 68 cap) 2).toArray 83)).heap.size = y.now.heap.size + 1 := by simp
  have bN : Blk w2 (y.now.heap.size + 1) [.int .u32 3, .int .u32 3, .int .u32 3] 84 := by
    rw [hw2]; unfold dg64W2
    rw [← e1]
    exact (Blk.new _ [.int .u32 3, .int .u32 3, .int .u32 3] 84).alloc _
  have bL2 : Blk w2 ((y.now.alloc (.cells (progCells (.slice (some ⟨g, 0, none⟩) 68 cap) 2).toArray 83)).alloc (.cells #[.int .u32 3, .int .u32 3, .int .u32 3] 84)).heap.size ((dg64L2 w (y.now.heap.size + 1)).flatMap oCells) 179 := by
    rw [hw2]; unfold dg64W2
    rw [e1]
    exact Blk.new _ _ _
  have cy2 : Chg [] y.now w2 := by rw [hw2]; unfold dg64W2; exact (((Chg.alloc _ _).trans (Chg.alloc _ _)).trans (Chg.alloc _ _)).mono (fun _ h _ => by simp at h)
  have c02 : Chg [] w w2 := ((c01.trans (Chg.of_below y.below)).trans cy2).mono (fun _ h _ => by simp at h)
  have bR2 : Blk w2 w.heap.size (dgRunes.map (Value.int .i32)) 21 := (bR1.chg (Chg.of_below y.below) (by simp)).chg cy2 (by simp)
  have hnext : ∀ x, x ∈ dg64L2 w (y.now.heap.size + 1) → NextAt w2 x.2.1 ∧ 0 ≤ x.2.2 ∧ x.2.2 ≤ 1 := by
    intro x hx
    simp only [dg64L2, List.mem_cons, List.not_mem_nil, or_false] at hx
    rcases hx with rfl | rfl | rfl | rfl | rfl
    · exact ⟨.inl rfl, by dsimp only; decide, by dsimp only; decide⟩
    · exact ⟨.inl rfl, by dsimp only; decide, by dsimp only; decide⟩
    · refine ⟨.inr ⟨y.now.heap.size + 1, 3, rfl, by omega, bN.lt, fun j hj => ⟨3, by omega, ?_⟩⟩, by dsimp only; decide, by dsimp only; decide⟩
      rw [bN.cell]
      match j, hj with
      | 0, _ => rfl
      | 1, _ => rfl
      | 2, _ => rfl
    · exact ⟨.inl rfl, by dsimp only; decide, by dsimp only; decide⟩
    · exact ⟨.inl rfl, by dsimp only; decide, by dsimp only; decide⟩
  have hok2 : ∀ x, x ∈ dg64L2 w (y.now.heap.size + 1) → RunOk x.1.1 := by
    intro x hx
    refine runOk_of ?_
    simp only [dg64L2, List.mem_cons, List.not_mem_nil, or_false] at hx
    rcases hx with rfl | rfl | rfl | rfl | rfl <;> (dsimp only; decide +kernel)
  have hz2 := zz_one w2 _ (dg64L2 w (y.now.heap.size + 1)) 5 (oruns_blk bL2 hnext) bL2.lt hok2 (by show 5 ≤ 1000; omega)
  refine wpList_enter c3 ha4 (dg64_e2 w (some ⟨g, 0, none⟩) 68 cap y.now w2) hz2 ?_
  rintro v2 w3 ⟨nx, hnx, hown, x3, rfl⟩
  rw [c4]
  obtain ⟨w4, hw4⟩ : ∃ w4, w4 = dg64W3 y.now v2 x3.now := ⟨_, rfl⟩
  have c34 : Chg [] x3.now w4 := by rw [hw4]; unfold dg64W3; exact (((Chg.alloc _ _).trans (Chg.alloc _ _)).trans (Chg.alloc _ _)).mono (fun _ h _ => by simp at h)
  obtain ⟨g2, cap2, rfl, hg2, htab⟩ := once_row (n := 64) (rb := w.heap.size) (l := dg64L2 w (y.now.heap.size + 1)) rfl (by
    intro x hx h7
    simp only [dg64L2, List.mem_cons, List.not_mem_nil, or_false] at hx
    rcases hx with rfl | rfl | rfl | rfl | rfl
    · cases h7
    · cases h7
    · rfl
    · cases h7
    · cases h7) hnx hown c34 (by decide +kernel)
  have ha5 := ha4.put 25 (of_decide_eq_true (by kernel_rfl)) (.slice (some ⟨g2, 0, none⟩) (64 + 4) cap2)
  rw [← List.append_nil ((lastOps dg64Rest).toList.drop 21)]
  refine wpList_run _ _ _ _ _ (dg64_p3 w (some ⟨g, 0, none⟩) 68 cap y.now (some ⟨g2, 0, none⟩) (64 + 4) cap2 x3.now) ?_ _ ha5
  intro a6 ha6
  rw [← hw4]
  show F a6 w4
  refine hF a6 _ ?_
  refine wp_ret ?_
  have hret := ha6.at_ 0
  rw [dg64_ret] at hret
  have f1 : (x3.now.alloc (.cells (progCells (.slice (some ⟨g2, 0, none⟩) (64 + 4) cap2) 2).toArray 185)).heap.size = x3.now.heap.size + 1 := by simp
  have f2 : ((x3.now.alloc (.cells (progCells (.slice (some ⟨g2, 0, none⟩) (64 + 4) cap2) 2).toArray 185)).alloc (.cells #[.string ByteArray.empty] 9)).heap.size = x3.now.heap.size + 2 := by simp
  rw [f2] at hret
  have bO : Blk w4 x3.now.heap.size (progCells (.slice (some ⟨g2, 0, none⟩) (64 + 4) cap2) 2) 185 := by
    rw [hw4]; unfold dg64W3
    exact ((Blk.new _ _ _).alloc _).alloc _
  have bR : Blk w4 (x3.now.heap.size + 2) [.string dg64Text, .pointer (some ⟨y.now.heap.size, 0, none⟩), .pointer (some ⟨x3.now.heap.size, 0, none⟩), .int .i64 0, .int .i64 0, .slice (some ⟨x3.now.heap.size + 1, 0, none⟩) 1 1, .string ByteArray.empty, .slice none 0 0, .int .i32 0, .int .u32 1, .int .i64 0, .int .i64 2, .bool false, .int .u8 4, .int .i64 64, .bool false] 187 := by
    rw [hw4]; unfold dg64W3
    rw [f1, ← f2]
    exact Blk.new _ _ _
  have bR4 : Blk w4 w.heap.size (dgRunes.map (Value.int .i32)) 21 := (bR2.chg (Chg.of_below x3.below) (by simp)).chg c34 (by simp)
  have hd := ha6.defers
  obtain ⟨tm, df⟩ := a6
  dsimp only at hd
  subst hd
  refine bodyPost_ret (v := .pointer (some ⟨x3.now.heap.size + 2, 0, none⟩)) ?_ rfl ⟨_, x3.now.heap.size, g2, w.heap.size, rfl, ⟨(bR.cell 2).trans rfl, (bR.cell 6).trans rfl, (bR.cell 13).trans rfl, (bR.cell 14).trans rfl, ⟨cap2, (bO.cell 0).trans rfl⟩, (bO.cell 1).trans rfl, htab, fun i x hx => ?_, bR.lt, bO.lt, hg2, bR4.lt⟩, ?_⟩
  · have d3' : tm[0]?.getD undef = .pointer (some ⟨x3.now.heap.size + 2, 0, none⟩) := by rw [← Array.getD_eq_getD_getElem?]; exact hret
    simp [results, Tryz.results99, go_sem, d3']
  · rw [bR4.cell, List.getElem?_map, hx]
    rfl
  · have hh : Chg [] w w4 := ((c02.trans (Chg.of_below x3.below)).trans c34).mono (fun _ h _ => by simp at h)
    exact Ext.of (hh.below (Nat.le_refl _) (fun b hb => by cases hb))

/-! ### ZZDigest384 -/
noncomputable def dg96Body : Code := Tryz.f100.body.getD .skip
noncomputable def dg96Rest : Code := dropSeq 3 dg96Body
def dg96W0 (w : World) : World := (w.alloc (runeObj dgRunes)).alloc (.cells #[] 21)
def dg96Sl (w : World) : Sl := (some ⟨w.heap.size, 0, none⟩, 4, 4)
def dg96No (w : World) : Sl := (some ⟨(w.alloc (runeObj dgRunes)).heap.size, 0, none⟩, 0, 0)
def dg96L1 (w : World) : List (Run × Sl) := [(⟨1, 5, 0, 0, 0, 0, []⟩, none, 0, 0), (⟨1, 3, 2, 0, 4, 0, []⟩, none, 0, 0), (⟨96, 7, 3, 1, 0, 0, dgRunes⟩, dg96Sl w), (⟨1, 3, 99, 0, 8, 0, []⟩, none, 0, 0), (⟨1, 4, 0, 0, 0, 0, []⟩, none, 0, 0)]
def dg96L2 (w : World) (nb : Nat) : List ORun := [((⟨1, 5, 0, 0, 0, 0, []⟩, none, 0, 0), ((none, 0, 0), 0)), ((⟨1, 3, 2, 0, 4, 0, dgRunes⟩, dg96Sl w), ((none, 0, 0), 0)), ((⟨96, 7, 3, 1, 0, 0, dgRunes⟩, dg96Sl w), ((some ⟨nb, 0, none⟩, 3, 3), 1)), ((⟨1, 3, 99, 0, 8, 0, []⟩, dg96No w), ((none, 0, 0), 0)), ((⟨1, 4, 0, 0, 0, 0, []⟩, none, 0, 0), ((none, 0, 0), 0))]
noncomputable def dg96To (w : World) := runTo Tryz.prog Tryz.f100.ntmps 3 dg96Body [] w
theorem dg96_rest : dg96Rest = .seq (.region 3 (lastOps dg96Rest) false) .ret := by kernel_rfl
theorem dg96_to (w : World) : dg96To w = some (dg96Rest, knOf (dg96To w), dg96W0 w) := by kernel_rfl
noncomputable def dg96P1 (w : World) := runK Tryz.prog Tryz.f100.ntmps ((lastOps dg96Rest).toList.take 7) (knOf (dg96To w)) (dg96W0 w)
theorem dg96_p1 (w : World) : dg96P1 w = some (knOf2 (dg96P1 w), (dg96W0 w).alloc (.cells (runsCells (dg96L1 w)).toArray 179)) := by kernel_rfl
theorem dg96_drop : (lastOps dg96Rest).toList.drop 7 = opN dg96Rest 7 :: ((lastOps dg96Rest).toList.drop 8).take 12 ++ opN dg96Rest 20 :: (lastOps dg96Rest).toList.drop 21 := by kernel_rfl
theorem dg96_c1 : (opN dg96Rest 7).guard = none ∧ (opN dg96Rest 7).dst = some 12 ∧ (opN dg96Rest 20).guard = none ∧ (opN dg96Rest 20).dst = some 25 := ⟨by kernel_rfl, by kernel_rfl, by kernel_rfl, by kernel_rfl⟩
theorem dg96_e1 (w w1 : World) : (execOp (evalK (knOf2 (dg96P1 w))) (opN dg96Rest 7)).run Tryz.prog w1 = .ok (.enter 85 #[.slice (some ⟨(dg96W0 w).heap.size, 0, none⟩) 5 5]) w1 := by kernel_rfl
noncomputable def dg96P2 (w : World) (v : Value) (w1 : World) := runK Tryz.prog Tryz.f100.ntmps (((lastOps dg96Rest).toList.drop 8).take 12) ((12, v) :: knOf2 (dg96P1 w)) w1
def dg96W2 (w : World) (v : Value) (w1 : World) : World :=
  ((w1.alloc (.cells (progCells v 2).toArray 83)).alloc (.cells #[.int .u32 3, .int .u32 3, .int .u32 3] 84)).alloc (.cells ((dg96L2 w ((w1.alloc (.cells (progCells v 2).toArray 83)).heap.size)).flatMap oCells).toArray 179)
theorem dg96_p2 (w : World) (a : Option Addr) (i j : Nat) (w1 : World) : dg96P2 w (.slice a i j) w1 = some (knOf2 (dg96P2 w (.slice a i j) w1), dg96W2 w (.slice a i j) w1) := by kernel_rfl
theorem dg96_e2 (w : World) (a : Option Addr) (i j : Nat) (w1 w2 : World) : (execOp (evalK (knOf2 (dg96P2 w (.slice a i j) w1))) (opN dg96Rest 20)).run Tryz.prog w2 = .ok (.enter 86 #[.slice (some ⟨((w1.alloc (.cells (progCells (.slice a i j) 2).toArray 83)).alloc (.cells #[.int .u32 3, .int .u32 3, .int .u32 3] 84)).heap.size, 0, none⟩) 5 5]) w2 := by kernel_rfl
noncomputable def dg96P3 (w : World) (v : Value) (w1 : World) (v2 : Value) (w3 : World) := runK Tryz.prog Tryz.f100.ntmps ((lastOps dg96Rest).toList.drop 21) ((25, v2) :: knOf2 (dg96P2 w v w1)) w3
noncomputable def dg96Text : ByteArray := match (opN dg96Rest 24).op with | .build _ p => strOf p.toList.head? | _ => ByteArray.empty
noncomputable def dg96W3 (w1 : World) (v2 : Value) (w3 : World) : World :=
  ((w3.alloc (.cells (progCells v2 2).toArray 185)).alloc (.cells #[.string ByteArray.empty] 9)).alloc (.cells #[.string dg96Text, .pointer (some ⟨w1.heap.size, 0, none⟩), .pointer (some ⟨w3.heap.size, 0, none⟩), .int .i64 0, .int .i64 0, .slice (some ⟨(w3.alloc (.cells (progCells v2 2).toArray 185)).heap.size, 0, none⟩) 1 1, .string ByteArray.empty, .slice none 0 0, .int .i32 0, .int .u32 1, .int .i64 0, .int .i64 2, .bool false, .int .u8 4, .int .i64 96, .bool false] 187)
theorem dg96_p3 (w : World) (a : Option Addr) (i j : Nat) (w1 : World) (b : Option Addr) (i2 j2 : Nat) (w3 : World) : dg96P3 w (.slice a i j) w1 (.slice b i2 j2) w3 = some (knOf2 (dg96P3 w (.slice a i j) w1 (.slice b i2 j2) w3), dg96W3 w1 (.slice b i2 j2) w3) := by kernel_rfl
theorem dg96_ret (w : World) (a : Option Addr) (i j : Nat) (w1 : World) (b : Option Addr) (i2 j2 : Nat) (w3 : World) : look (knOf2 (dg96P3 w (.slice a i j) w1 (.slice b i2 j2) w3)) 0 = .pointer (some ⟨((w3.alloc (.cells (progCells (.slice b i2 j2) 2).toArray 185)).alloc (.cells #[.string ByteArray.empty] 9)).heap.size, 0, none⟩) := by kernel_rfl

theorem dg96_any (w : World) : Calls Tryz.prog 100 #[] w fun e w' => ∃ R O G rb, e = .returned (.pointer (some ⟨R, 0, none⟩)) ∧ OnceAt w' R O G rb 96 ∧ ∃ x : Ext w, w' = x.now := by
  have ha := agree_start Tryz.f100.ntmps
  have h1 := dg96_to w
  rw [dg96_rest] at h1
  refine calls_of_wp Tryz.func100 (c := dg96Body) (by kernel_rfl) ?_
  refine wp_part (k := 3) (m := 7) h1 (dg96_p1 w) ?_ ha
  intro F hF a2 ha2
  rw [dg96_drop]
  obtain ⟨c1, c2, c3, c4⟩ := dg96_c1
  obtain ⟨w1, hw1⟩ : ∃ w1, w1 = (dg96W0 w).alloc (.cells (runsCells (dg96L1 w)).toArray 179) := ⟨_, rfl⟩
  rw [← hw1]
  have bR0 : Blk (dg96W0 w) w.heap.size (dgRunes.map (Value.int .i32)) 21 := by unfold dg96W0; exact (Blk.new w (dgRunes.map (Value.int .i32)) 21).alloc _
  have c0 : Chg [] w (dg96W0 w) := by unfold dg96W0; exact ((Chg.alloc _ _).trans (Chg.alloc _ _)).mono (fun _ h _ => by simp at h)
  have bL1 : Blk w1 (dg96W0 w).heap.size (runsCells (dg96L1 w)) 179 := by rw [hw1]; exact Blk.new _ _ _
  have c01 : Chg [] w w1 := by rw [hw1]; exact (c0.trans (Chg.alloc _ _)).mono (fun _ h _ => by simp at h)
  have bR1 : Blk w1 w.heap.size (dgRunes.map (Value.int .i32)) 21 := by rw [hw1]; exact bR0.alloc _
  have hok1 : ∀ x, x ∈ dg96L1 w → RunOk x.1 := fun x hx => runOk_of (by
    simp only [dg96L1, List.mem_cons, List.not_mem_nil, or_false] at hx
    rcases hx with rfl | rfl | rfl | rfl | rfl <;> (dsimp only; decide +kernel))
  have hz := ozz_insts w1 (dg96W0 w).heap.size (dg96L1 w) 5 (runsAt_blk bL1) bL1.lt hok1 (by show 5 ≤ 1000; omega)
  refine wpList_enter c1 ha2 (dg96_e1 w w1) hz ?_
  rintro v w2 ⟨hwo, y, rfl⟩
  have htot : total ((dg96L1 w).take (dg96L1 w).length) = 100 := rfl
  have hwo2 := hwo
  rw [htot] at hwo2
  obtain ⟨g, cap, rfl, _, _, _⟩ := ownsRow_cell hwo2 (by omega)
  rw [c2]
  have ha3 := ha2.put 12 (of_decide_eq_true (by kernel_rfl)) (.slice (some ⟨g, 0, none⟩) 100 cap)
  refine wpList_run _ _ _ _ _ (dg96_p2 w (some ⟨g, 0, none⟩) 100 cap y.now) ?_ _ ha3
  intro a4 ha4
  obtain ⟨w2, hw2⟩ : ∃ w2, w2 = dg96W2 w (.slice (some ⟨g, 0, none⟩) 100 cap) y.now := ⟨_, rfl⟩
  rw [← hw2]
  have e1 : (y.now.alloc (.cells (progCells (.slice (some ⟨g, 0, none⟩) 100 cap) 2).toArray 83)).heap.size = y.now.heap.size + 1 := by simp
  have bN : Blk w2 (y.now.heap.size + 1) [.int .u32 3, .int .u32 3, .int .u32 3] 84 := by
    rw [hw2]; unfold dg96W2
    rw [← e1]
    exact (Blk.new _ [.int .u32 3, .int .u32 3, .int .u32 3] 84).alloc _
  have bL2 : Blk w2 ((y.now.alloc (.cells (progCells (.slice (some ⟨g, 0, none⟩) 100 cap) 2).toArray 83)).alloc (.cells #[.int .u32 3, .int .u32 3, .int .u32 3] 84)).heap.size ((dg96L2 w (y.now.heap.size + 1)).flatMap oCells) 179 := by
    rw [hw2]; unfold dg96W2
    rw [e1]
    exact Blk.new _ _ _
  have cy2 : Chg [] y.now w2 := by rw [hw2]; unfold dg96W2; exact (((Chg.alloc _ _).trans (Chg.alloc _ _)).trans (Chg.alloc _ _)).mono (fun _ h _ => by simp at h)
  have c02 : Chg [] w w2 := ((c01.trans (Chg.of_below y.below)).trans cy2).mono (fun _ h _ => by simp at h)
  have bR2 : Blk w2 w.heap.size (dgRunes.map (Value.int .i32)) 21 := (bR1.chg (Chg.of_below y.below) (by simp)).chg cy2 (by simp)
  have hnext : ∀ x, x ∈ dg96L2 w (y.now.heap.size + 1) → NextAt w2 x.2.1 ∧ 0 ≤ x.2.2 ∧ x.2.2 ≤ 1 := by
    intro x hx
    simp only [dg96L2, List.mem_cons, List.not_mem_nil, or_false] at hx
    rcases hx with rfl | rfl | rfl | rfl | rfl
    · exact ⟨.inl rfl, by dsimp only; decide, by dsimp only; decide⟩
    · exact ⟨.inl rfl, by dsimp only; decide, by dsimp only; decide⟩
    · refine ⟨.inr ⟨y.now.heap.size + 1, 3, rfl, by omega, bN.lt, fun j hj => ⟨3, by omega, ?_⟩⟩, by dsimp only; decide, by dsimp only; decide⟩
      rw [bN.cell]
      match j, hj with
      | 0, _ => rfl
      | 1, _ => rfl
      | 2, _ => rfl
    · exact ⟨.inl rfl, by dsimp only; decide, by dsimp only; decide⟩
    · exact ⟨.inl rfl, by dsimp only; decide, by dsimp only; decide⟩
  have hok2 : ∀ x, x ∈ dg96L2 w (y.now.heap.size + 1) → RunOk x.1.1 := by
    intro x hx
    refine runOk_of ?_
    simp only [dg96L2, List.mem_cons, List.not_mem_nil, or_false] at hx
    rcases hx with rfl | rfl | rfl | rfl | rfl <;> (dsimp only; decide +kernel)
  have hz2 := zz_one w2 _ (dg96L2 w (y.now.heap.size + 1)) 5 (oruns_blk bL2 hnext) bL2.lt hok2 (by show 5 ≤ 1000; omega)
  refine wpList_enter c3 ha4 (dg96_e2 w (some ⟨g, 0, none⟩) 100 cap y.now w2) hz2 ?_
  rintro v2 w3 ⟨nx, hnx, hown, x3, rfl⟩
  rw [c4]
  obtain ⟨w4, hw4⟩ : ∃ w4, w4 = dg96W3 y.now v2 x3.now := ⟨_, rfl⟩
  have c34 : Chg [] x3.now w4 := by rw [hw4]; unfold dg96W3; exact (((Chg.alloc _ _).trans (Chg.alloc _ _)).trans (Chg.alloc _ _)).mono (fun _ h _ => by simp at h)
  obtain ⟨g2, cap2, rfl, hg2, htab⟩ := once_row (n := 96) (rb := w.heap.size) (l := dg96L2 w (y.now.heap.size + 1)) rfl (by
    intro x hx h7
    simp only [dg96L2, List.mem_cons, List.not_mem_nil, or_false] at hx
    rcases hx with rfl | rfl | rfl | rfl | rfl
    · cases h7
    · cases h7
    · rfl
    · cases h7
    · cases h7) hnx hown c34 (by decide +kernel)
  have ha5 := ha4.put 25 (of_decide_eq_true (by kernel_rfl)) (.slice (some ⟨g2, 0, none⟩) (96 + 4) cap2)
  rw [← List.append_nil ((lastOps dg96Rest).toList.drop 21)]
  refine wpList_run _ _ _ _ _ (dg96_p3 w (some ⟨g, 0, none⟩) 100 cap y.now (some ⟨g2, 0, none⟩) (96 + 4) cap2 x3.now) ?_ _ ha5
  intro a6 ha6
  rw [← hw4]
  show F a6 w4
  refine hF a6 _ ?_
  refine wp_ret ?_
  have hret := ha6.at_ 0
  rw [dg96_ret] at hret
  have f1 : (x3.now.alloc (.cells (progCells (.slice (some ⟨g2, 0, none⟩) (96 + 4) cap2) 2).toArray 185)).heap.size = x3.now.heap.size + 1 := by simp
  have f2 : ((x3.now.alloc (.cells (progCells (.slice (some ⟨g2, 0, none⟩) (96 + 4) cap2) 2).toArray 185)).alloc (.cells #[.string ByteArray.empty] 9)).heap.size = x3.now.heap.size + 2 := by simp
  rw [f2] at hret
  have bO : Blk w4 x3.now.heap.size (progCells (.slice (some ⟨g2, 0, none⟩) (96 + 4) cap2) 2) 185 := by
    rw [hw4]; unfold dg96W3
    exact ((Blk.new _ _ _).alloc _).alloc _
  have bR : Blk w4 (x3.now.heap.size + 2) [.string dg96Text, .pointer (some ⟨y.now.heap.size, 0, none⟩), .pointer (some ⟨x3.now.heap.size, 0, none⟩), .int .i64 0, .int .i64 0, .slice (some ⟨x3.now.heap.size + 1, 0, none⟩) 1 1, .string ByteArray.empty, .slice none 0 0, .int .i32 0, .int .u32 1, .int .i64 0, .int .i64 2, .bool false, .int .u8 4, .int .i64 96, .bool false] 187 := by
    rw [hw4]; unfold dg96W3
    rw [f1, ← f2]
    exact Blk.new _ _ _
  have bR4 : Blk w4 w.heap.size (dgRunes.map (Value.int .i32)) 21 := (bR2.chg (Chg.of_below x3.below) (by simp)).chg c34 (by simp)
  have hd := ha6.defers
  obtain ⟨tm, df⟩ := a6
  dsimp only at hd
  subst hd
  refine bodyPost_ret (v := .pointer (some ⟨x3.now.heap.size + 2, 0, none⟩)) ?_ rfl ⟨_, x3.now.heap.size, g2, w.heap.size, rfl, ⟨(bR.cell 2).trans rfl, (bR.cell 6).trans rfl, (bR.cell 13).trans rfl, (bR.cell 14).trans rfl, ⟨cap2, (bO.cell 0).trans rfl⟩, (bO.cell 1).trans rfl, htab, fun i x hx => ?_, bR.lt, bO.lt, hg2, bR4.lt⟩, ?_⟩
  · have d3' : tm[0]?.getD undef = .pointer (some ⟨x3.now.heap.size + 2, 0, none⟩) := by rw [← Array.getD_eq_getD_getElem?]; exact hret
    simp [results, Tryz.results100, go_sem, d3']
  · rw [bR4.cell, List.getElem?_map, hx]
    rfl
  · have hh : Chg [] w w4 := ((c02.trans (Chg.of_below x3.below)).trans c34).mono (fun _ h _ => by simp at h)
    exact Ext.of (hh.below (Nat.le_refl _) (fun b hb => by cases hb))

/-! ### ZZDigest512 -/
noncomputable def dg128Body : Code := Tryz.f101.body.getD .skip
noncomputable def dg128Rest : Code := dropSeq 3 dg128Body
def dg128W0 (w : World) : World := (w.alloc (runeObj dgRunes)).alloc (.cells #[] 21)
def dg128Sl (w : World) : Sl := (some ⟨w.heap.size, 0, none⟩, 4, 4)
def dg128No (w : World) : Sl := (some ⟨(w.alloc (runeObj dgRunes)).heap.size, 0, none⟩, 0, 0)
def dg128L1 (w : World) : List (Run × Sl) := [(⟨1, 5, 0, 0, 0, 0, []⟩, none, 0, 0), (⟨1, 3, 2, 0, 4, 0, []⟩, none, 0, 0), (⟨128, 7, 3, 1, 0, 0, dgRunes⟩, dg128Sl w), (⟨1, 3, 131, 0, 8, 0, []⟩, none, 0, 0), (⟨1, 4, 0, 0, 0, 0, []⟩, none, 0, 0)]
def dg128L2 (w : World) (nb : Nat) : List ORun := [((⟨1, 5, 0, 0, 0, 0, []⟩, none, 0, 0), ((none, 0, 0), 0)), ((⟨1, 3, 2, 0, 4, 0, dgRunes⟩, dg128Sl w), ((none, 0, 0), 0)), ((⟨128, 7, 3, 1, 0, 0, dgRunes⟩, dg128Sl w), ((some ⟨nb, 0, none⟩, 3, 3), 1)), ((⟨1, 3, 131, 0, 8, 0, []⟩, dg128No w), ((none, 0, 0), 0)), ((⟨1, 4, 0, 0, 0, 0, []⟩, none, 0, 0), ((none, 0, 0), 0))]
noncomputable def dg128To (w : World) := runTo Tryz.prog Tryz.f101.ntmps 3 dg128Body [] w
theorem dg128_rest : dg128Rest = .seq (.region 3 (lastOps dg128Rest) false) .ret := by kernel_rfl
theorem dg128_to (w : World) : dg128To w = some (dg128Rest, knOf (dg128To w), dg128W0 w) := by kernel_rfl
noncomputable def dg128P1 (w : World) := runK Tryz.prog Tryz.f101.ntmps ((lastOps dg128Rest).toList.take 7) (knOf (dg128To w)) (dg128W0 w)
theorem dg128_p1 (w : World) : dg128P1 w = some (knOf2 (dg128P1 w), (dg128W0 w).alloc (.cells (runsCells (dg128L1 w)).toArray 179)) := by kernel_rfl
theorem dg128_drop : (lastOps dg128Rest).toList.drop 7 = opN dg128Rest 7 :: ((lastOps dg128Rest).toList.drop 8).take 12 ++ opN dg128Rest 20 :: (lastOps dg128Rest).toList.drop 21 := by kernel_rfl
theorem dg128_c1 : (opN dg128Rest 7).guard = none ∧ (opN dg128Rest 7).dst = some 12 ∧ (opN dg128Rest 20).guard = none ∧ (opN dg128Rest 20).dst = some 25 := ⟨by kernel_rfl, by kernel_rfl, by kernel_rfl, by kernel_rfl⟩
theorem dg128_e1 (w w1 : World) : (execOp (evalK (knOf2 (dg128P1 w))) (opN dg128Rest 7)).run Tryz.prog w1 = .ok (.enter 85 #[.slice (some ⟨(dg128W0 w).heap.size, 0, none⟩) 5 5]) w1 := by kernel_rfl
noncomputable def dg128P2 (w : World) (v : Value) (w1 : World) := runK Tryz.prog Tryz.f101.ntmps (((lastOps dg128Rest).toList.drop 8).take 12) ((12, v) :: knOf2 (dg128P1 w)) w1
def dg128W2 (w : World) (v : Value) (w1 : World) : World :=
  ((w1.alloc (.cells (progCells v 2).toArray 83)).alloc (.cells #[.int .u32 3, .int .u32 3, .int .u32 3] 84)).alloc (.cells ((dg128L2 w ((w1.alloc (.cells (progCells v 2).toArray 83)).heap.size)).flatMap oCells).toArray 179)
theorem dg128_p2 (w : World) (a : Option Addr) (i j : Nat) (w1 : World) : dg128P2 w (.slice a i j) w1 = some (knOf2 (dg128P2 w (.slice a i j) w1), dg128W2 w (.slice a i j) w1) := by kernel_rfl
theorem dg128_e2 (w : World) (a : Option Addr) (i j : Nat) (w1 w2 : World) : (execOp (evalK (knOf2 (dg128P2 w (.slice a i j) w1))) (opN dg128Rest 20)).run Tryz.prog w2 = .ok (.enter 86 #[.slice (some ⟨((w1.alloc (.cells (progCells (.slice a i j) 2).toArray 83)).alloc (.cells #[.int .u32 3, .int .u32 3, .int .u32 3] 84)).heap.size, 0, none⟩) 5 5]) w2 := by kernel_rfl
noncomputable def dg128P3 (w : World) (v : Value) (w1 : World) (v2 : Value) (w3 : World) := runK Tryz.prog Tryz.f101.ntmps ((lastOps dg128Rest).toList.drop 21) ((25, v2) :: knOf2 (dg128P2 w v w1)) w3
noncomputable def dg128Text : ByteArray := match (opN dg128Rest 24).op with | .build _ p => strOf p.toList.head? | _ => ByteArray.empty
noncomputable def dg128W3 (w1 : World) (v2 : Value) (w3 : World) : World :=
  ((w3.alloc (.cells (progCells v2 2).toArray 185)).alloc (.cells #[.string ByteArray.empty] 9)).alloc (.cells #[.string dg128Text, .pointer (some ⟨w1.heap.size, 0, none⟩), .pointer (some ⟨w3.heap.size, 0, none⟩), .int .i64 0, .int .i64 0, .slice (some ⟨(w3.alloc (.cells (progCells v2 2).toArray 185)).heap.size, 0, none⟩) 1 1, .string ByteArray.empty, .slice none 0 0, .int .i32 0, .int .u32 1, .int .i64 1, .int .i64 2, .bool false, .int .u8 4, .int .i64 128, .bool false] 187)
theorem dg128_p3 (w : World) (a : Option Addr) (i j : Nat) (w1 : World) (b : Option Addr) (i2 j2 : Nat) (w3 : World) : dg128P3 w (.slice a i j) w1 (.slice b i2 j2) w3 = some (knOf2 (dg128P3 w (.slice a i j) w1 (.slice b i2 j2) w3), dg128W3 w1 (.slice b i2 j2) w3) := by kernel_rfl
theorem dg128_ret (w : World) (a : Option Addr) (i j : Nat) (w1 : World) (b : Option Addr) (i2 j2 : Nat) (w3 : World) : look (knOf2 (dg128P3 w (.slice a i j) w1 (.slice b i2 j2) w3)) 0 = .pointer (some ⟨((w3.alloc (.cells (progCells (.slice b i2 j2) 2).toArray 185)).alloc (.cells #[.string ByteArray.empty] 9)).heap.size, 0, none⟩) := by kernel_rfl

theorem dg128_any (w : World) : Calls Tryz.prog 101 #[] w fun e w' => ∃ R O G rb, e = .returned (.pointer (some ⟨R, 0, none⟩)) ∧ OnceAt w' R O G rb 128 ∧ ∃ x : Ext w, w' = x.now := by
  have ha := agree_start Tryz.f101.ntmps
  have h1 := dg128_to w
  rw [dg128_rest] at h1
  refine calls_of_wp Tryz.func101 (c := dg128Body) (by kernel_rfl) ?_
  refine wp_part (k := 3) (m := 7) h1 (dg128_p1 w) ?_ ha
  intro F hF a2 ha2
  rw [dg128_drop]
  obtain ⟨c1, c2, c3, c4⟩ := dg128_c1
  obtain ⟨w1, hw1⟩ : ∃ w1, w1 = (dg128W0 w).alloc (.cells (runsCells (dg128L1 w)).toArray 179) := ⟨_, rfl⟩
  rw [← hw1]
  have bR0 : Blk (dg128W0 w) w.heap.size (dgRunes.map (Value.int .i32)) 21 := by unfold dg128W0; exact (Blk.new w (dgRunes.map (Value.int .i32)) 21).alloc _
  have c0 : Chg [] w (dg128W0 w) := by unfold dg128W0; exact ((Chg.alloc _ _).trans (Chg.alloc _ _)).mono (fun _ h _ => by simp at h)
  have bL1 : Blk w1 (dg128W0 w).heap.size (runsCells (dg128L1 w)) 179 := by rw [hw1]; exact Blk.new _ _ _
  have c01 : Chg [] w w1 := by rw [hw1]; exact (c0.trans (Chg.alloc _ _)).mono (fun _ h _ => by simp at h)
  have bR1 : Blk w1 w.heap.size (dgRunes.map (Value.int .i32)) 21 := by rw [hw1]; exact bR0.alloc _
  have hok1 : ∀ x, x ∈ dg128L1 w → RunOk x.1 := fun x hx => runOk_of (by
    simp only [dg128L1, List.mem_cons, List.not_mem_nil, or_false] at hx
    rcases hx with rfl | rfl | rfl | rfl | rfl <;> (dsimp only; decide +kernel))
  have hz := ozz_insts w1 (dg128W0 w).heap.size (dg128L1 w) 5 (runsAt_blk bL1) bL1.lt hok1 (by show 5 ≤ 1000; omega)
  refine wpList_enter c1 ha2 (dg128_e1 w w1) hz ?_
  rintro v w2 ⟨hwo, y, rfl⟩
  have htot : total ((dg128L1 w).take (dg128L1 w).length) = 132 := rfl
  have hwo2 := hwo
  rw [htot] at hwo2
  obtain ⟨g, cap, rfl, _, _, _⟩ := ownsRow_cell hwo2 (by omega)
  rw [c2]
  have ha3 := ha2.put 12 (of_decide_eq_true (by kernel_rfl)) (.slice (some ⟨g, 0, none⟩) 132 cap)
  refine wpList_run _ _ _ _ _ (dg128_p2 w (some ⟨g, 0, none⟩) 132 cap y.now) ?_ _ ha3
  intro a4 ha4
  obtain ⟨w2, hw2⟩ : ∃ w2, w2 = dg128W2 w (.slice (some ⟨g, 0, none⟩) 132 cap) y.now := ⟨_, rfl⟩
  rw [← hw2]
  have e1 : (y.now.alloc (.cells (progCells (.slice (some ⟨g, 0, none⟩) 132 cap) 2).toArray 83)).heap.size = y.now.heap.size + 1 := by simp
  have bN : Blk w2 (y.now.heap.size + 1) [.int .u32 3, .int .u32 3, .int .u32 3] 84 := by
    rw [hw2]; unfold dg128W2
    rw [← e1]
    exact (Blk.new _ [.int .u32 3, .int .u32 3, .int .u32 3] 84).alloc _
  have bL2 : Blk w2 ((y.now.alloc (.cells (progCells (.slice (some ⟨g, 0, none⟩) 132 cap) 2).toArray 83)).alloc (.cells #[.int .u32 3, .int .u32 3, .int .u32 3] 84)).heap.size ((dg128L2 w (y.now.heap.size + 1)).flatMap oCells) 179 := by
    rw [hw2]; unfold dg128W2
    rw [e1]
    exact Blk.new _ _ _
  have cy2 : Chg [] y.now w2 := by rw [hw2]; unfold dg128W2; exact (((Chg.alloc _ _).trans (Chg.alloc _ _)).trans (Chg.alloc _ _)).mono (fun _ h _ => by simp at h)
  have c02 : Chg [] w w2 := ((c01.trans (Chg.of_below y.below)).trans cy2).mono (fun _ h _ => by simp at h)
  have bR2 : Blk w2 w.heap.size (dgRunes.map (Value.int .i32)) 21 := (bR1.chg (Chg.of_below y.below) (by simp)).chg cy2 (by simp)
  have hnext : ∀ x, x ∈ dg128L2 w (y.now.heap.size + 1) → NextAt w2 x.2.1 ∧ 0 ≤ x.2.2 ∧ x.2.2 ≤ 1 := by
    intro x hx
    simp only [dg128L2, List.mem_cons, List.not_mem_nil, or_false] at hx
    rcases hx with rfl | rfl | rfl | rfl | rfl
    · exact ⟨.inl rfl, by dsimp only; decide, by dsimp only; decide⟩
    · exact ⟨.inl rfl, by dsimp only; decide, by dsimp only; decide⟩
    · refine ⟨.inr ⟨y.now.heap.size + 1, 3, rfl, by omega, bN.lt, fun j hj => ⟨3, by omega, ?_⟩⟩, by dsimp only; decide, by dsimp only; decide⟩
      rw [bN.cell]
      match j, hj with
      | 0, _ => rfl
      | 1, _ => rfl
      | 2, _ => rfl
    · exact ⟨.inl rfl, by dsimp only; decide, by dsimp only; decide⟩
    · exact ⟨.inl rfl, by dsimp only; decide, by dsimp only; decide⟩
  have hok2 : ∀ x, x ∈ dg128L2 w (y.now.heap.size + 1) → RunOk x.1.1 := by
    intro x hx
    refine runOk_of ?_
    simp only [dg128L2, List.mem_cons, List.not_mem_nil, or_false] at hx
    rcases hx with rfl | rfl | rfl | rfl | rfl <;> (dsimp only; decide +kernel)
  have hz2 := zz_one w2 _ (dg128L2 w (y.now.heap.size + 1)) 5 (oruns_blk bL2 hnext) bL2.lt hok2 (by show 5 ≤ 1000; omega)
  refine wpList_enter c3 ha4 (dg128_e2 w (some ⟨g, 0, none⟩) 132 cap y.now w2) hz2 ?_
  rintro v2 w3 ⟨nx, hnx, hown, x3, rfl⟩
  rw [c4]
  obtain ⟨w4, hw4⟩ : ∃ w4, w4 = dg128W3 y.now v2 x3.now := ⟨_, rfl⟩
  have c34 : Chg [] x3.now w4 := by rw [hw4]; unfold dg128W3; exact (((Chg.alloc _ _).trans (Chg.alloc _ _)).trans (Chg.alloc _ _)).mono (fun _ h _ => by simp at h)
  obtain ⟨g2, cap2, rfl, hg2, htab⟩ := once_row (n := 128) (rb := w.heap.size) (l := dg128L2 w (y.now.heap.size + 1)) rfl (by
    intro x hx h7
    simp only [dg128L2, List.mem_cons, List.not_mem_nil, or_false] at hx
    rcases hx with rfl | rfl | rfl | rfl | rfl
    · cases h7
    · cases h7
    · rfl
    · cases h7
    · cases h7) hnx hown c34 (by decide +kernel)
  have ha5 := ha4.put 25 (of_decide_eq_true (by kernel_rfl)) (.slice (some ⟨g2, 0, none⟩) (128 + 4) cap2)
  rw [← List.append_nil ((lastOps dg128Rest).toList.drop 21)]
  refine wpList_run _ _ _ _ _ (dg128_p3 w (some ⟨g, 0, none⟩) 132 cap y.now (some ⟨g2, 0, none⟩) (128 + 4) cap2 x3.now) ?_ _ ha5
  intro a6 ha6
  rw [← hw4]
  show F a6 w4
  refine hF a6 _ ?_
  refine wp_ret ?_
  have hret := ha6.at_ 0
  rw [dg128_ret] at hret
  have f1 : (x3.now.alloc (.cells (progCells (.slice (some ⟨g2, 0, none⟩) (128 + 4) cap2) 2).toArray 185)).heap.size = x3.now.heap.size + 1 := by simp
  have f2 : ((x3.now.alloc (.cells (progCells (.slice (some ⟨g2, 0, none⟩) (128 + 4) cap2) 2).toArray 185)).alloc (.cells #[.string ByteArray.empty] 9)).heap.size = x3.now.heap.size + 2 := by simp
  rw [f2] at hret
  have bO : Blk w4 x3.now.heap.size (progCells (.slice (some ⟨g2, 0, none⟩) (128 + 4) cap2) 2) 185 := by
    rw [hw4]; unfold dg128W3
    exact ((Blk.new _ _ _).alloc _).alloc _
  have bR : Blk w4 (x3.now.heap.size + 2) [.string dg128Text, .pointer (some ⟨y.now.heap.size, 0, none⟩), .pointer (some ⟨x3.now.heap.size, 0, none⟩), .int .i64 0, .int .i64 0, .slice (some ⟨x3.now.heap.size + 1, 0, none⟩) 1 1, .string ByteArray.empty, .slice none 0 0, .int .i32 0, .int .u32 1, .int .i64 1, .int .i64 2, .bool false, .int .u8 4, .int .i64 128, .bool false] 187 := by
    rw [hw4]; unfold dg128W3
    rw [f1, ← f2]
    exact Blk.new _ _ _
  have bR4 : Blk w4 w.heap.size (dgRunes.map (Value.int .i32)) 21 := (bR2.chg (Chg.of_below x3.below) (by simp)).chg c34 (by simp)
  have hd := ha6.defers
  obtain ⟨tm, df⟩ := a6
  dsimp only at hd
  subst hd
  refine bodyPost_ret (v := .pointer (some ⟨x3.now.heap.size + 2, 0, none⟩)) ?_ rfl ⟨_, x3.now.heap.size, g2, w.heap.size, rfl, ⟨(bR.cell 2).trans rfl, (bR.cell 6).trans rfl, (bR.cell 13).trans rfl, (bR.cell 14).trans rfl, ⟨cap2, (bO.cell 0).trans rfl⟩, (bO.cell 1).trans rfl, htab, fun i x hx => ?_, bR.lt, bO.lt, hg2, bR4.lt⟩, ?_⟩
  · have d3' : tm[0]?.getD undef = .pointer (some ⟨x3.now.heap.size + 2, 0, none⟩) := by rw [← Array.getD_eq_getD_getElem?]; exact hret
    simp [results, Tryz.results101, go_sem, d3']
  · rw [bR4.cell, List.getElem?_map, hx]
    rfl
  · have hh : Chg [] w w4 := ((c02.trans (Chg.of_below x3.below)).trans c34).mono (fun _ h _ => by simp at h)
    exact Ext.of (hh.below (Nat.le_refl _) (fun b hb => by cases hb))

end Go.Proofs.YtooggfopjaaejaaGreatDoor
