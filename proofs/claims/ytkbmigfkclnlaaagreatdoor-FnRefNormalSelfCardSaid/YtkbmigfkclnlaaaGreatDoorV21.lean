/-
FnRefNormalSelf: the regular expressions, the digest and the reference, part 21 of 26.
-/
import Derived.Test.YtkbmigfkclnlaaaGreatDoorV20
import Derived.Test.YtkbmigfkclnlaaaGreatDoorV19
set_option linter.all false
namespace Go.Proofs.YtkbmigfkclnlaaaGreatDoor
open Go.RowKit Go.Rx

def dgRunes : List Int := [48, 57, 97, 102]
def dgRuns (n : Nat) : List Run := [⟨1, 5, 0, 0, 0, 0, []⟩, ⟨1, 3, 2, 0, 4, 0, dgRunes⟩, ⟨n, 7, 3, 1, 0, 0, dgRunes⟩, ⟨1, 3, n + 3, 0, 8, 0, []⟩, ⟨1, 4, 0, 0, 0, 0, []⟩]

theorem cells5_at (ps : List ((Run × Sl) × Nat)) (nx : List Value) (h : ps.length = nx.length) {pc : Nat} {y : (Run × Sl) × Nat} (hy : ps[pc]? = some y) (j : Nat) (hj : j < 4) :
  (cells5 ps nx)[pc * 5 + j]? = (instCells (y.1.1.inst y.2) (slV y.1.2))[j]? := by
 have hlt := (List.getElem?_eq_some_iff.1 hy).1
 obtain ⟨v, hv⟩ : ∃ v, nx[pc]? = some v := ⟨_, List.getElem?_eq_getElem (by omega)⟩
 unfold cells5
 rw [chunk_get _ 5 (fun _ => rfl) _ _ _ (by omega), (List.getElem?_zip_eq_some (z := (y, v))).2 ⟨hy, hv⟩]
 show (instCells (y.1.1.inst y.2) (slV y.1.2) ++ [v])[j]? = _
 rw [List.getElem?_append_left (by simpa [instCells] using hj)]

structure OnceR (w : World) (R O G rb n : Nat) (rs : List Run) (m : Nat) : Prop where
 one : w.cell? ⟨R, 2, none⟩ = some (.pointer (some ⟨O, 0, none⟩))
 pre : w.cell? ⟨R, 6, none⟩ = some (.string ByteArray.empty)
 cond : w.cell? ⟨R, 13, none⟩ = some (.int .u8 4)
 min : w.cell? ⟨R, 14, none⟩ = some (.int .i64 n)
 insts : ∃ cap, w.cell? ⟨O, 0, none⟩ = some (.slice (some ⟨G, 0, none⟩) m cap)
 start : w.cell? ⟨O, 1, none⟩ = some (.int .i64 1)
 at_ : ∀ pc i, (expand rs)[pc]? = some i → w.cell? ⟨G, pc * 5, none⟩ = some (.int .u8 i.op) ∧ w.cell? ⟨G, pc * 5 + 1, none⟩ = some (.int .u32 i.out) ∧ w.cell? ⟨G, pc * 5 + 2, none⟩ = some (.int .u32 i.arg) ∧
  (i.op = 7 → w.cell? ⟨G, pc * 5 + 3, none⟩ = some (.slice (some ⟨rb, 0, none⟩) 4 4))
 rune : ∀ i x, dgRunes[i]? = some x → w.cell? ⟨rb, i, none⟩ = some (.int .i32 x)
 lt : R < w.heap.size ∧ O < w.heap.size ∧ G < w.heap.size ∧ rb < w.heap.size
abbrev OnceAt (w : World) (R O G rb n : Nat) : Prop := OnceR w R O G rb n (dgRuns n) (n + 4)

theorem oruns_blk {w : World} {B : Nat} {l : List ORun} {t : TypeId} (h : Blk w B (l.flatMap oCells) t) (hn : ∀ x, x ∈ l → NextAt w x.2.1 ∧ 0 ≤ x.2.2 ∧ x.2.2 ≤ 1) : ORunsAt w B l := by
 refine ⟨fun i x hx j u hu => ?_, hn⟩
 have hj : j < 9 := by
  have := (List.getElem?_eq_some_iff.1 hu).1
  simpa [oCells] using this
 rw [h.cell, chunk_get _ 9 (fun _ => rfl) _ _ _ hj, hx]
 exact hu

theorem once_row {w3 w4 : World} {base m rb : Nat} {rs : List Run} {l : List ORun} {v : Value} {nx : List Value} (hl : (l.map (·.1)).map (·.1) = rs) (h7 : ∀ x, x ∈ l → x.1.1.op = 7 → x.1.2 = (some ⟨rb, 0, none⟩, 4, 4)) (hnx : (oPairs l l.length).length = nx.length)
  (hown : w3.ownsRow base 125 5 v (oPairs l l.length).length (cells5 (oPairs l l.length) nx)) (hc : Chg [] w3 w4) (hlen : (expand rs).length = m) (h0 : 0 < m) :
  ∃ g cap, v = .slice (some ⟨g, 0, none⟩) m cap ∧ g < w4.heap.size ∧ ∀ pc i, (expand rs)[pc]? = some i → w4.cell? ⟨g, pc * 5, none⟩ = some (.int .u8 i.op) ∧ w4.cell? ⟨g, pc * 5 + 1, none⟩ = some (.int .u32 i.out) ∧ w4.cell? ⟨g, pc * 5 + 2, none⟩ = some (.int .u32 i.arg) ∧
   (i.op = 7 → w4.cell? ⟨g, pc * 5 + 3, none⟩ = some (.slice (some ⟨rb, 0, none⟩) 4 4)) := by
 have e0 : oPairs l l.length = pairs (l.map (·.1)) := by unfold oPairs; rw [List.take_of_length_le (by simp)]
 have e1 : (pairs (l.map (·.1))).length = m := by rw [pairs_len, total_pairs, hl, hlen]
 rw [e0] at hown hnx
 have hown2 := hown
 rw [e1] at hown2
 obtain ⟨g, cap, rfl, hg, hgl, hcell⟩ := ownsRow_cell hown2 (by omega)
 refine ⟨g, cap, rfl, Nat.lt_of_lt_of_le hgl hc.size, fun pc i hi => ?_⟩
 have hpc : pc < m := by rw [← hlen]; exact (List.getElem?_eq_some_iff.1 hi).1
 have hp : (expand ((l.map (·.1)).map (·.1)))[pc]? = some i := by rw [hl]; exact hi
 rw [expand_pairs, List.getElem?_map] at hp
 cases hy : (pairs (l.map (·.1)))[pc]? with
 | none => rw [hy] at hp; cases hp
 | some y =>
  rw [hy] at hp
  simp at hp
  have cell : ∀ j, j < 4 → w4.cell? ⟨g, pc * 5 + j, none⟩ = (instCells i (slV y.1.2))[j]? := fun j hj => by
   rw [← hp, ← cells5_at _ nx hnx hy j hj, ← hcell _ (by omega)]
   exact World.cell?_of_block (hc.block g hgl (by simp))
  refine ⟨cell 0 (by omega), cell 1 (by omega), cell 2 (by omega), fun h => ?_⟩
  have hm := List.mem_of_getElem? hy
  unfold pairs at hm
  obtain ⟨x, hx, hxy⟩ := List.mem_flatMap.1 hm
  obtain ⟨k, _, rfl⟩ := List.mem_map.1 hxy
  obtain ⟨q, hq, rfl⟩ := List.mem_map.1 hx
  rw [← hp] at h
  have := h7 q hq h
  rw [cell 3 (by omega)]
  show some (slV q.1.2) = _
  rw [this]
  rfl

noncomputable def dg64Body : Code := Tryz.f123.body.getD .skip
noncomputable def dg64Rest : Code := dropSeq 3 dg64Body
def dg64W0 (w : World) : World := (w.alloc (runeObj dgRunes)).alloc (.cells #[] 21)
def dg64Sl (w : World) : Sl := (some ⟨w.heap.size, 0, none⟩, 4, 4)
def dg64No (w : World) : Sl := (some ⟨(w.alloc (runeObj dgRunes)).heap.size, 0, none⟩, 0, 0)
def dg64L1 (w : World) : List (Run × Sl) := [(⟨1, 5, 0, 0, 0, 0, []⟩, none, 0, 0), (⟨1, 3, 2, 0, 4, 0, []⟩, none, 0, 0), (⟨64, 7, 3, 1, 0, 0, dgRunes⟩, dg64Sl w), (⟨1, 3, 67, 0, 8, 0, []⟩, none, 0, 0), (⟨1, 4, 0, 0, 0, 0, []⟩, none, 0, 0)]
def dg64L2 (w : World) (nb : Nat) : List ORun := [((⟨1, 5, 0, 0, 0, 0, []⟩, none, 0, 0), ((none, 0, 0), 0)), ((⟨1, 3, 2, 0, 4, 0, dgRunes⟩, dg64Sl w), ((none, 0, 0), 0)), ((⟨64, 7, 3, 1, 0, 0, dgRunes⟩, dg64Sl w), ((some ⟨nb, 0, none⟩, 3, 3), 1)), ((⟨1, 3, 67, 0, 8, 0, []⟩, dg64No w), ((none, 0, 0), 0)), ((⟨1, 4, 0, 0, 0, 0, []⟩, none, 0, 0), ((none, 0, 0), 0))]
noncomputable def dg64To (w : World) := runTo Tryz.prog Tryz.f123.ntmps 3 dg64Body [] w
theorem dg64_rest : dg64Rest = .seq (.region 3 (lastOps dg64Rest) false) .ret := by kernel_rfl
theorem dg64_to (w : World) : dg64To w = some (dg64Rest, knOf (dg64To w), dg64W0 w) := by kernel_rfl
noncomputable def dg64P1 (w : World) := runK Tryz.prog Tryz.f123.ntmps ((lastOps dg64Rest).toList.take 7) (knOf (dg64To w)) (dg64W0 w)
theorem dg64_p1 (w : World) : dg64P1 w = some (knOf2 (dg64P1 w), (dg64W0 w).alloc (.cells (runsCells (dg64L1 w)).toArray 79)) := by kernel_rfl
theorem dg64_drop : (lastOps dg64Rest).toList.drop 7 = opN dg64Rest 7 :: ((lastOps dg64Rest).toList.drop 8).take 12 ++ opN dg64Rest 20 :: (lastOps dg64Rest).toList.drop 21 := by kernel_rfl
theorem dg64_c1 : (opN dg64Rest 7).guard = none ∧ (opN dg64Rest 7).dst = some 12 ∧ (opN dg64Rest 20).guard = none ∧ (opN dg64Rest 20).dst = some 25 := ⟨by kernel_rfl, by kernel_rfl, by kernel_rfl, by kernel_rfl⟩
theorem dg64_e1 (w w1 : World) : (execOp (evalK (knOf2 (dg64P1 w))) (opN dg64Rest 7)).run Tryz.prog w1 = .ok (.enter 42 #[.slice (some ⟨(dg64W0 w).heap.size, 0, none⟩) 5 5]) w1 := by kernel_rfl
noncomputable def dg64P2 (w : World) (v : Value) (w1 : World) := runK Tryz.prog Tryz.f123.ntmps (((lastOps dg64Rest).toList.drop 8).take 12) ((12, v) :: knOf2 (dg64P1 w)) w1
def dg64W2 (w : World) (v : Value) (w1 : World) : World :=
 ((w1.alloc (.cells (progCells v 2).toArray 82)).alloc (.cells #[.int .u32 3, .int .u32 3, .int .u32 3] 86)).alloc (.cells ((dg64L2 w ((w1.alloc (.cells (progCells v 2).toArray 82)).heap.size)).flatMap oCells).toArray 79)
theorem dg64_p2 (w : World) (a : Option Addr) (i j : Nat) (w1 : World) : dg64P2 w (.slice a i j) w1 = some (knOf2 (dg64P2 w (.slice a i j) w1), dg64W2 w (.slice a i j) w1) := by kernel_rfl
theorem dg64_e2 (w : World) (a : Option Addr) (i j : Nat) (w1 w2 : World) : (execOp (evalK (knOf2 (dg64P2 w (.slice a i j) w1))) (opN dg64Rest 20)).run Tryz.prog w2 = .ok (.enter 43 #[.slice (some ⟨((w1.alloc (.cells (progCells (.slice a i j) 2).toArray 82)).alloc (.cells #[.int .u32 3, .int .u32 3, .int .u32 3] 86)).heap.size, 0, none⟩) 5 5]) w2 := by kernel_rfl
noncomputable def dg64P3 (w : World) (v : Value) (w1 : World) (v2 : Value) (w3 : World) := runK Tryz.prog Tryz.f123.ntmps ((lastOps dg64Rest).toList.drop 21) ((25, v2) :: knOf2 (dg64P2 w v w1)) w3
noncomputable def dg64Text : ByteArray := match (opN dg64Rest 24).op with | .build _ p => strOf p.toList.head? | _ => ByteArray.empty
noncomputable def dg64W3 (w1 : World) (v2 : Value) (w3 : World) : World :=
 ((w3.alloc (.cells (progCells v2 2).toArray 88)).alloc (.cells #[.string ByteArray.empty] 9)).alloc (.cells #[.string dg64Text, .pointer (some ⟨w1.heap.size, 0, none⟩), .pointer (some ⟨w3.heap.size, 0, none⟩), .int .i64 0, .int .i64 0, .slice (some ⟨(w3.alloc (.cells (progCells v2 2).toArray 88)).heap.size, 0, none⟩) 1 1, .string ByteArray.empty, .slice none 0 0, .int .i32 0, .int .u32 1, .int .i64 0, .int .i64 2, .bool false, .int .u8 4, .int .i64 64, .bool false] 92)
theorem dg64_p3 (w : World) (a : Option Addr) (i j : Nat) (w1 : World) (b : Option Addr) (i2 j2 : Nat) (w3 : World) : dg64P3 w (.slice a i j) w1 (.slice b i2 j2) w3 = some (knOf2 (dg64P3 w (.slice a i j) w1 (.slice b i2 j2) w3), dg64W3 w1 (.slice b i2 j2) w3) := by kernel_rfl
theorem dg64_ret (w : World) (a : Option Addr) (i j : Nat) (w1 : World) (b : Option Addr) (i2 j2 : Nat) (w3 : World) : look (knOf2 (dg64P3 w (.slice a i j) w1 (.slice b i2 j2) w3)) 0 = .pointer (some ⟨((w3.alloc (.cells (progCells (.slice b i2 j2) 2).toArray 88)).alloc (.cells #[.string ByteArray.empty] 9)).heap.size, 0, none⟩) := by kernel_rfl

theorem dg64_any (w : World) : Calls Tryz.prog 123 #[] w fun e w' => ∃ R O G rb, e = .returned (.pointer (some ⟨R, 0, none⟩)) ∧ OnceAt w' R O G rb 64 ∧ ∃ x : Ext w, w' = x.now := by
 have ha := agree_start Tryz.f123.ntmps
 have h1 := dg64_to w
 rw [dg64_rest] at h1
 refine calls_of_wp Tryz.func123 (c := dg64Body) (by kernel_rfl) ?_
 refine wp_part (k := 3) (m := 7) h1 (dg64_p1 w) ?_ ha
 intro F hF a2 ha2
 rw [dg64_drop]
 obtain ⟨c1, c2, c3, c4⟩ := dg64_c1
 obtain ⟨w1, hw1⟩ : ∃ w1, w1 = (dg64W0 w).alloc (.cells (runsCells (dg64L1 w)).toArray 79) := ⟨_, rfl⟩
 rw [← hw1]
 have bR0 : Blk (dg64W0 w) w.heap.size (dgRunes.map (Value.int .i32)) 21 := by unfold dg64W0; exact (Blk.new w (dgRunes.map (Value.int .i32)) 21).alloc _
 have c0 : Chg [] w (dg64W0 w) := by unfold dg64W0; exact ((Chg.alloc _ _).trans (Chg.alloc _ _)).mono (fun _ h _ => by simp at h)
 have bL1 : Blk w1 (dg64W0 w).heap.size (runsCells (dg64L1 w)) 79 := by rw [hw1]; exact Blk.new _ _ _
 have c01 : Chg [] w w1 := by rw [hw1]; exact (c0.trans (Chg.alloc _ _)).mono (fun _ h _ => by simp at h)
 have bR1 : Blk w1 w.heap.size (dgRunes.map (Value.int .i32)) 21 := by rw [hw1]; exact bR0.alloc _
 have hok1 : ∀ x, x ∈ dg64L1 w → RunOk x.1 := fun x hx => runOk_of (by
  simp only [dg64L1, List.mem_cons, List.not_mem_nil, or_false] at hx
  rcases hx with rfl | rfl | rfl | rfl | rfl <;> (dsimp only; decide +kernel))
 have hz := ozz_insts w1 (dg64W0 w).heap.size (dg64L1 w) 5 (runsAt_blk bL1) bL1.lt hok1 (by show 5 ≤ 1000; omega)
 refine wpList_enter c1 ha2 (dg64_e1 w w1) hz ?_
 rintro v w2 ⟨hwo, y, rfl⟩
 have htot : total ((dg64L1 w).take (dg64L1 w).length) = 68 := rfl
 have hwo2 := hwo
 rw [htot] at hwo2
 obtain ⟨g, cap, rfl, _, _, _⟩ := ownsRow_cell hwo2 (by omega)
 rw [c2]
 have ha3 := ha2.put 12 (of_decide_eq_true (by kernel_rfl)) (.slice (some ⟨g, 0, none⟩) 68 cap)
 refine wpList_run _ _ _ _ _ (dg64_p2 w (some ⟨g, 0, none⟩) 68 cap y.now) ?_ _ ha3
 intro a4 ha4
 obtain ⟨w2, hw2⟩ : ∃ w2, w2 = dg64W2 w (.slice (some ⟨g, 0, none⟩) 68 cap) y.now := ⟨_, rfl⟩
 rw [← hw2]
 have e1 : (y.now.alloc (.cells (progCells (.slice (some ⟨g, 0, none⟩) 68 cap) 2).toArray 82)).heap.size = y.now.heap.size + 1 := by simp
 have bN : Blk w2 (y.now.heap.size + 1) [.int .u32 3, .int .u32 3, .int .u32 3] 86 := by
  rw [hw2]; unfold dg64W2
  rw [← e1]
  exact (Blk.new _ [.int .u32 3, .int .u32 3, .int .u32 3] 86).alloc _
 have bL2 : Blk w2 ((y.now.alloc (.cells (progCells (.slice (some ⟨g, 0, none⟩) 68 cap) 2).toArray 82)).alloc (.cells #[.int .u32 3, .int .u32 3, .int .u32 3] 86)).heap.size ((dg64L2 w (y.now.heap.size + 1)).flatMap oCells) 79 := by
  rw [hw2]; unfold dg64W2
  rw [e1]
  exact Blk.new _ _ _
 have cy2 : Chg [] y.now w2 := by rw [hw2]; unfold dg64W2; exact (((Chg.alloc _ _).trans (Chg.alloc _ _)).trans (Chg.alloc _ _)).mono (fun _ h _ => by simp at h)
 have c02 : Chg [] w w2 := ((c01.trans (Chg.of_below y.below)).trans cy2).mono (fun _ h _ => by simp at h)
 have bR2 : Blk w2 w.heap.size (dgRunes.map (Value.int .i32)) 21 := (bR1.chg (Chg.of_below y.below) (by simp)).chg cy2 (by simp)
 have hnext : ∀ x, x ∈ dg64L2 w (y.now.heap.size + 1) → NextAt w2 x.2.1 ∧ 0 ≤ x.2.2 ∧ x.2.2 ≤ 1 := by
  intro x hx
  simp only [dg64L2, List.mem_cons, List.not_mem_nil, or_false] at hx
  rcases hx with rfl | rfl | rfl | rfl | rfl
  ·exact ⟨.inl rfl, by dsimp only; decide, by dsimp only; decide⟩
  ·exact ⟨.inl rfl, by dsimp only; decide, by dsimp only; decide⟩
  ·refine ⟨.inr ⟨y.now.heap.size + 1, 3, rfl, by omega, bN.lt, fun j hj => ⟨3, by omega, ?_⟩⟩, by dsimp only; decide, by dsimp only; decide⟩
   rw [bN.cell]
   match j, hj with
   | 0, _ => rfl
   | 1, _ => rfl
   | 2, _ => rfl
  ·exact ⟨.inl rfl, by dsimp only; decide, by dsimp only; decide⟩
  ·exact ⟨.inl rfl, by dsimp only; decide, by dsimp only; decide⟩
 have hok2 : ∀ x, x ∈ dg64L2 w (y.now.heap.size + 1) → RunOk x.1.1 := by
  intro x hx
  refine runOk_of ?_
  simp only [dg64L2, List.mem_cons, List.not_mem_nil, or_false] at hx
  rcases hx with rfl | rfl | rfl | rfl | rfl <;> (dsimp only; decide +kernel)
 have hz2 := zz_one w2 _ (dg64L2 w (y.now.heap.size + 1)) 5 (oruns_blk bL2 hnext) bL2.lt hok2 (by show 5 ≤ 1000; omega)
 refine wpList_enter c3 ha4 (dg64_e2 w (some ⟨g, 0, none⟩) 68 cap y.now w2) hz2 ?_
 rintro v2 w3 ⟨nx, hnx, hown, x3, rfl⟩
 rw [c4]
 obtain ⟨w4, hw4⟩ : ∃ w4, w4 = dg64W3 y.now v2 x3.now := ⟨_, rfl⟩
 have c34 : Chg [] x3.now w4 := by rw [hw4]; unfold dg64W3; exact (((Chg.alloc _ _).trans (Chg.alloc _ _)).trans (Chg.alloc _ _)).mono (fun _ h _ => by simp at h)
 obtain ⟨g2, cap2, rfl, hg2, htab⟩ := once_row (rs := dgRuns 64) (m := 64 + 4) (rb := w.heap.size) (l := dg64L2 w (y.now.heap.size + 1)) rfl (by
  intro x hx h7
  simp only [dg64L2, List.mem_cons, List.not_mem_nil, or_false] at hx
  rcases hx with rfl | rfl | rfl | rfl | rfl
  ·cases h7
  ·cases h7
  ·rfl
  ·cases h7
  ·cases h7) hnx hown c34 (by decide +kernel) (by omega)
 have ha5 := ha4.put 25 (of_decide_eq_true (by kernel_rfl)) (.slice (some ⟨g2, 0, none⟩) (64 + 4) cap2)
 rw [← List.append_nil ((lastOps dg64Rest).toList.drop 21)]
 refine wpList_run _ _ _ _ _ (dg64_p3 w (some ⟨g, 0, none⟩) 68 cap y.now (some ⟨g2, 0, none⟩) (64 + 4) cap2 x3.now) ?_ _ ha5
 intro a6 ha6
 rw [← hw4]
 show F a6 w4
 refine hF a6 _ ?_
 refine wp_ret ?_
 have hret := ha6.at_ 0
 rw [dg64_ret] at hret
 have f1 : (x3.now.alloc (.cells (progCells (.slice (some ⟨g2, 0, none⟩) (64 + 4) cap2) 2).toArray 88)).heap.size = x3.now.heap.size + 1 := by simp
 have f2 : ((x3.now.alloc (.cells (progCells (.slice (some ⟨g2, 0, none⟩) (64 + 4) cap2) 2).toArray 88)).alloc (.cells #[.string ByteArray.empty] 9)).heap.size = x3.now.heap.size + 2 := by simp
 rw [f2] at hret
 have bO : Blk w4 x3.now.heap.size (progCells (.slice (some ⟨g2, 0, none⟩) (64 + 4) cap2) 2) 88 := by
  rw [hw4]; unfold dg64W3
  exact ((Blk.new _ _ _).alloc _).alloc _
 have bR : Blk w4 (x3.now.heap.size + 2) [.string dg64Text, .pointer (some ⟨y.now.heap.size, 0, none⟩), .pointer (some ⟨x3.now.heap.size, 0, none⟩), .int .i64 0, .int .i64 0, .slice (some ⟨x3.now.heap.size + 1, 0, none⟩) 1 1, .string ByteArray.empty, .slice none 0 0, .int .i32 0, .int .u32 1, .int .i64 0, .int .i64 2, .bool false, .int .u8 4, .int .i64 64, .bool false] 92 := by
  rw [hw4]; unfold dg64W3
  rw [f1, ← f2]
  exact Blk.new _ _ _
 have bR4 : Blk w4 w.heap.size (dgRunes.map (Value.int .i32)) 21 := (bR2.chg (Chg.of_below x3.below) (by simp)).chg c34 (by simp)
 have hd := ha6.defers
 obtain ⟨tm, df⟩ := a6
 dsimp only at hd
 subst hd
 refine bodyPost_ret (v := .pointer (some ⟨x3.now.heap.size + 2, 0, none⟩)) ?_ rfl ⟨_, x3.now.heap.size, g2, w.heap.size, rfl, ⟨(bR.cell 2).trans rfl, (bR.cell 6).trans rfl, (bR.cell 13).trans rfl, (bR.cell 14).trans rfl, ⟨cap2, (bO.cell 0).trans rfl⟩, (bO.cell 1).trans rfl, htab, fun i x hx => ?_, bR.lt, bO.lt, hg2, bR4.lt⟩, ?_⟩
 ·have d3' : tm[0]?.getD undef = .pointer (some ⟨x3.now.heap.size + 2, 0, none⟩) := by rw [← Array.getD_eq_getD_getElem?]; exact hret
  simp [results, Tryz.results123, go_sem, d3']
 ·rw [bR4.cell, List.getElem?_map, hx]
  rfl
 ·have hh : Chg [] w w4 := ((c02.trans (Chg.of_below x3.below)).trans c34).mono (fun _ h _ => by simp at h)
  exact Ext.of (hh.below (Nat.le_refl _) (fun b hb => by cases hb))

noncomputable def dg96Body : Code := Tryz.f124.body.getD .skip
noncomputable def dg96Rest : Code := dropSeq 3 dg96Body
def dg96W0 (w : World) : World := (w.alloc (runeObj dgRunes)).alloc (.cells #[] 21)
def dg96Sl (w : World) : Sl := (some ⟨w.heap.size, 0, none⟩, 4, 4)
def dg96No (w : World) : Sl := (some ⟨(w.alloc (runeObj dgRunes)).heap.size, 0, none⟩, 0, 0)
def dg96L1 (w : World) : List (Run × Sl) := [(⟨1, 5, 0, 0, 0, 0, []⟩, none, 0, 0), (⟨1, 3, 2, 0, 4, 0, []⟩, none, 0, 0), (⟨96, 7, 3, 1, 0, 0, dgRunes⟩, dg96Sl w), (⟨1, 3, 99, 0, 8, 0, []⟩, none, 0, 0), (⟨1, 4, 0, 0, 0, 0, []⟩, none, 0, 0)]
def dg96L2 (w : World) (nb : Nat) : List ORun := [((⟨1, 5, 0, 0, 0, 0, []⟩, none, 0, 0), ((none, 0, 0), 0)), ((⟨1, 3, 2, 0, 4, 0, dgRunes⟩, dg96Sl w), ((none, 0, 0), 0)), ((⟨96, 7, 3, 1, 0, 0, dgRunes⟩, dg96Sl w), ((some ⟨nb, 0, none⟩, 3, 3), 1)), ((⟨1, 3, 99, 0, 8, 0, []⟩, dg96No w), ((none, 0, 0), 0)), ((⟨1, 4, 0, 0, 0, 0, []⟩, none, 0, 0), ((none, 0, 0), 0))]
noncomputable def dg96To (w : World) := runTo Tryz.prog Tryz.f124.ntmps 3 dg96Body [] w
theorem dg96_rest : dg96Rest = .seq (.region 3 (lastOps dg96Rest) false) .ret := by kernel_rfl
theorem dg96_to (w : World) : dg96To w = some (dg96Rest, knOf (dg96To w), dg96W0 w) := by kernel_rfl
noncomputable def dg96P1 (w : World) := runK Tryz.prog Tryz.f124.ntmps ((lastOps dg96Rest).toList.take 7) (knOf (dg96To w)) (dg96W0 w)
theorem dg96_p1 (w : World) : dg96P1 w = some (knOf2 (dg96P1 w), (dg96W0 w).alloc (.cells (runsCells (dg96L1 w)).toArray 79)) := by kernel_rfl
theorem dg96_drop : (lastOps dg96Rest).toList.drop 7 = opN dg96Rest 7 :: ((lastOps dg96Rest).toList.drop 8).take 12 ++ opN dg96Rest 20 :: (lastOps dg96Rest).toList.drop 21 := by kernel_rfl
theorem dg96_c1 : (opN dg96Rest 7).guard = none ∧ (opN dg96Rest 7).dst = some 12 ∧ (opN dg96Rest 20).guard = none ∧ (opN dg96Rest 20).dst = some 25 := ⟨by kernel_rfl, by kernel_rfl, by kernel_rfl, by kernel_rfl⟩
theorem dg96_e1 (w w1 : World) : (execOp (evalK (knOf2 (dg96P1 w))) (opN dg96Rest 7)).run Tryz.prog w1 = .ok (.enter 42 #[.slice (some ⟨(dg96W0 w).heap.size, 0, none⟩) 5 5]) w1 := by kernel_rfl
noncomputable def dg96P2 (w : World) (v : Value) (w1 : World) := runK Tryz.prog Tryz.f124.ntmps (((lastOps dg96Rest).toList.drop 8).take 12) ((12, v) :: knOf2 (dg96P1 w)) w1
def dg96W2 (w : World) (v : Value) (w1 : World) : World :=
 ((w1.alloc (.cells (progCells v 2).toArray 82)).alloc (.cells #[.int .u32 3, .int .u32 3, .int .u32 3] 86)).alloc (.cells ((dg96L2 w ((w1.alloc (.cells (progCells v 2).toArray 82)).heap.size)).flatMap oCells).toArray 79)
theorem dg96_p2 (w : World) (a : Option Addr) (i j : Nat) (w1 : World) : dg96P2 w (.slice a i j) w1 = some (knOf2 (dg96P2 w (.slice a i j) w1), dg96W2 w (.slice a i j) w1) := by kernel_rfl
theorem dg96_e2 (w : World) (a : Option Addr) (i j : Nat) (w1 w2 : World) : (execOp (evalK (knOf2 (dg96P2 w (.slice a i j) w1))) (opN dg96Rest 20)).run Tryz.prog w2 = .ok (.enter 43 #[.slice (some ⟨((w1.alloc (.cells (progCells (.slice a i j) 2).toArray 82)).alloc (.cells #[.int .u32 3, .int .u32 3, .int .u32 3] 86)).heap.size, 0, none⟩) 5 5]) w2 := by kernel_rfl
noncomputable def dg96P3 (w : World) (v : Value) (w1 : World) (v2 : Value) (w3 : World) := runK Tryz.prog Tryz.f124.ntmps ((lastOps dg96Rest).toList.drop 21) ((25, v2) :: knOf2 (dg96P2 w v w1)) w3
noncomputable def dg96Text : ByteArray := match (opN dg96Rest 24).op with | .build _ p => strOf p.toList.head? | _ => ByteArray.empty
noncomputable def dg96W3 (w1 : World) (v2 : Value) (w3 : World) : World :=
 ((w3.alloc (.cells (progCells v2 2).toArray 88)).alloc (.cells #[.string ByteArray.empty] 9)).alloc (.cells #[.string dg96Text, .pointer (some ⟨w1.heap.size, 0, none⟩), .pointer (some ⟨w3.heap.size, 0, none⟩), .int .i64 0, .int .i64 0, .slice (some ⟨(w3.alloc (.cells (progCells v2 2).toArray 88)).heap.size, 0, none⟩) 1 1, .string ByteArray.empty, .slice none 0 0, .int .i32 0, .int .u32 1, .int .i64 0, .int .i64 2, .bool false, .int .u8 4, .int .i64 96, .bool false] 92)
theorem dg96_p3 (w : World) (a : Option Addr) (i j : Nat) (w1 : World) (b : Option Addr) (i2 j2 : Nat) (w3 : World) : dg96P3 w (.slice a i j) w1 (.slice b i2 j2) w3 = some (knOf2 (dg96P3 w (.slice a i j) w1 (.slice b i2 j2) w3), dg96W3 w1 (.slice b i2 j2) w3) := by kernel_rfl
theorem dg96_ret (w : World) (a : Option Addr) (i j : Nat) (w1 : World) (b : Option Addr) (i2 j2 : Nat) (w3 : World) : look (knOf2 (dg96P3 w (.slice a i j) w1 (.slice b i2 j2) w3)) 0 = .pointer (some ⟨((w3.alloc (.cells (progCells (.slice b i2 j2) 2).toArray 88)).alloc (.cells #[.string ByteArray.empty] 9)).heap.size, 0, none⟩) := by kernel_rfl

theorem dg96_any (w : World) : Calls Tryz.prog 124 #[] w fun e w' => ∃ R O G rb, e = .returned (.pointer (some ⟨R, 0, none⟩)) ∧ OnceAt w' R O G rb 96 ∧ ∃ x : Ext w, w' = x.now := by
 have ha := agree_start Tryz.f124.ntmps
 have h1 := dg96_to w
 rw [dg96_rest] at h1
 refine calls_of_wp Tryz.func124 (c := dg96Body) (by kernel_rfl) ?_
 refine wp_part (k := 3) (m := 7) h1 (dg96_p1 w) ?_ ha
 intro F hF a2 ha2
 rw [dg96_drop]
 obtain ⟨c1, c2, c3, c4⟩ := dg96_c1
 obtain ⟨w1, hw1⟩ : ∃ w1, w1 = (dg96W0 w).alloc (.cells (runsCells (dg96L1 w)).toArray 79) := ⟨_, rfl⟩
 rw [← hw1]
 have bR0 : Blk (dg96W0 w) w.heap.size (dgRunes.map (Value.int .i32)) 21 := by unfold dg96W0; exact (Blk.new w (dgRunes.map (Value.int .i32)) 21).alloc _
 have c0 : Chg [] w (dg96W0 w) := by unfold dg96W0; exact ((Chg.alloc _ _).trans (Chg.alloc _ _)).mono (fun _ h _ => by simp at h)
 have bL1 : Blk w1 (dg96W0 w).heap.size (runsCells (dg96L1 w)) 79 := by rw [hw1]; exact Blk.new _ _ _
 have c01 : Chg [] w w1 := by rw [hw1]; exact (c0.trans (Chg.alloc _ _)).mono (fun _ h _ => by simp at h)
 have bR1 : Blk w1 w.heap.size (dgRunes.map (Value.int .i32)) 21 := by rw [hw1]; exact bR0.alloc _
 have hok1 : ∀ x, x ∈ dg96L1 w → RunOk x.1 := fun x hx => runOk_of (by
  simp only [dg96L1, List.mem_cons, List.not_mem_nil, or_false] at hx
  rcases hx with rfl | rfl | rfl | rfl | rfl <;> (dsimp only; decide +kernel))
 have hz := ozz_insts w1 (dg96W0 w).heap.size (dg96L1 w) 5 (runsAt_blk bL1) bL1.lt hok1 (by show 5 ≤ 1000; omega)
 refine wpList_enter c1 ha2 (dg96_e1 w w1) hz ?_
 rintro v w2 ⟨hwo, y, rfl⟩
 have htot : total ((dg96L1 w).take (dg96L1 w).length) = 100 := rfl
 have hwo2 := hwo
 rw [htot] at hwo2
 obtain ⟨g, cap, rfl, _, _, _⟩ := ownsRow_cell hwo2 (by omega)
 rw [c2]
 have ha3 := ha2.put 12 (of_decide_eq_true (by kernel_rfl)) (.slice (some ⟨g, 0, none⟩) 100 cap)
 refine wpList_run _ _ _ _ _ (dg96_p2 w (some ⟨g, 0, none⟩) 100 cap y.now) ?_ _ ha3
 intro a4 ha4
 obtain ⟨w2, hw2⟩ : ∃ w2, w2 = dg96W2 w (.slice (some ⟨g, 0, none⟩) 100 cap) y.now := ⟨_, rfl⟩
 rw [← hw2]
 have e1 : (y.now.alloc (.cells (progCells (.slice (some ⟨g, 0, none⟩) 100 cap) 2).toArray 82)).heap.size = y.now.heap.size + 1 := by simp
 have bN : Blk w2 (y.now.heap.size + 1) [.int .u32 3, .int .u32 3, .int .u32 3] 86 := by
  rw [hw2]; unfold dg96W2
  rw [← e1]
  exact (Blk.new _ [.int .u32 3, .int .u32 3, .int .u32 3] 86).alloc _
 have bL2 : Blk w2 ((y.now.alloc (.cells (progCells (.slice (some ⟨g, 0, none⟩) 100 cap) 2).toArray 82)).alloc (.cells #[.int .u32 3, .int .u32 3, .int .u32 3] 86)).heap.size ((dg96L2 w (y.now.heap.size + 1)).flatMap oCells) 79 := by
  rw [hw2]; unfold dg96W2
  rw [e1]
  exact Blk.new _ _ _
 have cy2 : Chg [] y.now w2 := by rw [hw2]; unfold dg96W2; exact (((Chg.alloc _ _).trans (Chg.alloc _ _)).trans (Chg.alloc _ _)).mono (fun _ h _ => by simp at h)
 have c02 : Chg [] w w2 := ((c01.trans (Chg.of_below y.below)).trans cy2).mono (fun _ h _ => by simp at h)
 have bR2 : Blk w2 w.heap.size (dgRunes.map (Value.int .i32)) 21 := (bR1.chg (Chg.of_below y.below) (by simp)).chg cy2 (by simp)
 have hnext : ∀ x, x ∈ dg96L2 w (y.now.heap.size + 1) → NextAt w2 x.2.1 ∧ 0 ≤ x.2.2 ∧ x.2.2 ≤ 1 := by
  intro x hx
  simp only [dg96L2, List.mem_cons, List.not_mem_nil, or_false] at hx
  rcases hx with rfl | rfl | rfl | rfl | rfl
  ·exact ⟨.inl rfl, by dsimp only; decide, by dsimp only; decide⟩
  ·exact ⟨.inl rfl, by dsimp only; decide, by dsimp only; decide⟩
  ·refine ⟨.inr ⟨y.now.heap.size + 1, 3, rfl, by omega, bN.lt, fun j hj => ⟨3, by omega, ?_⟩⟩, by dsimp only; decide, by dsimp only; decide⟩
   rw [bN.cell]
   match j, hj with
   | 0, _ => rfl
   | 1, _ => rfl
   | 2, _ => rfl
  ·exact ⟨.inl rfl, by dsimp only; decide, by dsimp only; decide⟩
  ·exact ⟨.inl rfl, by dsimp only; decide, by dsimp only; decide⟩
 have hok2 : ∀ x, x ∈ dg96L2 w (y.now.heap.size + 1) → RunOk x.1.1 := by
  intro x hx
  refine runOk_of ?_
  simp only [dg96L2, List.mem_cons, List.not_mem_nil, or_false] at hx
  rcases hx with rfl | rfl | rfl | rfl | rfl <;> (dsimp only; decide +kernel)
 have hz2 := zz_one w2 _ (dg96L2 w (y.now.heap.size + 1)) 5 (oruns_blk bL2 hnext) bL2.lt hok2 (by show 5 ≤ 1000; omega)
 refine wpList_enter c3 ha4 (dg96_e2 w (some ⟨g, 0, none⟩) 100 cap y.now w2) hz2 ?_
 rintro v2 w3 ⟨nx, hnx, hown, x3, rfl⟩
 rw [c4]
 obtain ⟨w4, hw4⟩ : ∃ w4, w4 = dg96W3 y.now v2 x3.now := ⟨_, rfl⟩
 have c34 : Chg [] x3.now w4 := by rw [hw4]; unfold dg96W3; exact (((Chg.alloc _ _).trans (Chg.alloc _ _)).trans (Chg.alloc _ _)).mono (fun _ h _ => by simp at h)
 obtain ⟨g2, cap2, rfl, hg2, htab⟩ := once_row (rs := dgRuns 96) (m := 96 + 4) (rb := w.heap.size) (l := dg96L2 w (y.now.heap.size + 1)) rfl (by
  intro x hx h7
  simp only [dg96L2, List.mem_cons, List.not_mem_nil, or_false] at hx
  rcases hx with rfl | rfl | rfl | rfl | rfl
  ·cases h7
  ·cases h7
  ·rfl
  ·cases h7
  ·cases h7) hnx hown c34 (by decide +kernel) (by omega)
 have ha5 := ha4.put 25 (of_decide_eq_true (by kernel_rfl)) (.slice (some ⟨g2, 0, none⟩) (96 + 4) cap2)
 rw [← List.append_nil ((lastOps dg96Rest).toList.drop 21)]
 refine wpList_run _ _ _ _ _ (dg96_p3 w (some ⟨g, 0, none⟩) 100 cap y.now (some ⟨g2, 0, none⟩) (96 + 4) cap2 x3.now) ?_ _ ha5
 intro a6 ha6
 rw [← hw4]
 show F a6 w4
 refine hF a6 _ ?_
 refine wp_ret ?_
 have hret := ha6.at_ 0
 rw [dg96_ret] at hret
 have f1 : (x3.now.alloc (.cells (progCells (.slice (some ⟨g2, 0, none⟩) (96 + 4) cap2) 2).toArray 88)).heap.size = x3.now.heap.size + 1 := by simp
 have f2 : ((x3.now.alloc (.cells (progCells (.slice (some ⟨g2, 0, none⟩) (96 + 4) cap2) 2).toArray 88)).alloc (.cells #[.string ByteArray.empty] 9)).heap.size = x3.now.heap.size + 2 := by simp
 rw [f2] at hret
 have bO : Blk w4 x3.now.heap.size (progCells (.slice (some ⟨g2, 0, none⟩) (96 + 4) cap2) 2) 88 := by
  rw [hw4]; unfold dg96W3
  exact ((Blk.new _ _ _).alloc _).alloc _
 have bR : Blk w4 (x3.now.heap.size + 2) [.string dg96Text, .pointer (some ⟨y.now.heap.size, 0, none⟩), .pointer (some ⟨x3.now.heap.size, 0, none⟩), .int .i64 0, .int .i64 0, .slice (some ⟨x3.now.heap.size + 1, 0, none⟩) 1 1, .string ByteArray.empty, .slice none 0 0, .int .i32 0, .int .u32 1, .int .i64 0, .int .i64 2, .bool false, .int .u8 4, .int .i64 96, .bool false] 92 := by
  rw [hw4]; unfold dg96W3
  rw [f1, ← f2]
  exact Blk.new _ _ _
 have bR4 : Blk w4 w.heap.size (dgRunes.map (Value.int .i32)) 21 := (bR2.chg (Chg.of_below x3.below) (by simp)).chg c34 (by simp)
 have hd := ha6.defers
 obtain ⟨tm, df⟩ := a6
 dsimp only at hd
 subst hd
 refine bodyPost_ret (v := .pointer (some ⟨x3.now.heap.size + 2, 0, none⟩)) ?_ rfl ⟨_, x3.now.heap.size, g2, w.heap.size, rfl, ⟨(bR.cell 2).trans rfl, (bR.cell 6).trans rfl, (bR.cell 13).trans rfl, (bR.cell 14).trans rfl, ⟨cap2, (bO.cell 0).trans rfl⟩, (bO.cell 1).trans rfl, htab, fun i x hx => ?_, bR.lt, bO.lt, hg2, bR4.lt⟩, ?_⟩
 ·have d3' : tm[0]?.getD undef = .pointer (some ⟨x3.now.heap.size + 2, 0, none⟩) := by rw [← Array.getD_eq_getD_getElem?]; exact hret
  simp [results, Tryz.results124, go_sem, d3']
 ·rw [bR4.cell, List.getElem?_map, hx]
  rfl
 ·have hh : Chg [] w w4 := ((c02.trans (Chg.of_below x3.below)).trans c34).mono (fun _ h _ => by simp at h)
  exact Ext.of (hh.below (Nat.le_refl _) (fun b hb => by cases hb))

noncomputable def dg128Body : Code := Tryz.f125.body.getD .skip
noncomputable def dg128Rest : Code := dropSeq 3 dg128Body
def dg128W0 (w : World) : World := (w.alloc (runeObj dgRunes)).alloc (.cells #[] 21)
def dg128Sl (w : World) : Sl := (some ⟨w.heap.size, 0, none⟩, 4, 4)
def dg128No (w : World) : Sl := (some ⟨(w.alloc (runeObj dgRunes)).heap.size, 0, none⟩, 0, 0)
def dg128L1 (w : World) : List (Run × Sl) := [(⟨1, 5, 0, 0, 0, 0, []⟩, none, 0, 0), (⟨1, 3, 2, 0, 4, 0, []⟩, none, 0, 0), (⟨128, 7, 3, 1, 0, 0, dgRunes⟩, dg128Sl w), (⟨1, 3, 131, 0, 8, 0, []⟩, none, 0, 0), (⟨1, 4, 0, 0, 0, 0, []⟩, none, 0, 0)]
def dg128L2 (w : World) (nb : Nat) : List ORun := [((⟨1, 5, 0, 0, 0, 0, []⟩, none, 0, 0), ((none, 0, 0), 0)), ((⟨1, 3, 2, 0, 4, 0, dgRunes⟩, dg128Sl w), ((none, 0, 0), 0)), ((⟨128, 7, 3, 1, 0, 0, dgRunes⟩, dg128Sl w), ((some ⟨nb, 0, none⟩, 3, 3), 1)), ((⟨1, 3, 131, 0, 8, 0, []⟩, dg128No w), ((none, 0, 0), 0)), ((⟨1, 4, 0, 0, 0, 0, []⟩, none, 0, 0), ((none, 0, 0), 0))]
noncomputable def dg128To (w : World) := runTo Tryz.prog Tryz.f125.ntmps 3 dg128Body [] w
theorem dg128_rest : dg128Rest = .seq (.region 3 (lastOps dg128Rest) false) .ret := by kernel_rfl
theorem dg128_to (w : World) : dg128To w = some (dg128Rest, knOf (dg128To w), dg128W0 w) := by kernel_rfl
noncomputable def dg128P1 (w : World) := runK Tryz.prog Tryz.f125.ntmps ((lastOps dg128Rest).toList.take 7) (knOf (dg128To w)) (dg128W0 w)
theorem dg128_p1 (w : World) : dg128P1 w = some (knOf2 (dg128P1 w), (dg128W0 w).alloc (.cells (runsCells (dg128L1 w)).toArray 79)) := by kernel_rfl
theorem dg128_drop : (lastOps dg128Rest).toList.drop 7 = opN dg128Rest 7 :: ((lastOps dg128Rest).toList.drop 8).take 12 ++ opN dg128Rest 20 :: (lastOps dg128Rest).toList.drop 21 := by kernel_rfl
theorem dg128_c1 : (opN dg128Rest 7).guard = none ∧ (opN dg128Rest 7).dst = some 12 ∧ (opN dg128Rest 20).guard = none ∧ (opN dg128Rest 20).dst = some 25 := ⟨by kernel_rfl, by kernel_rfl, by kernel_rfl, by kernel_rfl⟩
theorem dg128_e1 (w w1 : World) : (execOp (evalK (knOf2 (dg128P1 w))) (opN dg128Rest 7)).run Tryz.prog w1 = .ok (.enter 42 #[.slice (some ⟨(dg128W0 w).heap.size, 0, none⟩) 5 5]) w1 := by kernel_rfl
noncomputable def dg128P2 (w : World) (v : Value) (w1 : World) := runK Tryz.prog Tryz.f125.ntmps (((lastOps dg128Rest).toList.drop 8).take 12) ((12, v) :: knOf2 (dg128P1 w)) w1
def dg128W2 (w : World) (v : Value) (w1 : World) : World :=
 ((w1.alloc (.cells (progCells v 2).toArray 82)).alloc (.cells #[.int .u32 3, .int .u32 3, .int .u32 3] 86)).alloc (.cells ((dg128L2 w ((w1.alloc (.cells (progCells v 2).toArray 82)).heap.size)).flatMap oCells).toArray 79)
theorem dg128_p2 (w : World) (a : Option Addr) (i j : Nat) (w1 : World) : dg128P2 w (.slice a i j) w1 = some (knOf2 (dg128P2 w (.slice a i j) w1), dg128W2 w (.slice a i j) w1) := by kernel_rfl
theorem dg128_e2 (w : World) (a : Option Addr) (i j : Nat) (w1 w2 : World) : (execOp (evalK (knOf2 (dg128P2 w (.slice a i j) w1))) (opN dg128Rest 20)).run Tryz.prog w2 = .ok (.enter 43 #[.slice (some ⟨((w1.alloc (.cells (progCells (.slice a i j) 2).toArray 82)).alloc (.cells #[.int .u32 3, .int .u32 3, .int .u32 3] 86)).heap.size, 0, none⟩) 5 5]) w2 := by kernel_rfl
noncomputable def dg128P3 (w : World) (v : Value) (w1 : World) (v2 : Value) (w3 : World) := runK Tryz.prog Tryz.f125.ntmps ((lastOps dg128Rest).toList.drop 21) ((25, v2) :: knOf2 (dg128P2 w v w1)) w3
noncomputable def dg128Text : ByteArray := match (opN dg128Rest 24).op with | .build _ p => strOf p.toList.head? | _ => ByteArray.empty
noncomputable def dg128W3 (w1 : World) (v2 : Value) (w3 : World) : World :=
 ((w3.alloc (.cells (progCells v2 2).toArray 88)).alloc (.cells #[.string ByteArray.empty] 9)).alloc (.cells #[.string dg128Text, .pointer (some ⟨w1.heap.size, 0, none⟩), .pointer (some ⟨w3.heap.size, 0, none⟩), .int .i64 0, .int .i64 0, .slice (some ⟨(w3.alloc (.cells (progCells v2 2).toArray 88)).heap.size, 0, none⟩) 1 1, .string ByteArray.empty, .slice none 0 0, .int .i32 0, .int .u32 1, .int .i64 1, .int .i64 2, .bool false, .int .u8 4, .int .i64 128, .bool false] 92)
theorem dg128_p3 (w : World) (a : Option Addr) (i j : Nat) (w1 : World) (b : Option Addr) (i2 j2 : Nat) (w3 : World) : dg128P3 w (.slice a i j) w1 (.slice b i2 j2) w3 = some (knOf2 (dg128P3 w (.slice a i j) w1 (.slice b i2 j2) w3), dg128W3 w1 (.slice b i2 j2) w3) := by kernel_rfl
theorem dg128_ret (w : World) (a : Option Addr) (i j : Nat) (w1 : World) (b : Option Addr) (i2 j2 : Nat) (w3 : World) : look (knOf2 (dg128P3 w (.slice a i j) w1 (.slice b i2 j2) w3)) 0 = .pointer (some ⟨((w3.alloc (.cells (progCells (.slice b i2 j2) 2).toArray 88)).alloc (.cells #[.string ByteArray.empty] 9)).heap.size, 0, none⟩) := by kernel_rfl

theorem dg128_any (w : World) : Calls Tryz.prog 125 #[] w fun e w' => ∃ R O G rb, e = .returned (.pointer (some ⟨R, 0, none⟩)) ∧ OnceAt w' R O G rb 128 ∧ ∃ x : Ext w, w' = x.now := by
 have ha := agree_start Tryz.f125.ntmps
 have h1 := dg128_to w
 rw [dg128_rest] at h1
 refine calls_of_wp Tryz.func125 (c := dg128Body) (by kernel_rfl) ?_
 refine wp_part (k := 3) (m := 7) h1 (dg128_p1 w) ?_ ha
 intro F hF a2 ha2
 rw [dg128_drop]
 obtain ⟨c1, c2, c3, c4⟩ := dg128_c1
 obtain ⟨w1, hw1⟩ : ∃ w1, w1 = (dg128W0 w).alloc (.cells (runsCells (dg128L1 w)).toArray 79) := ⟨_, rfl⟩
 rw [← hw1]
 have bR0 : Blk (dg128W0 w) w.heap.size (dgRunes.map (Value.int .i32)) 21 := by unfold dg128W0; exact (Blk.new w (dgRunes.map (Value.int .i32)) 21).alloc _
 have c0 : Chg [] w (dg128W0 w) := by unfold dg128W0; exact ((Chg.alloc _ _).trans (Chg.alloc _ _)).mono (fun _ h _ => by simp at h)
 have bL1 : Blk w1 (dg128W0 w).heap.size (runsCells (dg128L1 w)) 79 := by rw [hw1]; exact Blk.new _ _ _
 have c01 : Chg [] w w1 := by rw [hw1]; exact (c0.trans (Chg.alloc _ _)).mono (fun _ h _ => by simp at h)
 have bR1 : Blk w1 w.heap.size (dgRunes.map (Value.int .i32)) 21 := by rw [hw1]; exact bR0.alloc _
 have hok1 : ∀ x, x ∈ dg128L1 w → RunOk x.1 := fun x hx => runOk_of (by
  simp only [dg128L1, List.mem_cons, List.not_mem_nil, or_false] at hx
  rcases hx with rfl | rfl | rfl | rfl | rfl <;> (dsimp only; decide +kernel))
 have hz := ozz_insts w1 (dg128W0 w).heap.size (dg128L1 w) 5 (runsAt_blk bL1) bL1.lt hok1 (by show 5 ≤ 1000; omega)
 refine wpList_enter c1 ha2 (dg128_e1 w w1) hz ?_
 rintro v w2 ⟨hwo, y, rfl⟩
 have htot : total ((dg128L1 w).take (dg128L1 w).length) = 132 := rfl
 have hwo2 := hwo
 rw [htot] at hwo2
 obtain ⟨g, cap, rfl, _, _, _⟩ := ownsRow_cell hwo2 (by omega)
 rw [c2]
 have ha3 := ha2.put 12 (of_decide_eq_true (by kernel_rfl)) (.slice (some ⟨g, 0, none⟩) 132 cap)
 refine wpList_run _ _ _ _ _ (dg128_p2 w (some ⟨g, 0, none⟩) 132 cap y.now) ?_ _ ha3
 intro a4 ha4
 obtain ⟨w2, hw2⟩ : ∃ w2, w2 = dg128W2 w (.slice (some ⟨g, 0, none⟩) 132 cap) y.now := ⟨_, rfl⟩
 rw [← hw2]
 have e1 : (y.now.alloc (.cells (progCells (.slice (some ⟨g, 0, none⟩) 132 cap) 2).toArray 82)).heap.size = y.now.heap.size + 1 := by simp
 have bN : Blk w2 (y.now.heap.size + 1) [.int .u32 3, .int .u32 3, .int .u32 3] 86 := by
  rw [hw2]; unfold dg128W2
  rw [← e1]
  exact (Blk.new _ [.int .u32 3, .int .u32 3, .int .u32 3] 86).alloc _
 have bL2 : Blk w2 ((y.now.alloc (.cells (progCells (.slice (some ⟨g, 0, none⟩) 132 cap) 2).toArray 82)).alloc (.cells #[.int .u32 3, .int .u32 3, .int .u32 3] 86)).heap.size ((dg128L2 w (y.now.heap.size + 1)).flatMap oCells) 79 := by
  rw [hw2]; unfold dg128W2
  rw [e1]
  exact Blk.new _ _ _
 have cy2 : Chg [] y.now w2 := by rw [hw2]; unfold dg128W2; exact (((Chg.alloc _ _).trans (Chg.alloc _ _)).trans (Chg.alloc _ _)).mono (fun _ h _ => by simp at h)
 have c02 : Chg [] w w2 := ((c01.trans (Chg.of_below y.below)).trans cy2).mono (fun _ h _ => by simp at h)
 have bR2 : Blk w2 w.heap.size (dgRunes.map (Value.int .i32)) 21 := (bR1.chg (Chg.of_below y.below) (by simp)).chg cy2 (by simp)
 have hnext : ∀ x, x ∈ dg128L2 w (y.now.heap.size + 1) → NextAt w2 x.2.1 ∧ 0 ≤ x.2.2 ∧ x.2.2 ≤ 1 := by
  intro x hx
  simp only [dg128L2, List.mem_cons, List.not_mem_nil, or_false] at hx
  rcases hx with rfl | rfl | rfl | rfl | rfl
  ·exact ⟨.inl rfl, by dsimp only; decide, by dsimp only; decide⟩
  ·exact ⟨.inl rfl, by dsimp only; decide, by dsimp only; decide⟩
  ·refine ⟨.inr ⟨y.now.heap.size + 1, 3, rfl, by omega, bN.lt, fun j hj => ⟨3, by omega, ?_⟩⟩, by dsimp only; decide, by dsimp only; decide⟩
   rw [bN.cell]
   match j, hj with
   | 0, _ => rfl
   | 1, _ => rfl
   | 2, _ => rfl
  ·exact ⟨.inl rfl, by dsimp only; decide, by dsimp only; decide⟩
  ·exact ⟨.inl rfl, by dsimp only; decide, by dsimp only; decide⟩
 have hok2 : ∀ x, x ∈ dg128L2 w (y.now.heap.size + 1) → RunOk x.1.1 := by
  intro x hx
  refine runOk_of ?_
  simp only [dg128L2, List.mem_cons, List.not_mem_nil, or_false] at hx
  rcases hx with rfl | rfl | rfl | rfl | rfl <;> (dsimp only; decide +kernel)
 have hz2 := zz_one w2 _ (dg128L2 w (y.now.heap.size + 1)) 5 (oruns_blk bL2 hnext) bL2.lt hok2 (by show 5 ≤ 1000; omega)
 refine wpList_enter c3 ha4 (dg128_e2 w (some ⟨g, 0, none⟩) 132 cap y.now w2) hz2 ?_
 rintro v2 w3 ⟨nx, hnx, hown, x3, rfl⟩
 rw [c4]
 obtain ⟨w4, hw4⟩ : ∃ w4, w4 = dg128W3 y.now v2 x3.now := ⟨_, rfl⟩
 have c34 : Chg [] x3.now w4 := by rw [hw4]; unfold dg128W3; exact (((Chg.alloc _ _).trans (Chg.alloc _ _)).trans (Chg.alloc _ _)).mono (fun _ h _ => by simp at h)
 obtain ⟨g2, cap2, rfl, hg2, htab⟩ := once_row (rs := dgRuns 128) (m := 128 + 4) (rb := w.heap.size) (l := dg128L2 w (y.now.heap.size + 1)) rfl (by
  intro x hx h7
  simp only [dg128L2, List.mem_cons, List.not_mem_nil, or_false] at hx
  rcases hx with rfl | rfl | rfl | rfl | rfl
  ·cases h7
  ·cases h7
  ·rfl
  ·cases h7
  ·cases h7) hnx hown c34 (by decide +kernel) (by omega)
 have ha5 := ha4.put 25 (of_decide_eq_true (by kernel_rfl)) (.slice (some ⟨g2, 0, none⟩) (128 + 4) cap2)
 rw [← List.append_nil ((lastOps dg128Rest).toList.drop 21)]
 refine wpList_run _ _ _ _ _ (dg128_p3 w (some ⟨g, 0, none⟩) 132 cap y.now (some ⟨g2, 0, none⟩) (128 + 4) cap2 x3.now) ?_ _ ha5
 intro a6 ha6
 rw [← hw4]
 show F a6 w4
 refine hF a6 _ ?_
 refine wp_ret ?_
 have hret := ha6.at_ 0
 rw [dg128_ret] at hret
 have f1 : (x3.now.alloc (.cells (progCells (.slice (some ⟨g2, 0, none⟩) (128 + 4) cap2) 2).toArray 88)).heap.size = x3.now.heap.size + 1 := by simp
 have f2 : ((x3.now.alloc (.cells (progCells (.slice (some ⟨g2, 0, none⟩) (128 + 4) cap2) 2).toArray 88)).alloc (.cells #[.string ByteArray.empty] 9)).heap.size = x3.now.heap.size + 2 := by simp
 rw [f2] at hret
 have bO : Blk w4 x3.now.heap.size (progCells (.slice (some ⟨g2, 0, none⟩) (128 + 4) cap2) 2) 88 := by
  rw [hw4]; unfold dg128W3
  exact ((Blk.new _ _ _).alloc _).alloc _
 have bR : Blk w4 (x3.now.heap.size + 2) [.string dg128Text, .pointer (some ⟨y.now.heap.size, 0, none⟩), .pointer (some ⟨x3.now.heap.size, 0, none⟩), .int .i64 0, .int .i64 0, .slice (some ⟨x3.now.heap.size + 1, 0, none⟩) 1 1, .string ByteArray.empty, .slice none 0 0, .int .i32 0, .int .u32 1, .int .i64 1, .int .i64 2, .bool false, .int .u8 4, .int .i64 128, .bool false] 92 := by
  rw [hw4]; unfold dg128W3
  rw [f1, ← f2]
  exact Blk.new _ _ _
 have bR4 : Blk w4 w.heap.size (dgRunes.map (Value.int .i32)) 21 := (bR2.chg (Chg.of_below x3.below) (by simp)).chg c34 (by simp)
 have hd := ha6.defers
 obtain ⟨tm, df⟩ := a6
 dsimp only at hd
 subst hd
 refine bodyPost_ret (v := .pointer (some ⟨x3.now.heap.size + 2, 0, none⟩)) ?_ rfl ⟨_, x3.now.heap.size, g2, w.heap.size, rfl, ⟨(bR.cell 2).trans rfl, (bR.cell 6).trans rfl, (bR.cell 13).trans rfl, (bR.cell 14).trans rfl, ⟨cap2, (bO.cell 0).trans rfl⟩, (bO.cell 1).trans rfl, htab, fun i x hx => ?_, bR.lt, bO.lt, hg2, bR4.lt⟩, ?_⟩
 ·have d3' : tm[0]?.getD undef = .pointer (some ⟨x3.now.heap.size + 2, 0, none⟩) := by rw [← Array.getD_eq_getD_getElem?]; exact hret
  simp [results, Tryz.results125, go_sem, d3']
 ·rw [bR4.cell, List.getElem?_map, hx]
  rfl
 ·have hh : Chg [] w w4 := ((c02.trans (Chg.of_below x3.below)).trans c34).mono (fun _ h _ => by simp at h)
  exact Ext.of (hh.below (Nat.le_refl _) (fun b hb => by cases hb))

end Go.Proofs.YtkbmigfkclnlaaaGreatDoor
namespace Go.Proofs.YtkbmigfkclnlaaaGreatDoor
open Go.RowKit Go.Rx
theorem ostep_method (B : Nat) (w : World) : (method 387 243 (.pointer (some ⟨B, 0, none⟩)) "pub-timebook/pub/regexponce.step").run Tryz.prog w = .ok (184, .pointer (some ⟨B, 0, none⟩)) w := by kernel_rfl
theorem ostep_func (B : Nat) (pos : Int) (w : World) : (callFunc 184 #[.pointer (some ⟨B, 0, none⟩), .int .i64 pos]).run Tryz.prog w = .ok (.enter 184 #[.pointer (some ⟨B, 0, none⟩), .int .i64 pos]) w := by kernel_rfl
attribute [local go_sem] ostep_method ostep_func
attribute [local go_sem] Ext.cell Ext.frozen Ext.lt Ext.lt_add Ext.cell2 Ext.frozen2

def scopeOf : Code → Option Code
 | .scope c => some c
 | .seq a b => (scopeOf a).or (scopeOf b)
 | .block _ c => scopeOf c
 | _ => none
noncomputable def onScope : Code := (Tryz.f81.body.bind scopeOf).getD .skip
noncomputable def onBody : Code := (secondLoop onScope).getD .skip
noncomputable def onIn : Code := inBlock onBody
theorem on_in : onBody = Code.block 3 onIn := by kernel_rfl
noncomputable def onRest : Code := (findLabel onScope 0).getD .skip
theorem on_label : findLabel onScope 0 = some onRest := by kernel_rfl

inductive OF (R M pos : Nat) (dst : Value) (r r1 : Int) (wd wd1 : Nat) (fl : Int) (pc : Nat) : Act → Prop
 | mk (u1 u2 u3 u5 u7 u8 u9 u10 u11 u12 u13 u14 u15 u18 u20 u27 u28 u29 u30 u31 u32 u33 u34 u35 u36 u37 u38 u39 u40 u41 u42 u43 u44 u45 u46 u47 u48 u49 u50 u51 u52 u53 u54 u55 u56 u57 u58 u59 u60 u61 u62 u63 u64 u65 u66 u67 u68 u69 u70 u71 u72 u73 u74 u75 u76 u77 u78 u79 u80 u81 u82 u83 u84 u85 u86 u87 u88 u89 u90 u91 u92 u93 u94 u95 u96 u97 u98 u99 u100 u101 u102 u103 u104 u105 u106 u107 u108 u109 u110 u111 u112 u113 u114 u115 u116 u117 u118 u119 u120 u121 u122 u123 u124 u125 u126 u127 u128 u129 u130 u131 u132 u133 u134 u135 u136 u137 u138 u139 u140 u141 u142 u143 u144 u145 u146 u147 u148 u149 u150 u151 u152 u153 u154 u155 u156 u157 u158 u159 u160 u161 u162 u163 u164 u165 u166 u167 u168 u169 u170 u171 u172 u173 u174 u175 u176 u177 u178 u179 u180 u181 u182 u183 u184 u185 u186 u187 u188 u189 u190 u191 u192 u193 u194 u195 u196 u197 u198 u199 u200 u201 u202 u203 u204 u205 u206 u207 u208 u209 u210 u211 u212 u213 u214 u215 u216 u217 u218 u219 u220 u221 u222 u223 u224 u225 u226 u227 u228 u229 u230 u231 u232 u233 u234 u235 u236 u237 u238 u239 u240 u241 u242 u243 u244 u245 u246 u247 u248 u249 u250 u251 u252 u253 u254 u255 u256 u257 u258 u259 u260 u261 u262 u263 u264 u265 u266 u267 u268 u269 u270 u271 u272 u273 u274 u275 u276 u277 u278 u279 u280 u281 u282 u283 u284 u285 u286 u287 u288 u289 u290 u291 u292 u293 u294 u295 u296 u297 u298 u299 u300 u301 u302 u303 u304 u305 u306 u307 u308 u309 u310 u311 u312 u313 u314 u315 u316 u317 u318 u319 u320 u321 : Value) : OF R M pos dst r r1 wd wd1 fl pc ⟨#[.pointer (some ⟨R, 0, none⟩), u1, u2, u3, .int .i64 pos, u5, dst, u7, u8, u9, u10, u11, u12, u13, u14, u15, .pointer (some ⟨M, 0, none⟩), .bool false, u18, .iface 243 (.pointer (some ⟨M, 0, none⟩)), u20, .int .i32 r, .int .i32 r1, .int .i64 wd, .int .i64 wd1, .int .u64 fl, .int .i64 pc, u27, u28, u29, u30, u31, u32, u33, u34, u35, u36, u37, u38, u39, u40, u41, u42, u43, u44, u45, u46, u47, u48, u49, u50, u51, u52, u53, u54, u55, u56, u57, u58, u59, u60, u61, u62, u63, u64, u65, u66, u67, u68, u69, u70, u71, u72, u73, u74, u75, u76, u77, u78, u79, u80, u81, u82, u83, u84, u85, u86, u87, u88, u89, u90, u91, u92, u93, u94, u95, u96, u97, u98, u99, u100, u101, u102, u103, u104, u105, u106, u107, u108, u109, u110, u111, u112, u113, u114, u115, u116, u117, u118, u119, u120, u121, u122, u123, u124, u125, u126, u127, u128, u129, u130, u131, u132, u133, u134, u135, u136, u137, u138, u139, u140, u141, u142, u143, u144, u145, u146, u147, u148, u149, u150, u151, u152, u153, u154, u155, u156, u157, u158, u159, u160, u161, u162, u163, u164, u165, u166, u167, u168, u169, u170, u171, u172, u173, u174, u175, u176, u177, u178, u179, u180, u181, u182, u183, u184, u185, u186, u187, u188, u189, u190, u191, u192, u193, u194, u195, u196, u197, u198, u199, u200, u201, u202, u203, u204, u205, u206, u207, u208, u209, u210, u211, u212, u213, u214, u215, u216, u217, u218, u219, u220, u221, u222, u223, u224, u225, u226, u227, u228, u229, u230, u231, u232, u233, u234, u235, u236, u237, u238, u239, u240, u241, u242, u243, u244, u245, u246, u247, u248, u249, u250, u251, u252, u253, u254, u255, u256, u257, u258, u259, u260, u261, u262, u263, u264, u265, u266, u267, u268, u269, u270, u271, u272, u273, u274, u275, u276, u277, u278, u279, u280, u281, u282, u283, u284, u285, u286, u287, u288, u289, u290, u291, u292, u293, u294, u295, u296, u297, u298, u299, u300, u301, u302, u303, u304, u305, u306, u307, u308, u309, u310, u311, u312, u313, u314, u315, u316, u317, u318, u319, u320, u321], []⟩

inductive OL (M : Nat) (dst : Value) (ok : Bool) : Act → Prop
 | mk (u0 u1 u2 u3 u4 u5 u7 u8 u9 u10 u11 u12 u13 u14 u15 u18 u19 u20 u21 u22 u23 u24 u25 u26 u27 u28 u29 u30 u31 u32 u33 u34 u35 u36 u37 u38 u39 u40 u41 u42 u43 u44 u45 u46 u47 u48 u49 u50 u51 u52 u53 u54 u55 u56 u57 u58 u59 u60 u61 u62 u63 u64 u65 u66 u67 u68 u69 u70 u71 u72 u73 u74 u75 u76 u77 u78 u79 u80 u81 u82 u83 u84 u85 u86 u87 u88 u89 u90 u91 u92 u93 u94 u95 u96 u97 u98 u99 u100 u101 u102 u103 u104 u105 u106 u107 u108 u109 u110 u111 u112 u113 u114 u115 u116 u117 u118 u119 u120 u121 u122 u123 u124 u125 u126 u127 u128 u129 u130 u131 u132 u133 u134 u135 u136 u137 u138 u139 u140 u141 u142 u143 u144 u145 u146 u147 u148 u149 u150 u151 u152 u153 u154 u155 u156 u157 u158 u159 u160 u161 u162 u163 u164 u165 u166 u167 u168 u169 u170 u171 u172 u173 u174 u175 u176 u177 u178 u179 u180 u181 u182 u183 u184 u185 u186 u187 u188 u189 u190 u191 u192 u193 u194 u195 u196 u197 u198 u199 u200 u201 u202 u203 u204 u205 u206 u207 u208 u209 u210 u211 u212 u213 u214 u215 u216 u217 u218 u219 u220 u221 u222 u223 u224 u225 u226 u227 u228 u229 u230 u231 u232 u233 u234 u235 u236 u237 u238 u239 u240 u241 u242 u243 u244 u245 u246 u247 u248 u249 u250 u251 u252 u253 u254 u255 u256 u257 u258 u259 u260 u261 u262 u263 u264 u265 u266 u267 u268 u269 u270 u271 u272 u273 u274 u275 u276 u277 u278 u279 u280 u281 u282 u283 u284 u285 u286 u287 u288 u289 u290 u291 u292 u293 u294 u295 u296 u297 u298 u299 u300 u301 u302 u303 u304 u305 u306 u307 u308 u309 u310 u311 u312 u313 u314 u315 u316 u317 u318 u319 u320 u321 : Value) : OL M dst ok ⟨#[u0, u1, u2, u3, u4, u5, dst, u7, u8, u9, u10, u11, u12, u13, u14, u15, .pointer (some ⟨M, 0, none⟩), .bool ok, u18, u19, u20, u21, u22, u23, u24, u25, u26, u27, u28, u29, u30, u31, u32, u33, u34, u35, u36, u37, u38, u39, u40, u41, u42, u43, u44, u45, u46, u47, u48, u49, u50, u51, u52, u53, u54, u55, u56, u57, u58, u59, u60, u61, u62, u63, u64, u65, u66, u67, u68, u69, u70, u71, u72, u73, u74, u75, u76, u77, u78, u79, u80, u81, u82, u83, u84, u85, u86, u87, u88, u89, u90, u91, u92, u93, u94, u95, u96, u97, u98, u99, u100, u101, u102, u103, u104, u105, u106, u107, u108, u109, u110, u111, u112, u113, u114, u115, u116, u117, u118, u119, u120, u121, u122, u123, u124, u125, u126, u127, u128, u129, u130, u131, u132, u133, u134, u135, u136, u137, u138, u139, u140, u141, u142, u143, u144, u145, u146, u147, u148, u149, u150, u151, u152, u153, u154, u155, u156, u157, u158, u159, u160, u161, u162, u163, u164, u165, u166, u167, u168, u169, u170, u171, u172, u173, u174, u175, u176, u177, u178, u179, u180, u181, u182, u183, u184, u185, u186, u187, u188, u189, u190, u191, u192, u193, u194, u195, u196, u197, u198, u199, u200, u201, u202, u203, u204, u205, u206, u207, u208, u209, u210, u211, u212, u213, u214, u215, u216, u217, u218, u219, u220, u221, u222, u223, u224, u225, u226, u227, u228, u229, u230, u231, u232, u233, u234, u235, u236, u237, u238, u239, u240, u241, u242, u243, u244, u245, u246, u247, u248, u249, u250, u251, u252, u253, u254, u255, u256, u257, u258, u259, u260, u261, u262, u263, u264, u265, u266, u267, u268, u269, u270, u271, u272, u273, u274, u275, u276, u277, u278, u279, u280, u281, u282, u283, u284, u285, u286, u287, u288, u289, u290, u291, u292, u293, u294, u295, u296, u297, u298, u299, u300, u301, u302, u303, u304, u305, u306, u307, u308, u309, u310, u311, u312, u313, u314, u315, u316, u317, u318, u319, u320, u321], []⟩

set_option maxRecDepth 1000000 in
set_option maxHeartbeats 4000000 in
theorem on_ew {a : Act} (R M pos : Nat) (dst : Value) (r r1 : Int) (wd wd1 : Nat) (fl : Int) (pc : Nat) (w : World) (Q : Exit → Act → World → Prop) (O G n cap : Nat) (c2 : w.cell? ⟨R, 2, none⟩ = some (.pointer (some ⟨O, 0, none⟩))) (hRl : R < w.heap.size) (cO : w.cell? ⟨O, 0, none⟩ = some (.slice (some ⟨G, 0, none⟩) n cap)) (hOl : O < w.heap.size) (hGl : G < w.heap.size) (hpc : pc < n) (hn : n < 100000) (out arg : Nat) (hout : out < 100000) (harg : arg < 256) (i0 : w.cell? ⟨G, pc * 5, none⟩ = some (.int .u8 3)) (i1 : w.cell? ⟨G, pc * 5 + 1, none⟩ = some (.int .u32 out)) (i2 : w.cell? ⟨G, pc * 5 + 2, none⟩ = some (.int .u32 arg)) (hm : Calls Tryz.prog 98 #[.int .u64 fl, .int .u8 arg] w fun e w1 => e = .returned (.bool true) ∧ w1 = w) (hgo : ∀ a, OF R M pos dst r r1 wd wd1 fl out a → Q (.exit 3) a w) (hfr : OF R M pos dst r r1 wd wd1 fl pc a) : onIn.wp Tryz.prog Q a w := by
 cases hfr
 conv => arg 2; whnf
 have hpc2 : (pc : Int) < (n : Int) := by omega
 have HM := Lib.hid hm
 have HG := Lib.hid hgo
 clear hm hgo
 go_wp2_with (first | (go_at_call 98; (with_reducible refine HM.out.mono ?_); rintro e w1 ⟨rfl, rfl⟩))
 exact HG.out _ (by constructor)

set_option maxRecDepth 1000000 in
set_option maxHeartbeats 4000000 in
theorem on_rune_last {a : Act} (R M pos : Nat) (dst : Value) (r r1 : Int) (wd wd1 : Nat) (fl : Int) (pc : Nat) (w : World) (Q : Exit → Act → World → Prop) (O G n cap : Nat) (c2 : w.cell? ⟨R, 2, none⟩ = some (.pointer (some ⟨O, 0, none⟩))) (hRl : R < w.heap.size) (cO : w.cell? ⟨O, 0, none⟩ = some (.slice (some ⟨G, 0, none⟩) n cap)) (hOl : O < w.heap.size) (hGl : G < w.heap.size) (hpc : pc < n) (hn : n < 100000) (out : Nat) (hout : out < 100000) (i0 : w.cell? ⟨G, pc * 5, none⟩ = some (.int .u8 7)) (i1 : w.cell? ⟨G, pc * 5 + 1, none⟩ = some (.int .u32 out)) (hm : Calls Tryz.prog 99 #[.pointer (some ⟨G, pc * 5, none⟩), .int .i32 r] w fun e w1 => e = .returned (.bool true) ∧ w1 = w) (hwd : 0 < wd) (p2 : Nat) (e2 : (pos : Int) + (wd : Int) = (p2 : Int)) (hp2 : p2 < 100000000000) (fl2 : Int) (hfl : Calls Tryz.prog 97 #[.int .i32 r, .int .i32 r1] w fun e w1 => e = .returned (.int .u64 fl2) ∧ w1 = w) (hr1 : r1 = -1) (hgo : ∀ a, OF R M p2 dst r1 r1 wd1 wd1 fl2 out a → Q .normal a w) (hfr : OF R M pos dst r r1 wd wd1 fl pc a) : onIn.wp Tryz.prog Q a w := by
 cases hfr
 conv => arg 2; whnf
 have hpc2 : (pc : Int) < (n : Int) := by omega
 have hwd0 : ¬ (wd : Int) = 0 := by omega
 subst hr1
 have HM := Lib.hid hm
 have HF := Lib.hid hfl
 have HG := Lib.hid hgo
 clear hm hgo hfl
 go_wp2_with (first | (go_at_call 99; (with_reducible refine HM.out.mono ?_); rintro e w1 ⟨rfl, rfl⟩) | (go_at_call 97; (with_reducible refine HF.out.mono ?_); rintro e w1 ⟨rfl, rfl⟩))
 exact HG.out _ (by constructor)

set_option maxRecDepth 1000000 in
set_option maxHeartbeats 4000000 in
theorem on_rune_next {a : Act} (R M pos : Nat) (dst : Value) (r r1 : Int) (wd wd1 : Nat) (fl : Int) (pc : Nat) (w : World) (Q : Exit → Act → World → Prop) (O G n cap : Nat) (c2 : w.cell? ⟨R, 2, none⟩ = some (.pointer (some ⟨O, 0, none⟩))) (hRl : R < w.heap.size) (cO : w.cell? ⟨O, 0, none⟩ = some (.slice (some ⟨G, 0, none⟩) n cap)) (hOl : O < w.heap.size) (hGl : G < w.heap.size) (hpc : pc < n) (hn : n < 100000) (out : Nat) (hout : out < 100000) (i0 : w.cell? ⟨G, pc * 5, none⟩ = some (.int .u8 7)) (i1 : w.cell? ⟨G, pc * 5 + 1, none⟩ = some (.int .u32 out)) (hm : Calls Tryz.prog 99 #[.pointer (some ⟨G, pc * 5, none⟩), .int .i32 r] w fun e w1 => e = .returned (.bool true) ∧ w1 = w) (hwd : 0 < wd) (p2 : Nat) (e2 : (pos : Int) + (wd : Int) = (p2 : Int)) (hp2 : p2 < 100000000000) (fl2 : Int) (hfl : Calls Tryz.prog 97 #[.int .i32 r, .int .i32 r1] w fun e w1 => e = .returned (.int .u64 fl2) ∧ w1 = w) (hr1 : r1 ≠ -1) (p3 : Nat) (e3 : (p2 : Int) + (wd1 : Int) = (p3 : Int)) (hp3 : p3 < 100000000000) (r2 : Int) (wd2 : Nat) (hst : Calls Tryz.prog 184 #[.pointer (some ⟨M, 0, none⟩), .int .i64 p3] w fun e w1 => e = .returned (.tuple #[.int .i32 r2, .int .i64 wd2]) ∧ w1 = w) (hgo : ∀ a, OF R M p2 dst r1 r2 wd1 wd2 fl2 out a → Q .normal a w) (hfr : OF R M pos dst r r1 wd wd1 fl pc a) : onIn.wp Tryz.prog Q a w := by
 cases hfr
 conv => arg 2; whnf
 have hpc2 : (pc : Int) < (n : Int) := by omega
 have hwd0 : ¬ (wd : Int) = 0 := by omega
 have HM := Lib.hid hm
 have HF := Lib.hid hfl
 have HS := Lib.hid hst
 have HG := Lib.hid hgo
 clear hm hgo hfl hst
 go_wp2_with (first | (go_at_call 99; (with_reducible refine HM.out.mono ?_); rintro e w1 ⟨rfl, rfl⟩) | (go_at_call 97; (with_reducible refine HF.out.mono ?_); rintro e w1 ⟨rfl, rfl⟩) | (go_at_call 184; (with_reducible refine HS.out.mono ?_); rintro e w1 ⟨rfl, rfl⟩))
 exact HG.out _ (by constructor)

set_option maxRecDepth 1000000 in
set_option maxHeartbeats 4000000 in
theorem on_match {a : Act} (R M pos : Nat) (dst : Value) (r r1 : Int) (wd wd1 : Nat) (fl : Int) (pc : Nat) (w : World) (Q : Exit → Act → World → Prop) (O G n cap : Nat) (c2 : w.cell? ⟨R, 2, none⟩ = some (.pointer (some ⟨O, 0, none⟩))) (hRl : R < w.heap.size) (cO : w.cell? ⟨O, 0, none⟩ = some (.slice (some ⟨G, 0, none⟩) n cap)) (hOl : O < w.heap.size) (hGl : G < w.heap.size) (hpc : pc < n) (hn : n < 100000) (out : Nat) (hout : out < 100000) (i0 : w.cell? ⟨G, pc * 5, none⟩ = some (.int .u8 4)) (i1 : w.cell? ⟨G, pc * 5 + 1, none⟩ = some (.int .u32 out)) (cm : w.cell? ⟨M, 1, none⟩ = some (.slice none 0 0)) (hMl : M < w.heap.size) (hgo : ∀ a, OL M dst true a → Q (.goto 0) a w) (hfr : OF R M pos dst r r1 wd wd1 fl pc a) : onIn.wp Tryz.prog Q a w := by
 cases hfr
 conv => arg 2; whnf
 have hpc2 : (pc : Int) < (n : Int) := by omega
 have HG := Lib.hid hgo
 clear hgo
 go_wp2_with fail
 refine wp_goto ?_
 refine HG.out _ ?_
 constructor

set_option maxRecDepth 1000000 in
set_option maxHeartbeats 4000000 in
theorem on_cap {a : Act} (R M pos : Nat) (dst : Value) (r r1 : Int) (wd wd1 : Nat) (fl : Int) (pc : Nat) (w : World) (Q : Exit → Act → World → Prop) (O G n cap : Nat) (c2 : w.cell? ⟨R, 2, none⟩ = some (.pointer (some ⟨O, 0, none⟩))) (hRl : R < w.heap.size) (cO : w.cell? ⟨O, 0, none⟩ = some (.slice (some ⟨G, 0, none⟩) n cap)) (hOl : O < w.heap.size) (hGl : G < w.heap.size) (hpc : pc < n) (hn : n < 100000) (out arg : Nat) (hout : out < 100000) (harg : arg < 256) (i0 : w.cell? ⟨G, pc * 5, none⟩ = some (.int .u8 2)) (i1 : w.cell? ⟨G, pc * 5 + 1, none⟩ = some (.int .u32 out)) (i2 : w.cell? ⟨G, pc * 5 + 2, none⟩ = some (.int .u32 arg)) (cm : w.cell? ⟨M, 1, none⟩ = some (.slice none 0 0)) (hMl : M < w.heap.size) (hgo : ∀ a (x : Ext w), OF R M pos dst r r1 wd wd1 fl out a → Q (.exit 3) a x.now) (hfr : OF R M pos dst r r1 wd wd1 fl pc a) : onIn.wp Tryz.prog Q a w := by
 cases hfr
 conv => arg 2; whnf
 have hpc2 : (pc : Int) < (n : Int) := by omega
 have ha0 : ¬ IntKind.i64.wrap (arg : Int) < 0 := by rw [IntKind.wrap_i64]; omega
 have HG := Lib.hid hgo
 clear hgo
 go_wp2_with fail
 refine wp_region_ext (by kernel_rfl) (by kernel_rfl) ?_
 repeat (quiet_step (fail))
 refine wpQuiet_nil ?_
 rintro w' ⟨y, rfl⟩
 go_wp2_with fail
 exact HG.out _ y (by constructor)

set_option maxRecDepth 1000000 in
set_option maxHeartbeats 4000000 in
theorem on_ew_no {a : Act} (R M pos : Nat) (dst : Value) (r r1 : Int) (wd wd1 : Nat) (fl : Int) (pc : Nat) (w : World) (Q : Exit → Act → World → Prop) (O G n cap : Nat) (c2 : w.cell? ⟨R, 2, none⟩ = some (.pointer (some ⟨O, 0, none⟩))) (hRl : R < w.heap.size) (cO : w.cell? ⟨O, 0, none⟩ = some (.slice (some ⟨G, 0, none⟩) n cap)) (hOl : O < w.heap.size) (hGl : G < w.heap.size) (hpc : pc < n) (hn : n < 100000) (out arg : Nat) (hout : out < 100000) (harg : arg < 256) (i0 : w.cell? ⟨G, pc * 5, none⟩ = some (.int .u8 3)) (i1 : w.cell? ⟨G, pc * 5 + 1, none⟩ = some (.int .u32 out)) (i2 : w.cell? ⟨G, pc * 5 + 2, none⟩ = some (.int .u32 arg)) (hm : Calls Tryz.prog 98 #[.int .u64 fl, .int .u8 arg] w fun e w1 => e = .returned (.bool false) ∧ w1 = w) (hgo : ∀ a, OL M dst false a → Q (.goto 0) a w) (hfr : OF R M pos dst r r1 wd wd1 fl pc a) : onIn.wp Tryz.prog Q a w := by
 cases hfr
 conv => arg 2; whnf
 have hpc2 : (pc : Int) < (n : Int) := by omega
 have HM := Lib.hid hm
 have HG := Lib.hid hgo
 clear hm hgo
 go_wp2_with (first | (go_at_call 98; (with_reducible refine HM.out.mono ?_); rintro e w1 ⟨rfl, rfl⟩))
 refine wp_goto ?_
 exact HG.out _ (by constructor)

set_option maxRecDepth 1000000 in
set_option maxHeartbeats 4000000 in
theorem on_rune_no {a : Act} (R M pos : Nat) (dst : Value) (r r1 : Int) (wd wd1 : Nat) (fl : Int) (pc : Nat) (w : World) (Q : Exit → Act → World → Prop) (O G n cap : Nat) (c2 : w.cell? ⟨R, 2, none⟩ = some (.pointer (some ⟨O, 0, none⟩))) (hRl : R < w.heap.size) (cO : w.cell? ⟨O, 0, none⟩ = some (.slice (some ⟨G, 0, none⟩) n cap)) (hOl : O < w.heap.size) (hGl : G < w.heap.size) (hpc : pc < n) (hn : n < 100000) (out : Nat) (hout : out < 100000) (i0 : w.cell? ⟨G, pc * 5, none⟩ = some (.int .u8 7)) (i1 : w.cell? ⟨G, pc * 5 + 1, none⟩ = some (.int .u32 out)) (hm : Calls Tryz.prog 99 #[.pointer (some ⟨G, pc * 5, none⟩), .int .i32 r] w fun e w1 => e = .returned (.bool false) ∧ w1 = w) (hgo : ∀ a, OL M dst false a → Q (.goto 0) a w) (hfr : OF R M pos dst r r1 wd wd1 fl pc a) : onIn.wp Tryz.prog Q a w := by
 cases hfr
 conv => arg 2; whnf
 have hpc2 : (pc : Int) < (n : Int) := by omega
 have HM := Lib.hid hm
 have HG := Lib.hid hgo
 clear hm hgo
 go_wp2_with (first | (go_at_call 99; (with_reducible refine HM.out.mono ?_); rintro e w1 ⟨rfl, rfl⟩))
 refine wp_goto ?_
 exact HG.out _ (by constructor)

end Go.Proofs.YtkbmigfkclnlaaaGreatDoor
