/-
FnRefNormalSelf: the regular expressions, the digest and the reference, part 13 of 26.
-/
import Derived.Test.YtkbmigfkclnlaaaGreatDoorV12
import Derived.Test.YtkbmigfkclnlaaaGreatDoorV10
import Derived.Test.YtkbmigfkclnlaaaGreatDoorV02
set_option linter.all false
namespace Go.Proofs.YtkbmigfkclnlaaaGreatDoor
open Go.RowKit Go.Rx
attribute [local go_sem] Ext.cell Ext.frozen Ext.lt Ext.lt_add Ext.cell2 Ext.frozen2
attribute [local irreducible] wpQuiet

theorem own_chg {w w' : World} {base n : Nat} {v : Value} {xs : List Value} {X : List Nat} (h : w.ownsRow base 209 1 v n xs) (x : Chg X w w') (hX : ∀ b, v.ownBlock = some b → b ∉ X) : w'.ownsRow base 209 1 v n xs := by
 obtain ⟨h1, h2⟩ := h
 refine ⟨h1, ?_⟩
 rcases h2 with h2 | ⟨g, cap, cur, rfl, hb, hh, hr⟩
 ·exact .inl h2
 ·refine .inr ⟨g, cap, cur, rfl, hb, ?_, hr⟩
  rw [x.block g (Array.getElem?_eq_some_iff.1 hh).1 (hX g rfl), hh]

def thPtrs (r : List CE) : List Value := r.filterMap fun e => e.2.map fun t => .pointer (some ⟨t.1.1, 0, none⟩)

def Poured (M base k : Nat) (pv : Value) (ml : List Value) (tM : TypeId) (xs : List Value) (w3 : World) (rs : List CE) (i : Nat) (wr : World) : Prop :=
 ∃ pv2 k2, Blk wr M (ml.set 6 pv2) tM ∧ wr.ownsRow base 209 1 pv2 k2 (xs ++ thPtrs (rs.take i)) ∧ (∃ X, Chg X w3 wr ∧ ∀ b, b ∈ X → b = M ∨ pv.ownBlock = some b) ∧ (pv2.ownBlock = pv.ownBlock ∨ ∀ b, pv2.ownBlock = some b → w3.heap.size ≤ b) ∧ k2 ≤ k + i

theorem Poured.ext {M base k : Nat} {pv : Value} {ml : List Value} {tM : TypeId} {xs : List Value} {w3 wr wr' : World} {rs : List CE} {i : Nat} (h : Poured M base k pv ml tM xs w3 rs i wr) (x : Chg [] wr wr') : Poured M base k pv ml tM xs w3 rs i wr' := by
 obtain ⟨pv2, k2, p1, p2, ⟨X, p3, p4⟩, p5, p6⟩ := h
 exact ⟨pv2, k2, p1.chg x (by simp), own_chg p2 x (fun b _ => by simp), ⟨X ++ [], p3.trans x, fun b hb => p4 b (by simpa using hb)⟩, p5, p6⟩

structure PW (M B : Nat) (pv v : Value) where
 now : World
 c6 : now.cell? ⟨M, 6, none⟩ = some pv
 cB : now.cell? ⟨B, 1, none⟩ = some v

theorem th_append_wp (w : World) {o : Oper} {a : Act} {K : Act → World → Prop} {Q : Exit → Act → World → Prop} (s x : Operand)
  (ho : o.op = .call { callee := .builtin .append, args := #[s, x], argTypes := #[164, 164] }) (base n : Nat) (v : Value) (xs : List Value) (hs : a.eval s = v)
  (hown : w.ownsRow base 209 1 v n xs) (ad : Addr) (u : Value) (hx : a.eval x = .slice (some ad) 1 1)
  (hu : w.cell? ad = some u) (h1 : u.oneCell' = true) (hn : n < 10000000000000) (hbase : base ≤ w.heap.size)
  (h : ∀ g cap w', w'.ownsRow base 209 1 (.slice (some ⟨g, 0, none⟩) (n + 1) cap) (n + 1) (xs ++ [u]) → w.grownBy w' v.ownBlock → (v.ownBlock = some g ∨ g = w.heap.size) → g < w'.heap.size → K (a.put o.dst (.slice (some ⟨g, 0, none⟩) (n + 1) cap)) w') :
  o.wp Tryz.prog a w K Q := by
 obtain ⟨i, hi, hz0, hz1, hz2⟩ := info_parts th_info
 refine wp_append_lies w s x 164 ho base 209 i _ 1 8 Tryz.underlying164 hi hz0 hz1 hz2 rfl (by omega) v n xs hs hown ad 1 1 [u] hx rfl ?_ ?_ (by omega) (by simp [maxLen]; omega) (by omega) hbase _ rfl h
 ·intro j u' hu'
  match j, hu' with
  | 0, hu' => simp at hu'; subst hu'; simpa [Addr.add] using hu
  | j + 1, hu' => simp at hu'
 ·intro u' hu'; simp at hu'; subst hu'; exact h1

theorem thPtrs_none (r : List CE) (i : Nat) (e : CE) (h : r[i]? = some e) (h2 : e.2 = none) : thPtrs (r.take (i + 1)) = thPtrs (r.take i) := by
 rw [List.take_add_one, h]
 unfold thPtrs
 simp [h2]
theorem thPtrs_some (r : List CE) (i : Nat) (e : CE) (t : Th × List Int) (h : r[i]? = some e) (h2 : e.2 = some t) : thPtrs (r.take (i + 1)) = thPtrs (r.take i) ++ [.pointer (some ⟨t.1.1, 0, none⟩)] := by
 rw [List.take_add_one, h]
 unfold thPtrs
 simp [h2]

attribute [local go_sem] PW.c6 PW.cB

set_option maxRecDepth 1000000 in
set_option maxHeartbeats 4000000 in
theorem st_match (u7 u8 u9 u10 u11 u12 u13 u16 u17 u18 u19 u20 u21 u22 u23 u24 u25 u26 u27 u28 u29 u30 u31 u32 u33 u34 u35 u36 u37 u38 u39 u40 u41 u42 u43 u44 u45 u46 u47 u48 u49 u50 u51 u52 u53 u54 u55 u56 u57 u58 u59 u60 u61 u62 u63 u64 u65 u66 u67 u68 u69 u70 u71 u72 u73 u74 u75 u76 u77 u78 u79 u80 u81 u82 u83 u84 u85 u86 u87 u88 u89 u90 u91 u92 u93 u94 u95 u96 u97 u98 u99 u100 u101 u102 u103 u104 u105 u106 u107 u108 u109 u110 u111 u112 u113 u114 u115 u116 u117 u118 u119 u120 u121 u122 u123 u124 u125 u126 u127 u128 u129 u130 u131 u132 u133 u134 u135 u136 u137 u138 u139 u140 u141 u142 u143 u144 u145 u146 u147 u148 u149 u150 u151 u152 u153 u154 u155 u156 u157 u158 u159 u160 u161 u162 u163 u164 u165 u166 u167 u168 u169 u170 u171 u172 u173 u174 u175 u176 u177 u178 u179 u180 u181 u182 u183 u184 u185 u186 u187 u188 u189 u190 u191 u192 u193 u194 u195 u196 u197 u198 u199 u200 u201 u202 u203 u204 u205 u206 u207 u208 u209 u210 u211 u212 u213 u214 u215 u216 u217 u218 u219 u220 u221 u222 u223 u224 u225 u226 u227 u228 u229 u230 u231 u232 u233 u234 u235 u236 u237 u238 : Value) (M ro qo pos npos : Nat) (c : Int) (F j : Nat) (w : World) (Q : Exit → Act → World → Prop) (D m nq : Nat) (ml : List Value) (tM : TypeId) (hM : Blk w M ml tM) (hml : ml.length = 10) (hro : ro = 2 ∨ ro = 4) (hm1 : ml[ro + 1]? = some (.slice (some ⟨D, 0, none⟩) (j + 1 + m) nq)) (hnq : j + 1 + m < nq) (hnq2 : nq ≤ 1000000) (MC nc : Nat) (hm8 : ml[8]? = some (.slice (some ⟨MC, 0, none⟩) nc nc)) (v7 : Value) (hm7 : ml[7]? = some v7)
  (T C : Nat) (dl : List Value) (tD : TypeId) (hD : Blk w D dl tD) (hdT : dl[j * 2 + 1]? = some (.pointer (some ⟨T, 0, none⟩))) (r : List CE) (hr : r.length = m) (hdr : ∀ i e, r[i]? = some e → dl[(j + 1 + i) * 2]? = some (.int .u32 e.1) ∧ dl[(j + 1 + i) * 2 + 1]? = some (thPtr e.2))
  (N R PR I np : Nat) (pg : Nat → Inst) (hP : ProgAt w N R PR I np pg) (pc : Nat) (hp0 : 0 < pc) (hpc : pc < np) (hop : (pg pc).op = 4) (hT : Blk w T [.pointer (some ⟨I, pc * 4, none⟩), .slice (some ⟨C, 0, none⟩) nc nc] 212)
  (lc lm : List Value) (hC : Blk w C lc 3) (hMC : Blk w MC lm 3) (hlc : lc.length = nc) (hlm : lm.length = nc) (hnc : 2 ≤ nc) (hnc2 : nc < 1000) (hone : ∀ v ∈ lc, v.oneCell' = true)
  (base k : Nat) (pv : Value) (xs : List Value) (hm6 : ml[6]? = some pv) (hown : w.ownsRow base 209 1 pv k xs) (hk : k < 9000000000000) (hbase : base ≤ w.heap.size)
  (hap : M ≠ D ∧ M ≠ T ∧ M ≠ C ∧ M ≠ MC ∧ D ≠ T ∧ D ≠ C ∧ D ≠ MC ∧ T ≠ C ∧ T ≠ MC ∧ C ≠ MC) (hpb : ∀ b, pv.ownBlock = some b → b ≠ M ∧ b ≠ D ∧ b ≠ T ∧ b ≠ C ∧ b ≠ MC) (hQp : ∀ (c : List PanicEntry) (a : Act) (d : Option Tmp) (v : Value) (w : World), Q (.panic c) (a.put d v) w → Q (.panic c) a w) (hgo : ∀ a w2 pv2 k2, HF M ro qo pos npos c F (j + 1) a → Blk w2 M (((ml.set 6 pv2).set (ro + 1) (.slice (some ⟨D, 0, none⟩) 0 nq)).set 7 (.bool true)) tM → w2.ownsRow base 209 1 pv2 k2 (xs ++ thPtrs r ++ [.pointer (some ⟨T, 0, none⟩)]) → Blk w2 MC (lc.set 1 (.int .i64 pos)) 3 → Blk w2 C (lc.set 1 (.int .i64 pos)) 3 → (∃ X, Chg X w w2 ∧ ∀ b, b ∈ X → b = M ∨ b = C ∨ b = MC ∨ pv.ownBlock = some b) → (pv2.ownBlock = pv.ownBlock ∨ ∀ b, pv2.ownBlock = some b → w.heap.size ≤ b) → Q .normal a w2) : stBody.wp Tryz.prog Q ⟨#[.pointer (some ⟨M, 0, none⟩), .pointer (some ⟨M, ro, none⟩), .pointer (some ⟨M, qo, none⟩), .int .i64 pos, .int .i64 npos, .int .i32 c, .pointer (some ⟨F, 0, none⟩), u7, u8, u9, u10, u11, u12, u13, .bool false, .int .i64 j, u16, u17, u18, u19, u20, u21, u22, u23, u24, u25, u26, u27, u28, u29, u30, u31, u32, u33, u34, u35, u36, u37, u38, u39, u40, u41, u42, u43, u44, u45, u46, u47, u48, u49, u50, u51, u52, u53, u54, u55, u56, u57, u58, u59, u60, u61, u62, u63, u64, u65, u66, u67, u68, u69, u70, u71, u72, u73, u74, u75, u76, u77, u78, u79, u80, u81, u82, u83, u84, u85, u86, u87, u88, u89, u90, u91, u92, u93, u94, u95, u96, u97, u98, u99, u100, u101, u102, u103, u104, u105, u106, u107, u108, u109, u110, u111, u112, u113, u114, u115, u116, u117, u118, u119, u120, u121, u122, u123, u124, u125, u126, u127, u128, u129, u130, u131, u132, u133, u134, u135, u136, u137, u138, u139, u140, u141, u142, u143, u144, u145, u146, u147, u148, u149, u150, u151, u152, u153, u154, u155, u156, u157, u158, u159, u160, u161, u162, u163, u164, u165, u166, u167, u168, u169, u170, u171, u172, u173, u174, u175, u176, u177, u178, u179, u180, u181, u182, u183, u184, u185, u186, u187, u188, u189, u190, u191, u192, u193, u194, u195, u196, u197, u198, u199, u200, u201, u202, u203, u204, u205, u206, u207, u208, u209, u210, u211, u212, u213, u214, u215, u216, u217, u218, u219, u220, u221, u222, u223, u224, u225, u226, u227, u228, u229, u230, u231, u232, u233, u234, u235, u236, u237, u238], []⟩ w := by
 conv => arg 2; whnf
 have hj' : (j : Int) < ((j : Int) + 1 + (m : Int)) := by omega
 have hPlt := hP.lt
 have hPle := hP.le
 have hIl : I < w.heap.size := by omega
 have hopi := hP.op pc hp0 hpc
 rw [hop] at hopi
 have hnqne : ¬ nq = j + 1 := by omega
 have hncp : (0 : Int) < (nc : Int) := by omega
 have hnc1 : (1 : Int) < (nc : Int) := by omega
 have h1 : w.cell? ⟨M, ro + 1, none⟩ = some (.slice (some ⟨D, 0, none⟩) (j + 1 + m) nq) := (hM.cell _).trans hm1
 have hDj : w.cell? ⟨D, j * 2 + 1, none⟩ = some (.pointer (some ⟨T, 0, none⟩)) := (hD.cell _).trans hdT
 have HG := Lib.hid hgo
 have HO := Lib.hid hown
 have HM := Lib.hid hM
 have HD := Lib.hid hD
 have HR := Lib.hid hdr
 have HC := Lib.hid hC
 have HMC := Lib.hid hMC
 have HT := Lib.hid hT
 have HON := Lib.hid hone
 have HLC := Lib.hid hlc
 have HLM := Lib.hid hlm
 have HPB := Lib.hid hpb
 have HRO := Lib.hid hro
 clear hro
 clear hgo hown hM hD hdr hC hMC hT hone hlc hlm hpb hP
 go_wp2_with fail
 refine wp_region_ext rfl (by kernel_rfl) ?_
 refine quiet_move _ rfl (by kernel_rfl) _ rfl ?_
 simp only [Act.put, List.setIfInBounds_toArray, List.set_cons_succ, List.set_cons_zero]
 refine quiet_move _ rfl (by kernel_rfl) _ rfl ?_
 simp only [Act.put, List.setIfInBounds_toArray, List.set_cons_succ, List.set_cons_zero]
 refine quiet_out (by kernel_rfl) ?_
 simp only [Act.put, List.setIfInBounds_toArray, List.set_cons_succ, List.set_cons_zero]
 refine quiet_out (by kernel_rfl) ?_
 simp only [Act.put, List.setIfInBounds_toArray, List.set_cons_succ, List.set_cons_zero]
 refine quiet_out (by kernel_rfl) ?_
 simp only [Act.put, List.setIfInBounds_toArray, List.set_cons_succ, List.set_cons_zero]
 refine quiet_out (by kernel_rfl) ?_
 simp only [Act.put, List.setIfInBounds_toArray, List.set_cons_succ, List.set_cons_zero]
 refine quiet_pick_no _ _ _ rfl (by kernel_rfl) rfl _ rfl ?_
 simp only [Act.put, List.setIfInBounds_toArray, List.set_cons_succ, List.set_cons_zero]
 refine quiet_move _ rfl (by kernel_rfl) _ rfl ?_
 simp only [Act.put, List.setIfInBounds_toArray, List.set_cons_succ, List.set_cons_zero]
 refine quiet_out (by kernel_rfl) ?_
 simp only [Act.put, List.setIfInBounds_toArray, List.set_cons_succ, List.set_cons_zero]
 refine quiet_out (by kernel_rfl) ?_
 simp only [Act.put, List.setIfInBounds_toArray, List.set_cons_succ, List.set_cons_zero]
 refine quiet_out (by kernel_rfl) ?_
 simp only [Act.put, List.setIfInBounds_toArray, List.set_cons_succ, List.set_cons_zero]
 refine quiet_out (by kernel_rfl) ?_
 simp only [Act.put, List.setIfInBounds_toArray, List.set_cons_succ, List.set_cons_zero]
 refine quiet_out (by kernel_rfl) ?_
 simp only [Act.put, List.setIfInBounds_toArray, List.set_cons_succ, List.set_cons_zero]
 refine quiet_out (by kernel_rfl) ?_
 simp only [Act.put, List.setIfInBounds_toArray, List.set_cons_succ, List.set_cons_zero]
 refine quiet_pick_no _ _ _ rfl (by kernel_rfl) rfl _ rfl ?_
 simp only [Act.put, List.setIfInBounds_toArray, List.set_cons_succ, List.set_cons_zero]
 refine quiet_move _ rfl (by kernel_rfl) _ rfl ?_
 simp only [Act.put, List.setIfInBounds_toArray, List.set_cons_succ, List.set_cons_zero]
 refine quiet_out (by kernel_rfl) ?_
 simp only [Act.put, List.setIfInBounds_toArray, List.set_cons_succ, List.set_cons_zero]
 refine quiet_out (by kernel_rfl) ?_
 simp only [Act.put, List.setIfInBounds_toArray, List.set_cons_succ, List.set_cons_zero]
 refine quiet_out (by kernel_rfl) ?_
 simp only [Act.put, List.setIfInBounds_toArray, List.set_cons_succ, List.set_cons_zero]
 refine quiet_out (by kernel_rfl) ?_
 simp only [Act.put, List.setIfInBounds_toArray, List.set_cons_succ, List.set_cons_zero]
 refine quiet_out (by kernel_rfl) ?_
 simp only [Act.put, List.setIfInBounds_toArray, List.set_cons_succ, List.set_cons_zero]
 refine quiet_out (by kernel_rfl) ?_
 simp only [Act.put, List.setIfInBounds_toArray, List.set_cons_succ, List.set_cons_zero]
 refine quiet_out (by kernel_rfl) ?_
 simp only [Act.put, List.setIfInBounds_toArray, List.set_cons_succ, List.set_cons_zero]
 refine quiet_out (by kernel_rfl) ?_
 simp only [Act.put, List.setIfInBounds_toArray, List.set_cons_succ, List.set_cons_zero]
 refine quiet_out (by kernel_rfl) ?_
 simp only [Act.put, List.setIfInBounds_toArray, List.set_cons_succ, List.set_cons_zero]
 refine quiet_out (by kernel_rfl) ?_
 simp only [Act.put, List.setIfInBounds_toArray, List.set_cons_succ, List.set_cons_zero]
 refine quiet_out (by kernel_rfl) ?_
 simp only [Act.put, List.setIfInBounds_toArray, List.set_cons_succ, List.set_cons_zero]
 refine quiet_out (by kernel_rfl) ?_
 simp only [Act.put, List.setIfInBounds_toArray, List.set_cons_succ, List.set_cons_zero]
 refine quiet_out (by kernel_rfl) ?_
 simp only [Act.put, List.setIfInBounds_toArray, List.set_cons_succ, List.set_cons_zero]
 refine quiet_pick_no _ _ _ rfl (by kernel_rfl) rfl _ rfl ?_
 simp only [Act.put, List.setIfInBounds_toArray, List.set_cons_succ, List.set_cons_zero]
 refine wpQuiet_nil ?_
 rintro w' ⟨y, rfl⟩
 have cy := Chg.of_below y.below
 have t0 : y.now.cell? ⟨T, 0, none⟩ = some (.pointer (some ⟨I, pc * 4, none⟩)) := ((HT.out.chg cy (by simp)).cell 0).trans rfl
 have t1 : y.now.cell? ⟨T, 1, none⟩ = some (.slice (some ⟨C, 0, none⟩) nc nc) := ((HT.out.chg cy (by simp)).cell 1).trans rfl
 have bC := HC.out.chg cy (by simp)
 have bMC := HMC.out.chg cy (by simp)
 have bM := HM.out.chg cy (by simp)
 have m8 : y.now.cell? ⟨M, 8, none⟩ = some (.slice (some ⟨MC, 0, none⟩) nc nc) := (bM.cell 8).trans hm8
 obtain ⟨vc, hvc⟩ : ∃ v, lc[1]? = some v := ⟨_, List.getElem?_eq_getElem (by have := HLC.out; omega)⟩
 have c1 : y.now.cell? ⟨C, 1, none⟩ = some vc := (bC.cell 1).trans hvc
 have fc1 := bC.free 1
 have hCl := bC.lt
 have B1 := Lib.hid bC
 have B2 := Lib.hid bMC
 have B3 := Lib.hid bM
 clear bC bMC bM cy hvc
 go_wp2_with fail
 obtain ⟨h1', h2', h3', h4', h5', h6', h7', h8', h9', h10'⟩ := hap
 obtain ⟨ws, hws⟩ : ∃ ws, ws = y.now.setCell ⟨C, 1, none⟩ (.int .i64 pos) := ⟨_, rfl⟩
 rw [← hws]
 have cs : Chg [C] y.now ws := by rw [hws]; exact Chg.set _ _ _ _
 have b8 : ws.cell? ⟨M, 8, none⟩ = some (.slice (some ⟨MC, 0, none⟩) nc nc) := ((B3.out.chg cs (by simpa using h3')).cell 8).trans hm8
 have bt1 : ws.cell? ⟨T, 1, none⟩ = some (.slice (some ⟨C, 0, none⟩) nc nc) := (((HT.out.chg (Chg.of_below y.below) (by simp)).chg cs (by simpa using h8')).cell 1).trans rfl
 have bC1 : Blk ws C (lc.set 1 (.int .i64 pos)) 3 := by rw [hws]; exact B1.out.set 1 _
 have bMC1 : Blk ws MC lm 3 := B2.out.chg cs (by simpa using Ne.symm h10')
 have hMs : M < ws.heap.size := (B3.out.chg cs (by simpa using h3')).lt
 have hTs : T < ws.heap.size := ((HT.out.chg (Chg.of_below y.below) (by simp)).chg cs (by simpa using h8')).lt
 have S1 := Lib.hid bC1
 have S2 := Lib.hid bMC1
 have S3 := Lib.hid cs
 clear hws cs bC1 bMC1 m8 t0 t1 c1 fc1
 refine wp_region_ext_tail 8 rfl (by kernel_rfl) ?_
 simp only [List.take_succ_cons, List.take_zero, List.drop_succ_cons, List.drop_zero]
 repeat (quiet_step (fail))
 refine wpQuiet_nil ?_
 rintro w' ⟨z, rfl⟩
 have cz := Chg.of_below z.below
 refine copy_blk rfl (.tmp 137) (.tmp 141) rfl MC C nc nc nc rfl rfl lm (lc.set 1 (.int .i64 pos)) 3 3 (S2.out.chg cz (by simp)) (S1.out.chg cz (by simp)) HLM.out (by simpa using HLC.out) (by
  intro v hv
  rcases List.mem_or_eq_of_mem_set hv with hv | rfl
  ·exact HON.out v hv
  ·rfl) ?_
 intro w3 k1 k2
 have cA : Chg [C, MC] w w3 := ((((Chg.of_below y.below).trans S3.out).trans cz).trans k2).mono (fun b hb _ => by simpa using hb)
 have bM3 := HM.out.chg cA (by simp; exact ⟨h3', h4'⟩)
 have bD3 := HD.out.chg cA (by simp; exact ⟨h6', h7'⟩)
 have bC3 := (S1.out.chg cz (by simp)).chg k2 (by simpa using h10')
 have own3 := own_chg HO.out cA (fun b hb => by have := HPB.out b hb; simp; omega)
 have a1 : w3.cell? ⟨M, ro + 1, none⟩ = some (.slice (some ⟨D, 0, none⟩) (j + 1 + m) nq) := (bM3.cell _).trans hm1
 have U1 := Lib.hid k1
 have U2 := Lib.hid cA
 have U3 := Lib.hid bM3
 have U4 := Lib.hid bD3
 have U5 := Lib.hid own3
 have U6 := Lib.hid bC3
 clear k1 k2 cA bM3 bD3 own3 bC3 cz
 go_wp2_with fail
 have hP0 : Poured M base k pv ml tM xs w3 r 0 w3 := by
  refine ⟨pv, k, ?_, by simpa [thPtrs] using U5.out, ⟨[], Chg.refl _, fun b hb => by cases hb⟩, .inl rfl, by omega⟩
  have e : ml.set 6 pv = ml := by
   apply List.ext_getElem?
   intro i
   by_cases hi : i = 6
   ·subst hi; rw [List.getElem?_set_self (by omega), hm6]
   ·rw [List.getElem?_set_ne (Ne.symm hi)]
  rw [e]; exact U3.out
 have HP0 := Lib.hid hP0
 clear hP0 a1
 go_loopw [153] (fun t wr => ∃ i : Nat, i ≤ m ∧ t = .int .i64 i ∧ Poured M base k pv ml tM xs w3 r i wr) (fun t _ => m - (intOf t).toNat)
 case atStart => exact ⟨0, Nat.zero_le _, rfl, HP0.out⟩
 case round =>
  obtain ⟨i, hi, rfl, hpo⟩ := hrel
  have HPO := Lib.hid hpo
  obtain ⟨pv2, k2, p1, p2, ⟨X, p3, p4⟩, p5, p6⟩ := hpo
  have hDX : D ∉ X := fun h => by
   rcases p4 D h with h | h
   ·omega
   ·exact (HPB.out D h).2.1 rfl
  have bD := U4.out.chg p3 hDX
  by_cases hlt : i < m
  ·have hlt' : (i : Int) < (m : Int) := by omega
   obtain ⟨e, he⟩ : ∃ e, r[i]? = some e := ⟨_, List.getElem?_eq_getElem (by omega)⟩
   obtain ⟨g1, g2⟩ := HR.out i e he
   have e1 : wr.cell? ⟨D, (j + 1) * 2 + i * 2, none⟩ = some (.int .u32 e.1) := by rw [bD.cell, ← g1]; congr 1; omega
   have e2 : wr.cell? ⟨D, (j + 1) * 2 + i * 2 + 1, none⟩ = some (thPtr e.2) := by rw [bD.cell, ← g2]; congr 1; omega
   have e3 := bD.lt
   have V1 := Lib.hid p1
   have V2 := Lib.hid p2
   have V3 := Lib.hid p3
   have V4 := Lib.hid p4
   have V5 := Lib.hid p5
   have V6 := Lib.hid g1
   have V7 := Lib.hid g2
   have V8 := Lib.hid he
   have V9 := Lib.hid bD
   clear p1 p2 p3 p4 p5 g1 g2 bD he
   cases ht : e.2 with
   | none =>
    rw [ht] at e2
    simp only [thPtr] at e2
    go_wp2_with fail
    refine ⟨⟨i + 1, by omega, by simp, ?_⟩, by simp [intOf]; omega⟩
    have hp := HPO.out.ext (Chg.alloc wr (Obj.cells #[Value.int IntKind.u32 (e.1 : Int), Value.pointer none] 239))
    obtain ⟨pv2', k2', q1, q2, q3, q4, q5⟩ := hp
    exact ⟨pv2', k2', q1, by rw [thPtrs_none r i e V8.out ht]; exact q2, q3, q4, by omega⟩
   | some t =>
    rw [ht] at e2
    simp only [thPtr] at e2
    go_wp2_with fail
    obtain ⟨wa, hwa⟩ : ∃ wa, wa = wr.alloc (Obj.cells #[Value.int IntKind.u32 (e.1 : Int), Value.pointer (some ⟨t.1.1, 0, none⟩)] 239) := ⟨_, rfl⟩
    obtain ⟨BV, hBV⟩ : ∃ BV, wr.heap.size = BV := ⟨_, rfl⟩
    have ca : Chg [] wr wa := by rw [hwa]; exact Chg.alloc _ _
    have bBV : Blk wa BV [.int .u32 (e.1 : Int), .pointer (some ⟨t.1.1, 0, none⟩)] 239 := by rw [hwa, ← hBV]; exact Blk.new _ _ _
    rw [← hwa, hBV]
    have bM6 := V1.out.chg ca (by simp)
    have c6 : wa.cell? ⟨M, 6, none⟩ = some pv2 := by rw [bM6.cell, List.getElem?_set_self (by omega)]
    have hMa := bM6.lt
    have hMBV : M ≠ BV := by have := V1.out.lt; omega
    have cB : wa.cell? ⟨BV, 1, none⟩ = some (.pointer (some ⟨t.1.1, 0, none⟩)) := (bBV.cell 1).trans rfl
    have ownA := own_chg V2.out ca (fun b _ => by simp)
    have hBVl := bBV.lt
    have W1 := Lib.hid bM6
    have W2 := Lib.hid ca
    have W3 := Lib.hid ownA
    clear hwa ca bBV bM6 ownA
    have hne : Nonempty (PW M BV pv2 (.pointer (some ⟨t.1.1, 0, none⟩))) := ⟨⟨wa.drew, c6, cB⟩⟩
    refine wp_region_plan 9 [(0, false), (1, false), (2, false), (3, false), (4, false), (5, false), (6, false), (7, true), (8, true)] (fun w' => ∃ x : PW M BV pv2 (.pointer (some ⟨t.1.1, 0, none⟩)), w' = x.now)
     (by kernel_rfl) (by kernel_rfl) (fun c a d v w h => hQp c a d v w h) ⟨⟨wa.drew, c6, cB⟩, rfl⟩ ?_
    refine plan_read rfl (fun K hK => ?_); go_simp; refine hK _ ?_; clear hK K
    refine plan_read rfl (fun K hK => ?_); go_simp; refine hK _ ?_; clear hK K
    refine plan_read rfl (fun K hK => ?_); go_simp; refine hK _ ?_; clear hK K
    refine plan_read rfl (fun K hK => ?_); go_simp; refine hK _ ?_; clear hK K
    refine plan_read rfl (fun K hK => ?_); go_simp; refine hK _ ?_; clear hK K
    refine plan_read rfl (fun K hK => ?_); go_simp; refine hK _ ?_; clear hK K
    refine plan_read rfl (fun K hK => ?_); go_simp; refine hK _ ?_; clear hK K
    refine plan_step rfl (fun K hK => ?_); go_simp
    obtain ⟨wb, hwb⟩ : ∃ wb, wb = (wa.alloc (Obj.cells #[Value.pointer (some ⟨t.1.1, 0, none⟩)] 209)).drew := ⟨_, rfl⟩
    rw [← hwb]
    have cb : Chg [] wa wb := by rw [hwb]; exact (Chg.alloc _ _).trans (Chg.drew _)
    have bZ : Blk wb wa.heap.size [.pointer (some ⟨t.1.1, 0, none⟩)] 209 := by rw [hwb]; exact (Blk.new wa [.pointer (some ⟨t.1.1, 0, none⟩)] 209).drew
    obtain ⟨Z, hZ⟩ : ∃ Z, wa.heap.size = Z := ⟨_, rfl⟩
    have bM7 := W1.out.chg cb (by simp)
    have c6b : wb.cell? ⟨M, 6, none⟩ = some pv2 := by rw [bM7.cell, List.getElem?_set_self (by omega)]
    have cBb : wb.cell? ⟨BV, 1, none⟩ = some (.pointer (some ⟨t.1.1, 0, none⟩)) := by rw [World.cell?_of_block (cb.block BV hBVl (by simp))]; exact cB
    have ownB := own_chg W3.out cb (fun b _ => by simp)
    refine hK _ _ ⟨⟨wb, c6b, cBb⟩, rfl⟩ ?_
    clear hK K hwb
    rw [hZ] at bZ ⊢
    have hV5 := V5.out
    have hV4 := V4.out
    have hpvM : pv2.ownBlock ≠ some M := by
     rcases hV5 with h | h
     ·rw [h]; exact fun hh => (HPB.out M hh).1 rfl
     ·intro hh
      have h1 := h M hh
      have h2 := U3.out.lt
      omega
    have hpvB : pv2.ownBlock ≠ some BV := by
     intro hh
     rcases V2.out.2 with ⟨h, _⟩ | ⟨g, cap, cur, hv, _, hg, _⟩
     ·rw [h] at hh; simp [Value.ownBlock] at hh
     ·rw [hv] at hh
      simp [Value.ownBlock] at hh
      have := (Array.getElem?_eq_some_iff.1 hg).1
      omega
    have hbz : base ≤ wb.heap.size := by
     have h1 := U2.out.size
     have h2 := V3.out.size
     have h3 := W2.out.size
     have h4 := cb.size
     omega
    refine plan_step rfl (fun K hK => ?_)
    rw [if_pos (by rfl)]
    refine th_append_wp wb (.tmp 164) (.tmp 167) rfl base k2 pv2 _ rfl ownB ⟨Z, 0, none⟩ (.pointer (some ⟨t.1.1, 0, none⟩)) rfl ((bZ.cell 0).trans rfl) rfl (by omega) hbz ?_
    intro g cap wc o1 o2 o3 o4
    have cc : Chg (pv2.ownBlock.toList) wb wc := ⟨o2.os, o2.tape, o2.output, o2.size, fun b hb hn => o2.block b hb (fun e => hn (by rw [← e]; simp))⟩
    have bM8 := bM7.chg cc (fun h => by simp at h; exact hpvM h)
    have c6c : wc.cell? ⟨M, 6, none⟩ = some pv2 := by rw [bM8.cell, List.getElem?_set_self (by omega)]
    have f6c := bM8.free 6
    have hMc := bM8.lt
    have cBc : wc.cell? ⟨BV, 1, none⟩ = some (.pointer (some ⟨t.1.1, 0, none⟩)) := by rw [World.cell?_of_block (cc.block BV (by have := cb.size; omega) (fun h => by simp at h; exact hpvB h))]; exact cBb
    refine hK _ _ ⟨⟨wc, c6c, cBc⟩, rfl⟩ ?_
    clear hK K
    refine plan_nil ?_
    simp only [List.drop_succ_cons, List.drop_zero]
    dsimp only [List.getElem_toArray, List.getElem_cons_succ, List.getElem_cons_zero]
    have Y1 := Lib.hid o1
    have Y2 := Lib.hid cc
    have Y3 := Lib.hid bM8
    have Y4 := Lib.hid cb
    have Y5 := Lib.hid o3
    clear o1 o2 o3 cc bM7 bM8 cb ownB hV5 hV4 bZ
    go_wp2_with fail
    refine ⟨⟨i + 1, by omega, by simp, ?_⟩, by simp [intOf]; omega⟩
    have hgM : g ≠ M := by
     rcases Y5.out with h | h
     ·intro e; subst e; exact hpvM h
     ·have h1 := Y4.out.size
      omega
    have hs1 := V3.out.size
    have hs2 := W2.out.size
    have hs3 := Y4.out.size
    refine ⟨.slice (some ⟨g, 0, none⟩) (k2 + 1) cap, k2 + 1, ?_, ?_, ⟨[M] ++ pv.ownBlock.toList, ?_, ?_⟩, ?_, by omega⟩
    ·have := Y3.out.set 6 (.slice (some ⟨g, 0, none⟩) (k2 + 1) cap)
     rw [List.set_set] at this
     exact this
    ·have := own_chg Y1.out (Chg.set wc M 6 (.slice (some ⟨g, 0, none⟩) (k2 + 1) cap)) (fun b hb => by simp [Value.ownBlock] at hb; subst hb; simpa using hgM)
     rw [thPtrs_some r i e t V8.out ht, ← List.append_assoc]
     exact this
    ·refine ((((V3.out.trans W2.out).trans Y4.out).trans Y2.out).trans (Chg.set wc M 6 _)).mono ?_
     intro b hb hlt
     simp only [List.append_nil, List.mem_append, List.mem_singleton] at hb ⊢
     rcases hb with (hb | hb) | hb
     ·rcases V4.out b hb with h | h
      ·exact .inl h
      ·exact .inr (by rw [h]; simp)
     ·rcases V5.out with h | h
      ·exact .inr (by rw [← h]; exact hb)
      ·have := h b (by simpa using hb)
       omega
     ·exact .inl hb
    ·intro b hb
     simp at hb
     exact hb
    ·rcases Y5.out with h | h
     ·rcases V5.out with h' | h'
      ·exact .inl (by rw [← h', h]; rfl)
      ·exact .inr (fun b hb => by simp [Value.ownBlock] at hb; subst hb; exact h' g h)
     ·exact .inr (fun b hb => by simp [Value.ownBlock] at hb; omega)
  ·have hie : i = m := by omega
   subst hie
   have hlt' : ¬ ((i : Int) < (i : Int)) := by omega
   have hro10 : ro + 1 < 10 ∧ ro + 1 ≠ 6 ∧ ro + 1 ≠ 7 ∧ ro + 1 ≠ 8 := by have := HRO.out; omega
   have a1 : wr.cell? ⟨M, ro + 1, none⟩ = some (.slice (some ⟨D, 0, none⟩) (j + 1 + i) nq) := by rw [p1.cell, List.getElem?_set_ne (by omega)]; exact hm1
   have a1f := p1.free (ro + 1)
   have hMr := p1.lt
   have b1 := p1.set (ro + 1) (.slice (some ⟨D, 0, none⟩) 0 nq)
   have b7 : (wr.setCell ⟨M, ro + 1, none⟩ (.slice (some ⟨D, 0, none⟩) 0 nq)).cell? ⟨M, 7, none⟩ = some v7 := by rw [b1.cell, List.getElem?_set_ne (by omega), List.getElem?_set_ne (by omega)]; exact hm7
   have b7f := b1.free 7
   have b2 := b1.set 7 (.bool true)
   have b6 : ((wr.setCell ⟨M, ro + 1, none⟩ (.slice (some ⟨D, 0, none⟩) 0 nq)).setCell ⟨M, 7, none⟩ (.bool true)).cell? ⟨M, 6, none⟩ = some pv2 := by
    rw [b2.cell, List.getElem?_set_ne (by omega), List.getElem?_set_ne (by omega), List.getElem?_set_self (by omega)]
   have b6f := b2.free 6
   obtain ⟨wd, hwd⟩ : ∃ wd, wd = (wr.setCell ⟨M, ro + 1, none⟩ (.slice (some ⟨D, 0, none⟩) 0 nq)).setCell ⟨M, 7, none⟩ (.bool true) := ⟨_, rfl⟩
   have cd : Chg [M] wr wd := by rw [hwd]; exact ((Chg.set wr M _ _).trans (Chg.set _ M _ _)).mono (fun b hb _ => by simpa using hb)
   have V3 := Lib.hid p3
   have V4 := Lib.hid p4
   have V5 := Lib.hid p5
   have V2 := Lib.hid p2
   have W0 := Lib.hid b2
   have WD := Lib.hid hwd
   have WC := Lib.hid cd
   have hds : wd.heap.size = wr.heap.size := by rw [hwd]; simp [World.setCell]
   have ceA : Chg [] wd (wd.alloc (Obj.cells #[Value.pointer (some ⟨T, 0, none⟩)] 209)) := Chg.alloc _ _
   have ownE := own_chg (own_chg p2 cd (fun b hb hm => by
    simp at hm; subst hm
    rcases p5 with h | h
    ·rw [h] at hb; exact (HPB.out b hb).1 rfl
    ·have h1 := h b hb
     have h2 := U3.out.lt
     omega)) ceA (fun b _ => by simp)
   have hZc : (wd.alloc (Obj.cells #[Value.pointer (some ⟨T, 0, none⟩)] 209)).cell? ⟨wr.heap.size, 0, none⟩ = some (.pointer (some ⟨T, 0, none⟩)) := by
    rw [← hds]; exact ((Blk.new wd [.pointer (some ⟨T, 0, none⟩)] 209).cell 0).trans rfl
   have hbE : base ≤ (wd.alloc (Obj.cells #[Value.pointer (some ⟨T, 0, none⟩)] 209)).heap.size := by
    have h1 := U2.out.size
    have h2 := p3.size
    simp
    omega
   rw [hwd] at ownE hZc hbE
   have bE := b2.alloc (Obj.cells #[Value.pointer (some ⟨T, 0, none⟩)] 209)
   have BE := Lib.hid bE
   have CEA := Lib.hid ceA
   have HDS := Lib.hid hds
   clear p1 p2 p3 p4 p5 b1 b2 hwd cd bD ceA bE hds
   go_wp2_with (at_builtin; refine th_append _ rfl _ _ rfl base k2 pv2 _ rfl ownE ⟨wr.heap.size, 0, none⟩ (.pointer (some ⟨T, 0, none⟩)) rfl hZc rfl (by omega) hbE ?_)
   intro g cap w1 o1 o2 o3 o4
   have hs1 := V3.out.size
   have hs2 := U2.out.size
   have hpvM : pv2.ownBlock ≠ some M := by
    rcases V5.out with h | h
    ·rw [h]; exact fun hh => (HPB.out M hh).1 rfl
    ·intro hh
     have h1 := h M hh
     have h2 := U3.out.lt
     omega
   have cc : Chg (pv2.ownBlock.toList) _ w1 := ⟨o2.os, o2.tape, o2.output, o2.size, fun b hb hn => o2.block b hb (fun e => hn (by rw [← e]; simp))⟩
   have bM8 := BE.out.chg cc (fun h => by simp at h; exact hpvM h)
   have c6c : w1.cell? ⟨M, 6, none⟩ = some pv2 := by rw [bM8.cell, List.getElem?_set_ne (by omega), List.getElem?_set_ne (by omega), List.getElem?_set_self (by omega)]
   have f6c := bM8.free 6
   have hMc := bM8.lt
   have hgM : g ≠ M := by
    rcases o3 with h | h
    ·intro e; subst e; exact hpvM h
    ·(try simp at h); omega
   have cw : Chg [M] wr (wr.setCell ⟨M, ro + 1, none⟩ (.slice (some ⟨D, 0, none⟩) 0 nq) |>.setCell ⟨M, 7, none⟩ (.bool true)) := by rw [← WD.out]; exact WC.out
   have Y1 := Lib.hid o1
   have Y2 := Lib.hid ((cw.trans (Chg.alloc _ _)).trans cc)
   have Y3 := Lib.hid bM8
   have Y5 := Lib.hid o3
   clear o1 o2 o3 cc bM8 cw ownE hZc
   go_wp2_with fail
   have hst : Chg [M] w1 (w1.setCell ⟨M, 6, none⟩ (.slice (some ⟨g, 0, none⟩) (k2 + 1) cap)) := Chg.set _ _ _ _
   refine HG.out _ _ (.slice (some ⟨g, 0, none⟩) (k2 + 1) cap) (k2 + 1) (by constructor <;> rfl) ?_ ?_ ?_ ?_ ⟨[M, C, MC] ++ pv.ownBlock.toList, ?_, ?_⟩ ?_
   ·have := Y3.out.set 6 (.slice (some ⟨g, 0, none⟩) (k2 + 1) cap)
    rw [List.set_comm _ _ (show (7 : Nat) ≠ 6 by omega), List.set_comm _ _ (show ro + 1 ≠ 6 by omega), List.set_set] at this
    exact this
   ·have := own_chg Y1.out hst (fun b hb => by simp [Value.ownBlock] at hb; subst hb; simpa using hgM)
    have e : List.take i r = r := List.take_of_length_le (by omega)
    rw [e, ← List.append_assoc] at this
    exact this
   ·refine (((U1.out.chg V3.out ?_).chg Y2.out ?_).chg hst (by simpa using Ne.symm h4'))
    ·intro h
     rcases V4.out _ h with h | h
     ·omega
     ·exact (HPB.out _ h).2.2.2.2 rfl
    ·intro h
     simp only [List.append_nil, List.mem_append, List.mem_singleton] at h
     rcases h with h | h
     ·omega
     ·simp at h
      rcases V5.out with h' | h'
      ·rw [h'] at h; exact (HPB.out _ h).2.2.2.2 rfl
      ·have := h' _ h
       have := U1.out.lt
       omega
   ·refine (((U6.out.chg V3.out ?_).chg Y2.out ?_).chg hst (by simpa using Ne.symm h3'))
    ·intro h
     rcases V4.out _ h with h | h
     ·omega
     ·exact (HPB.out _ h).2.2.2.1 rfl
    ·intro h
     simp only [List.append_nil, List.mem_append, List.mem_singleton] at h
     rcases h with h | h
     ·omega
     ·simp at h
      rcases V5.out with h' | h'
      ·rw [h'] at h; exact (HPB.out _ h).2.2.2.1 rfl
      ·have := h' _ h
       have := U6.out.lt
       omega
   ·refine (((U2.out.trans V3.out).trans Y2.out).trans hst).mono ?_
    intro b hb hlt
    simp only [List.append_nil, List.mem_append, List.mem_cons, List.mem_singleton, List.not_mem_nil, or_false] at hb ⊢
    rcases hb with ((hb | hb) | hb | hb) | hb
    ·exact .inl (.inr hb)
    ·rcases V4.out b hb with h | h
     ·exact .inl (.inl h)
     ·exact .inr (by rw [h]; simp)
    ·exact .inl (.inl hb)
    ·rcases V5.out with h | h
     ·exact .inr (by rw [← h]; exact hb)
     ·have := h b (by simpa using hb)
      omega
    ·exact .inl (.inl hb)
   ·intro b hb
    simp at hb
    rcases hb with h | h | h | h
    ·exact .inl h
    ·exact .inr (.inl h)
    ·exact .inr (.inr (.inl h))
    ·exact .inr (.inr (.inr h))
   ·rcases Y5.out with h | h
    ·rcases V5.out with h' | h'
     ·exact .inl (by rw [← h', h]; rfl)
     ·refine .inr (fun b hb => ?_)
      simp [Value.ownBlock] at hb; subst hb
      have := h' g h
      omega
    ·refine .inr (fun b hb => ?_)
     simp [Value.ownBlock] at hb
     (try simp at h)
     omega


end Go.Proofs.YtkbmigfkclnlaaaGreatDoor
namespace Go.Proofs.YtkbmigfkclnlaaaGreatDoor
open Go.RowKit Go.Rx

set_option maxRecDepth 1000000 in
theorem st_end_f {a : Act} (M ro qo pos npos : Nat) (c : Int) (F j : Nat) (w : World) (Q : Exit → Act → World → Prop) (D n nq : Nat) (h1 : w.cell? ⟨M, ro + 1, none⟩ = some (.slice (some ⟨D, 0, none⟩) n nq)) (hnq : n ≤ 1000000) (hj : n ≤ j) (hgo : ∀ a, HF M ro qo pos npos c F j a → Q (.exit 0) a w)
  (hfr : HF M ro qo pos npos c F j a) : stBody.wp Tryz.prog Q a w := by
 have e := hf_lit hfr
 exact Eq.mpr (congrArg (fun x => stBody.wp Tryz.prog Q x w) e) (st_end _ _ _ _ _ _ _ _ _ _ _ _ _ _ _ _ _ _ _ _ _ _ _ _ _ _ _ _ _ _ _ _ _ _ _ _ _ _ _ _ _ _ _ _ _ _ _ _ _ _ _ _ _ _ _ _ _ _ _ _ _ _ _ _ _ _ _ _ _ _ _ _ _ _ _ _ _ _ _ _ _ _ _ _ _ _ _ _ _ _ _ _ _ _ _ _ _ _ _ _ _ _ _ _ _ _ _ _ _ _ _ _ _ _ _ _ _ _ _ _ _ _ _ _ _ _ _ _ _ _ _ _ _ _ _ _ _ _ _ _ _ _ _ _ _ _ _ _ _ _ _ _ _ _ _ _ _ _ _ _ _ _ _ _ _ _ _ _ _ _ _ _ _ _ _ _ _ _ _ _ _ _ _ _ _ _ _ _ _ _ _ _ _ _ _ _ _ _ _ _ _ _ _ _ _ _ _ _ _ _ _ _ _ _ _ _ _ _ _ _ _ _ _ _ _ _ _ _ _ _ M ro qo pos npos c F j w Q D n nq h1 hnq hj hgo)

set_option maxRecDepth 1000000 in
theorem st_nil_f {a : Act} (M ro qo pos npos : Nat) (c : Int) (F j : Nat) (w : World) (Q : Exit → Act → World → Prop) (D n nq : Nat) (h1 : w.cell? ⟨M, ro + 1, none⟩ = some (.slice (some ⟨D, 0, none⟩) n nq)) (hnq : n ≤ 1000000) (hj : j < n) (hD : w.cell? ⟨D, j * 2 + 1, none⟩ = some (.pointer none)) (hgo : ∀ a, HF M ro qo pos npos c F (j + 1) a → Q .normal a w)
  (hfr : HF M ro qo pos npos c F j a) : stBody.wp Tryz.prog Q a w := by
 have e := hf_lit hfr
 exact Eq.mpr (congrArg (fun x => stBody.wp Tryz.prog Q x w) e) (st_nil _ _ _ _ _ _ _ _ _ _ _ _ _ _ _ _ _ _ _ _ _ _ _ _ _ _ _ _ _ _ _ _ _ _ _ _ _ _ _ _ _ _ _ _ _ _ _ _ _ _ _ _ _ _ _ _ _ _ _ _ _ _ _ _ _ _ _ _ _ _ _ _ _ _ _ _ _ _ _ _ _ _ _ _ _ _ _ _ _ _ _ _ _ _ _ _ _ _ _ _ _ _ _ _ _ _ _ _ _ _ _ _ _ _ _ _ _ _ _ _ _ _ _ _ _ _ _ _ _ _ _ _ _ _ _ _ _ _ _ _ _ _ _ _ _ _ _ _ _ _ _ _ _ _ _ _ _ _ _ _ _ _ _ _ _ _ _ _ _ _ _ _ _ _ _ _ _ _ _ _ _ _ _ _ _ _ _ _ _ _ _ _ _ _ _ _ _ _ _ _ _ _ _ _ _ _ _ _ _ _ _ _ _ _ _ _ _ _ _ _ _ _ _ _ _ _ _ _ _ _ M ro qo pos npos c F j w Q D n nq h1 hnq hj hD hgo)

set_option maxRecDepth 1000000 in
theorem st_no7_f {a : Act} (M ro qo pos npos : Nat) (c : Int) (F j : Nat) (w : World) (Q : Exit → Act → World → Prop) (D n nq : Nat) (h1 : w.cell? ⟨M, ro + 1, none⟩ = some (.slice (some ⟨D, 0, none⟩) n nq)) (hnq : n ≤ 1000000) (T C nc : Nat) (hj : j < n) (hD : w.cell? ⟨D, j * 2 + 1, none⟩ = some (.pointer (some ⟨T, 0, none⟩))) (hDl : D < w.heap.size) (N R PR I np : Nat) (pg : Nat → Inst) (hP : ProgAt w N R PR I np pg) (pc : Nat) (hp0 : 0 < pc) (hpc : pc < np) (hT0 : w.cell? ⟨T, 0, none⟩ = some (.pointer (some ⟨I, pc * 4, none⟩))) (hT1 : w.cell? ⟨T, 1, none⟩ = some (.slice (some ⟨C, 0, none⟩) nc nc)) (hTl : T < w.heap.size) (hMl : M < w.heap.size) (hop : (pg pc).op = 7) (hmr : ∀ y : Ext w, Calls Tryz.prog 99 #[.pointer (some ⟨I, pc * 4, none⟩), .int .i32 c] y.now fun e w1 => e = .returned (.bool false) ∧ w1 = y.now) (base k : Nat) (pv : Value) (xs : List Value) (h6 : w.cell? ⟨M, 6, none⟩ = some pv) (f6 : w.frozen? ⟨M, 6, none⟩ = false) (hown : w.ownsRow base 209 1 pv k xs) (hk : k < 9990000000000) (hbase : base ≤ w.heap.size) (hpM : pv.ownBlock ≠ some M) (hgo : ∀ a g cap w1, HF M ro qo pos npos c F (j + 1) a → w1.ownsRow base 209 1 (.slice (some ⟨g, 0, none⟩) (k + 1) cap) (k + 1) (xs ++ [.pointer (some ⟨T, 0, none⟩)]) → (∃ y : Ext w, y.now.grownBy w1 pv.ownBlock) → (pv.ownBlock = some g ∨ w.heap.size ≤ g) → g < w1.heap.size → Q .normal a (w1.setCell ⟨M, 6, none⟩ (.slice (some ⟨g, 0, none⟩) (k + 1) cap)))
  (hfr : HF M ro qo pos npos c F j a) : stBody.wp Tryz.prog Q a w := by
 have e := hf_lit hfr
 exact Eq.mpr (congrArg (fun x => stBody.wp Tryz.prog Q x w) e) (st_no7 _ _ _ _ _ _ _ _ _ _ _ _ _ _ _ _ _ _ _ _ _ _ _ _ _ _ _ _ _ _ _ _ _ _ _ _ _ _ _ _ _ _ _ _ _ _ _ _ _ _ _ _ _ _ _ _ _ _ _ _ _ _ _ _ _ _ _ _ _ _ _ _ _ _ _ _ _ _ _ _ _ _ _ _ _ _ _ _ _ _ _ _ _ _ _ _ _ _ _ _ _ _ _ _ _ _ _ _ _ _ _ _ _ _ _ _ _ _ _ _ _ _ _ _ _ _ _ _ _ _ _ _ _ _ _ _ _ _ _ _ _ _ _ _ _ _ _ _ _ _ _ _ _ _ _ _ _ _ _ _ _ _ _ _ _ _ _ _ _ _ _ _ _ _ _ _ _ _ _ _ _ _ _ _ _ _ _ _ _ _ _ _ _ _ _ _ _ _ _ _ _ _ _ _ _ _ _ _ _ _ _ _ _ _ _ _ _ _ _ _ _ _ _ _ _ _ _ _ _ _ M ro qo pos npos c F j w Q D n nq h1 hnq T C nc hj hD hDl N R PR I np pg hP pc hp0 hpc hT0 hT1 hTl hMl hop hmr base k pv xs h6 f6 hown hk hbase hpM hgo)

set_option maxRecDepth 1000000 in
theorem st_no8_f {a : Act} (M ro qo pos npos : Nat) (c : Int) (F j : Nat) (w : World) (Q : Exit → Act → World → Prop) (D n nq : Nat) (h1 : w.cell? ⟨M, ro + 1, none⟩ = some (.slice (some ⟨D, 0, none⟩) n nq)) (hnq : n ≤ 1000000) (T C nc : Nat) (hj : j < n) (hD : w.cell? ⟨D, j * 2 + 1, none⟩ = some (.pointer (some ⟨T, 0, none⟩))) (hDl : D < w.heap.size) (N R PR I np : Nat) (pg : Nat → Inst) (hP : ProgAt w N R PR I np pg) (pc : Nat) (hp0 : 0 < pc) (hpc : pc < np) (hT0 : w.cell? ⟨T, 0, none⟩ = some (.pointer (some ⟨I, pc * 4, none⟩))) (hT1 : w.cell? ⟨T, 1, none⟩ = some (.slice (some ⟨C, 0, none⟩) nc nc)) (hTl : T < w.heap.size) (hMl : M < w.heap.size) (hop : (pg pc).op = 8) (rb cr : Nat) (x : Int) (h3 : w.cell? ⟨I, pc * 4 + 3, none⟩ = some (.slice (some ⟨rb, 0, none⟩) 1 cr)) (hrx : w.cell? ⟨rb, 0, none⟩ = some (.int .i32 x)) (hrb : rb < w.heap.size) (hcx : c ≠ x) (base k : Nat) (pv : Value) (xs : List Value) (h6 : w.cell? ⟨M, 6, none⟩ = some pv) (f6 : w.frozen? ⟨M, 6, none⟩ = false) (hown : w.ownsRow base 209 1 pv k xs) (hk : k < 9990000000000) (hbase : base ≤ w.heap.size) (hpM : pv.ownBlock ≠ some M) (hgo : ∀ a g cap w1, HF M ro qo pos npos c F (j + 1) a → w1.ownsRow base 209 1 (.slice (some ⟨g, 0, none⟩) (k + 1) cap) (k + 1) (xs ++ [.pointer (some ⟨T, 0, none⟩)]) → (∃ y : Ext w, y.now.grownBy w1 pv.ownBlock) → (pv.ownBlock = some g ∨ w.heap.size ≤ g) → g < w1.heap.size → Q .normal a (w1.setCell ⟨M, 6, none⟩ (.slice (some ⟨g, 0, none⟩) (k + 1) cap)))
  (hfr : HF M ro qo pos npos c F j a) : stBody.wp Tryz.prog Q a w := by
 have e := hf_lit hfr
 exact Eq.mpr (congrArg (fun x => stBody.wp Tryz.prog Q x w) e) (st_no8 _ _ _ _ _ _ _ _ _ _ _ _ _ _ _ _ _ _ _ _ _ _ _ _ _ _ _ _ _ _ _ _ _ _ _ _ _ _ _ _ _ _ _ _ _ _ _ _ _ _ _ _ _ _ _ _ _ _ _ _ _ _ _ _ _ _ _ _ _ _ _ _ _ _ _ _ _ _ _ _ _ _ _ _ _ _ _ _ _ _ _ _ _ _ _ _ _ _ _ _ _ _ _ _ _ _ _ _ _ _ _ _ _ _ _ _ _ _ _ _ _ _ _ _ _ _ _ _ _ _ _ _ _ _ _ _ _ _ _ _ _ _ _ _ _ _ _ _ _ _ _ _ _ _ _ _ _ _ _ _ _ _ _ _ _ _ _ _ _ _ _ _ _ _ _ _ _ _ _ _ _ _ _ _ _ _ _ _ _ _ _ _ _ _ _ _ _ _ _ _ _ _ _ _ _ _ _ _ _ _ _ _ _ _ _ _ _ _ _ _ _ _ _ _ _ _ _ _ _ _ M ro qo pos npos c F j w Q D n nq h1 hnq T C nc hj hD hDl N R PR I np pg hP pc hp0 hpc hT0 hT1 hTl hMl hop rb cr x h3 hrx hrb hcx base k pv xs h6 f6 hown hk hbase hpM hgo)

set_option maxRecDepth 1000000 in
theorem st_yes7_f {a : Act} (M ro qo pos npos : Nat) (c : Int) (F j : Nat) (w : World) (Q : Exit → Act → World → Prop) (D n nq : Nat) (h1 : w.cell? ⟨M, ro + 1, none⟩ = some (.slice (some ⟨D, 0, none⟩) n nq)) (hnq : n ≤ 1000000) (T C nc : Nat) (hj : j < n) (hD : w.cell? ⟨D, j * 2 + 1, none⟩ = some (.pointer (some ⟨T, 0, none⟩))) (hDl : D < w.heap.size) (N R PR I np : Nat) (pg : Nat → Inst) (hP : ProgAt w N R PR I np pg) (pc : Nat) (hp0 : 0 < pc) (hpc : pc < np) (hT0 : w.cell? ⟨T, 0, none⟩ = some (.pointer (some ⟨I, pc * 4, none⟩))) (hT1 : w.cell? ⟨T, 1, none⟩ = some (.slice (some ⟨C, 0, none⟩) nc nc)) (hTl : T < w.heap.size) (hMl : M < w.heap.size) (hop : (pg pc).op = 7) (hmr : ∀ y : Ext w, Calls Tryz.prog 99 #[.pointer (some ⟨I, pc * 4, none⟩), .int .i32 c] y.now fun e w1 => e = .returned (.bool true) ∧ w1 = y.now) (base : Nat) (G : Option Nat → World → Prop) (hcall : ∀ y : Ext w, Calls Tryz.prog 108 #[.pointer (some ⟨M, 0, none⟩), .pointer (some ⟨M, qo, none⟩), .int .u32 (pg pc).out, .int .i64 npos, .slice (some ⟨C, 0, none⟩) nc nc, .pointer (some ⟨F, 0, none⟩), .pointer (some ⟨T, 0, none⟩)] y.now fun e w1 => ∃ hh, e = .returned (handPtr hh) ∧ G hh w1)
  (hgp : ∀ T' w1, G (some T') w1 → ∃ k pv xs, w1.cell? ⟨M, 6, none⟩ = some pv ∧ w1.frozen? ⟨M, 6, none⟩ = false ∧ w1.ownsRow base 209 1 pv k xs ∧ k < 9990000000000 ∧ base ≤ w1.heap.size ∧ pv.ownBlock ≠ some M ∧ M < w1.heap.size)
  (hgn : ∀ a w1, HF M ro qo pos npos c F (j + 1) a → G none w1 → Q .normal a w1)
  (hgs : ∀ a T' w1 k pv xs g cap w2, HF M ro qo pos npos c F (j + 1) a → G (some T') w1 → w1.cell? ⟨M, 6, none⟩ = some pv → w1.ownsRow base 209 1 pv k xs → w2.ownsRow base 209 1 (.slice (some ⟨g, 0, none⟩) (k + 1) cap) (k + 1) (xs ++ [.pointer (some ⟨T', 0, none⟩)]) →
   (∃ y : Ext w1, y.now.grownBy w2 pv.ownBlock) → (pv.ownBlock = some g ∨ w1.heap.size ≤ g) → g < w2.heap.size → Q .normal a (w2.setCell ⟨M, 6, none⟩ (.slice (some ⟨g, 0, none⟩) (k + 1) cap)))
  (hfr : HF M ro qo pos npos c F j a) : stBody.wp Tryz.prog Q a w := by
 have e := hf_lit hfr
 exact Eq.mpr (congrArg (fun x => stBody.wp Tryz.prog Q x w) e) (st_yes7 _ _ _ _ _ _ _ _ _ _ _ _ _ _ _ _ _ _ _ _ _ _ _ _ _ _ _ _ _ _ _ _ _ _ _ _ _ _ _ _ _ _ _ _ _ _ _ _ _ _ _ _ _ _ _ _ _ _ _ _ _ _ _ _ _ _ _ _ _ _ _ _ _ _ _ _ _ _ _ _ _ _ _ _ _ _ _ _ _ _ _ _ _ _ _ _ _ _ _ _ _ _ _ _ _ _ _ _ _ _ _ _ _ _ _ _ _ _ _ _ _ _ _ _ _ _ _ _ _ _ _ _ _ _ _ _ _ _ _ _ _ _ _ _ _ _ _ _ _ _ _ _ _ _ _ _ _ _ _ _ _ _ _ _ _ _ _ _ _ _ _ _ _ _ _ _ _ _ _ _ _ _ _ _ _ _ _ _ _ _ _ _ _ _ _ _ _ _ _ _ _ _ _ _ _ _ _ _ _ _ _ _ _ _ _ _ _ _ _ _ _ _ _ _ _ _ _ _ _ _ M ro qo pos npos c F j w Q D n nq h1 hnq T C nc hj hD hDl N R PR I np pg hP pc hp0 hpc hT0 hT1 hTl hMl hop hmr base G hcall hgp hgn hgs)

set_option maxRecDepth 1000000 in
theorem st_yes8_f {a : Act} (M ro qo pos npos : Nat) (c : Int) (F j : Nat) (w : World) (Q : Exit → Act → World → Prop) (D n nq : Nat) (h1 : w.cell? ⟨M, ro + 1, none⟩ = some (.slice (some ⟨D, 0, none⟩) n nq)) (hnq : n ≤ 1000000) (T C nc : Nat) (hj : j < n) (hD : w.cell? ⟨D, j * 2 + 1, none⟩ = some (.pointer (some ⟨T, 0, none⟩))) (hDl : D < w.heap.size) (N R PR I np : Nat) (pg : Nat → Inst) (hP : ProgAt w N R PR I np pg) (pc : Nat) (hp0 : 0 < pc) (hpc : pc < np) (hT0 : w.cell? ⟨T, 0, none⟩ = some (.pointer (some ⟨I, pc * 4, none⟩))) (hT1 : w.cell? ⟨T, 1, none⟩ = some (.slice (some ⟨C, 0, none⟩) nc nc)) (hTl : T < w.heap.size) (hMl : M < w.heap.size) (hop : (pg pc).op = 8) (rb cr : Nat) (x : Int) (h3 : w.cell? ⟨I, pc * 4 + 3, none⟩ = some (.slice (some ⟨rb, 0, none⟩) 1 cr)) (hrx : w.cell? ⟨rb, 0, none⟩ = some (.int .i32 x)) (hrb : rb < w.heap.size) (hcx : c = x) (base : Nat) (G : Option Nat → World → Prop) (hcall : ∀ y : Ext w, Calls Tryz.prog 108 #[.pointer (some ⟨M, 0, none⟩), .pointer (some ⟨M, qo, none⟩), .int .u32 (pg pc).out, .int .i64 npos, .slice (some ⟨C, 0, none⟩) nc nc, .pointer (some ⟨F, 0, none⟩), .pointer (some ⟨T, 0, none⟩)] y.now fun e w1 => ∃ hh, e = .returned (handPtr hh) ∧ G hh w1)
  (hgp : ∀ T' w1, G (some T') w1 → ∃ k pv xs, w1.cell? ⟨M, 6, none⟩ = some pv ∧ w1.frozen? ⟨M, 6, none⟩ = false ∧ w1.ownsRow base 209 1 pv k xs ∧ k < 9990000000000 ∧ base ≤ w1.heap.size ∧ pv.ownBlock ≠ some M ∧ M < w1.heap.size)
  (hgn : ∀ a w1, HF M ro qo pos npos c F (j + 1) a → G none w1 → Q .normal a w1)
  (hgs : ∀ a T' w1 k pv xs g cap w2, HF M ro qo pos npos c F (j + 1) a → G (some T') w1 → w1.cell? ⟨M, 6, none⟩ = some pv → w1.ownsRow base 209 1 pv k xs → w2.ownsRow base 209 1 (.slice (some ⟨g, 0, none⟩) (k + 1) cap) (k + 1) (xs ++ [.pointer (some ⟨T', 0, none⟩)]) →
   (∃ y : Ext w1, y.now.grownBy w2 pv.ownBlock) → (pv.ownBlock = some g ∨ w1.heap.size ≤ g) → g < w2.heap.size → Q .normal a (w2.setCell ⟨M, 6, none⟩ (.slice (some ⟨g, 0, none⟩) (k + 1) cap)))
  (hfr : HF M ro qo pos npos c F j a) : stBody.wp Tryz.prog Q a w := by
 have e := hf_lit hfr
 exact Eq.mpr (congrArg (fun x => stBody.wp Tryz.prog Q x w) e) (st_yes8 _ _ _ _ _ _ _ _ _ _ _ _ _ _ _ _ _ _ _ _ _ _ _ _ _ _ _ _ _ _ _ _ _ _ _ _ _ _ _ _ _ _ _ _ _ _ _ _ _ _ _ _ _ _ _ _ _ _ _ _ _ _ _ _ _ _ _ _ _ _ _ _ _ _ _ _ _ _ _ _ _ _ _ _ _ _ _ _ _ _ _ _ _ _ _ _ _ _ _ _ _ _ _ _ _ _ _ _ _ _ _ _ _ _ _ _ _ _ _ _ _ _ _ _ _ _ _ _ _ _ _ _ _ _ _ _ _ _ _ _ _ _ _ _ _ _ _ _ _ _ _ _ _ _ _ _ _ _ _ _ _ _ _ _ _ _ _ _ _ _ _ _ _ _ _ _ _ _ _ _ _ _ _ _ _ _ _ _ _ _ _ _ _ _ _ _ _ _ _ _ _ _ _ _ _ _ _ _ _ _ _ _ _ _ _ _ _ _ _ _ _ _ _ _ _ _ _ _ _ _ M ro qo pos npos c F j w Q D n nq h1 hnq T C nc hj hD hDl N R PR I np pg hP pc hp0 hpc hT0 hT1 hTl hMl hop rb cr x h3 hrx hrb hcx base G hcall hgp hgn hgs)

set_option maxRecDepth 1000000 in
theorem st_match_f {a : Act} (M ro qo pos npos : Nat) (c : Int) (F j : Nat) (w : World) (Q : Exit → Act → World → Prop) (D m nq : Nat) (ml : List Value) (tM : TypeId) (hM : Blk w M ml tM) (hml : ml.length = 10) (hro : ro = 2 ∨ ro = 4) (hm1 : ml[ro + 1]? = some (.slice (some ⟨D, 0, none⟩) (j + 1 + m) nq)) (hnq : j + 1 + m < nq) (hnq2 : nq ≤ 1000000) (MC nc : Nat) (hm8 : ml[8]? = some (.slice (some ⟨MC, 0, none⟩) nc nc)) (v7 : Value) (hm7 : ml[7]? = some v7)
  (T C : Nat) (dl : List Value) (tD : TypeId) (hD : Blk w D dl tD) (hdT : dl[j * 2 + 1]? = some (.pointer (some ⟨T, 0, none⟩))) (r : List CE) (hr : r.length = m) (hdr : ∀ i e, r[i]? = some e → dl[(j + 1 + i) * 2]? = some (.int .u32 e.1) ∧ dl[(j + 1 + i) * 2 + 1]? = some (thPtr e.2))
  (N R PR I np : Nat) (pg : Nat → Inst) (hP : ProgAt w N R PR I np pg) (pc : Nat) (hp0 : 0 < pc) (hpc : pc < np) (hop : (pg pc).op = 4) (hT : Blk w T [.pointer (some ⟨I, pc * 4, none⟩), .slice (some ⟨C, 0, none⟩) nc nc] 212)
  (lc lm : List Value) (hC : Blk w C lc 3) (hMC : Blk w MC lm 3) (hlc : lc.length = nc) (hlm : lm.length = nc) (hnc : 2 ≤ nc) (hnc2 : nc < 1000) (hone : ∀ v ∈ lc, v.oneCell' = true)
  (base k : Nat) (pv : Value) (xs : List Value) (hm6 : ml[6]? = some pv) (hown : w.ownsRow base 209 1 pv k xs) (hk : k < 9000000000000) (hbase : base ≤ w.heap.size)
  (hap : M ≠ D ∧ M ≠ T ∧ M ≠ C ∧ M ≠ MC ∧ D ≠ T ∧ D ≠ C ∧ D ≠ MC ∧ T ≠ C ∧ T ≠ MC ∧ C ≠ MC) (hpb : ∀ b, pv.ownBlock = some b → b ≠ M ∧ b ≠ D ∧ b ≠ T ∧ b ≠ C ∧ b ≠ MC) (hQp : ∀ (c : List PanicEntry) (a : Act) (d : Option Tmp) (v : Value) (w : World), Q (.panic c) (a.put d v) w → Q (.panic c) a w) (hgo : ∀ a w2 pv2 k2, HF M ro qo pos npos c F (j + 1) a → Blk w2 M (((ml.set 6 pv2).set (ro + 1) (.slice (some ⟨D, 0, none⟩) 0 nq)).set 7 (.bool true)) tM → w2.ownsRow base 209 1 pv2 k2 (xs ++ thPtrs r ++ [.pointer (some ⟨T, 0, none⟩)]) → Blk w2 MC (lc.set 1 (.int .i64 pos)) 3 → Blk w2 C (lc.set 1 (.int .i64 pos)) 3 → (∃ X, Chg X w w2 ∧ ∀ b, b ∈ X → b = M ∨ b = C ∨ b = MC ∨ pv.ownBlock = some b) → (pv2.ownBlock = pv.ownBlock ∨ ∀ b, pv2.ownBlock = some b → w.heap.size ≤ b) → Q .normal a w2)
  (hfr : HF M ro qo pos npos c F j a) : stBody.wp Tryz.prog Q a w := by
 have e := hf_lit hfr
 exact Eq.mpr (congrArg (fun x => stBody.wp Tryz.prog Q x w) e) (st_match _ _ _ _ _ _ _ _ _ _ _ _ _ _ _ _ _ _ _ _ _ _ _ _ _ _ _ _ _ _ _ _ _ _ _ _ _ _ _ _ _ _ _ _ _ _ _ _ _ _ _ _ _ _ _ _ _ _ _ _ _ _ _ _ _ _ _ _ _ _ _ _ _ _ _ _ _ _ _ _ _ _ _ _ _ _ _ _ _ _ _ _ _ _ _ _ _ _ _ _ _ _ _ _ _ _ _ _ _ _ _ _ _ _ _ _ _ _ _ _ _ _ _ _ _ _ _ _ _ _ _ _ _ _ _ _ _ _ _ _ _ _ _ _ _ _ _ _ _ _ _ _ _ _ _ _ _ _ _ _ _ _ _ _ _ _ _ _ _ _ _ _ _ _ _ _ _ _ _ _ _ _ _ _ _ _ _ _ _ _ _ _ _ _ _ _ _ _ _ _ _ _ _ _ _ _ _ _ _ _ _ _ _ _ _ _ _ _ _ _ _ _ _ _ _ _ _ _ _ _ M ro qo pos npos c F j w Q D m nq ml tM hM hml hro hm1 hnq hnq2 MC nc hm8 v7 hm7 T C dl tD hD hdT r hr hdr N R PR I np pg hP pc hp0 hpc hop hT lc lm hC hMC hlc hlm hnc hnc2 hone base k pv xs hm6 hown hk hbase hap hpb hQp hgo)

end Go.Proofs.YtkbmigfkclnlaaaGreatDoor
namespace Go.Proofs.YtkbmigfkclnlaaaGreatDoor
open Go.RowKit Go.Rx

def lastSeq : Code → Code
 | .seq _ b => lastSeq b
 | c => c

noncomputable def stTail : Code := (Tryz.f109.body.map lastSeq).getD .skip

set_option maxRecDepth 1000000 in
set_option maxHeartbeats 4000000 in
theorem st_close (u7 u8 u9 u10 u11 u12 u13 u16 u17 u18 u19 u20 u21 u22 u23 u24 u25 u26 u27 u28 u29 u30 u31 u32 u33 u34 u35 u36 u37 u38 u39 u40 u41 u42 u43 u44 u45 u46 u47 u48 u49 u50 u51 u52 u53 u54 u55 u56 u57 u58 u59 u60 u61 u62 u63 u64 u65 u66 u67 u68 u69 u70 u71 u72 u73 u74 u75 u76 u77 u78 u79 u80 u81 u82 u83 u84 u85 u86 u87 u88 u89 u90 u91 u92 u93 u94 u95 u96 u97 u98 u99 u100 u101 u102 u103 u104 u105 u106 u107 u108 u109 u110 u111 u112 u113 u114 u115 u116 u117 u118 u119 u120 u121 u122 u123 u124 u125 u126 u127 u128 u129 u130 u131 u132 u133 u134 u135 u136 u137 u138 u139 u140 u141 u142 u143 u144 u145 u146 u147 u148 u149 u150 u151 u152 u153 u154 u155 u156 u157 u158 u159 u160 u161 u162 u163 u164 u165 u166 u167 u168 u169 u170 u171 u172 u173 u174 u175 u176 u177 u178 u179 u180 u181 u182 u183 u184 u185 u186 u187 u188 u189 u190 u191 u192 u193 u194 u195 u196 u197 u198 u199 u200 u201 u202 u203 u204 u205 u206 u207 u208 u209 u210 u211 u212 u213 u214 u215 u216 u217 u218 u219 u220 u221 u222 u223 u224 u225 u226 u227 u228 u229 u230 u231 u232 u233 u234 u235 u236 u237 u238 : Value) (M ro qo pos npos : Nat) (c : Int) (F j : Nat) (w : World) (Q : Exit → Act → World → Prop) (D n nq : Nat) (h1 : w.cell? ⟨M, ro + 1, none⟩ = some (.slice (some ⟨D, 0, none⟩) n nq)) (ff : w.frozen? ⟨M, ro + 1, none⟩ = false) (hM : M < w.heap.size) (hgo : ∀ a, a.tmps.size = 239 → a.defers = [] → Q .normal a (w.setCell ⟨M, ro + 1, none⟩ (.slice (some ⟨D, 0, none⟩) 0 nq))) : stTail.wp Tryz.prog Q ⟨#[.pointer (some ⟨M, 0, none⟩), .pointer (some ⟨M, ro, none⟩), .pointer (some ⟨M, qo, none⟩), .int .i64 pos, .int .i64 npos, .int .i32 c, .pointer (some ⟨F, 0, none⟩), u7, u8, u9, u10, u11, u12, u13, .bool false, .int .i64 j, u16, u17, u18, u19, u20, u21, u22, u23, u24, u25, u26, u27, u28, u29, u30, u31, u32, u33, u34, u35, u36, u37, u38, u39, u40, u41, u42, u43, u44, u45, u46, u47, u48, u49, u50, u51, u52, u53, u54, u55, u56, u57, u58, u59, u60, u61, u62, u63, u64, u65, u66, u67, u68, u69, u70, u71, u72, u73, u74, u75, u76, u77, u78, u79, u80, u81, u82, u83, u84, u85, u86, u87, u88, u89, u90, u91, u92, u93, u94, u95, u96, u97, u98, u99, u100, u101, u102, u103, u104, u105, u106, u107, u108, u109, u110, u111, u112, u113, u114, u115, u116, u117, u118, u119, u120, u121, u122, u123, u124, u125, u126, u127, u128, u129, u130, u131, u132, u133, u134, u135, u136, u137, u138, u139, u140, u141, u142, u143, u144, u145, u146, u147, u148, u149, u150, u151, u152, u153, u154, u155, u156, u157, u158, u159, u160, u161, u162, u163, u164, u165, u166, u167, u168, u169, u170, u171, u172, u173, u174, u175, u176, u177, u178, u179, u180, u181, u182, u183, u184, u185, u186, u187, u188, u189, u190, u191, u192, u193, u194, u195, u196, u197, u198, u199, u200, u201, u202, u203, u204, u205, u206, u207, u208, u209, u210, u211, u212, u213, u214, u215, u216, u217, u218, u219, u220, u221, u222, u223, u224, u225, u226, u227, u228, u229, u230, u231, u232, u233, u234, u235, u236, u237, u238], []⟩ w := by
 conv => arg 2; whnf
 have HG := Lib.hid hgo
 clear hgo
 go_wp2_with fail
 exact HG.out _ rfl rfl

set_option maxRecDepth 1000000 in
theorem st_close_f {a : Act} (M ro qo pos npos : Nat) (c : Int) (F j : Nat) (w : World) (Q : Exit → Act → World → Prop) (D n nq : Nat) (h1 : w.cell? ⟨M, ro + 1, none⟩ = some (.slice (some ⟨D, 0, none⟩) n nq)) (ff : w.frozen? ⟨M, ro + 1, none⟩ = false) (hM : M < w.heap.size) (hgo : ∀ a, a.tmps.size = 239 → a.defers = [] → Q .normal a (w.setCell ⟨M, ro + 1, none⟩ (.slice (some ⟨D, 0, none⟩) 0 nq)))
  (hfr : HF M ro qo pos npos c F j a) : stTail.wp Tryz.prog Q a w := by
 have e := hf_lit hfr
 have h := st_close (a.tmps.getD 7 undef) (a.tmps.getD 8 undef) (a.tmps.getD 9 undef) (a.tmps.getD 10 undef) (a.tmps.getD 11 undef) (a.tmps.getD 12 undef) (a.tmps.getD 13 undef) (a.tmps.getD 16 undef) (a.tmps.getD 17 undef) (a.tmps.getD 18 undef) (a.tmps.getD 19 undef) (a.tmps.getD 20 undef) (a.tmps.getD 21 undef) (a.tmps.getD 22 undef) (a.tmps.getD 23 undef) (a.tmps.getD 24 undef) (a.tmps.getD 25 undef) (a.tmps.getD 26 undef) (a.tmps.getD 27 undef) (a.tmps.getD 28 undef) (a.tmps.getD 29 undef) (a.tmps.getD 30 undef) (a.tmps.getD 31 undef) (a.tmps.getD 32 undef) (a.tmps.getD 33 undef) (a.tmps.getD 34 undef) (a.tmps.getD 35 undef) (a.tmps.getD 36 undef) (a.tmps.getD 37 undef) (a.tmps.getD 38 undef) (a.tmps.getD 39 undef) (a.tmps.getD 40 undef) (a.tmps.getD 41 undef) (a.tmps.getD 42 undef) (a.tmps.getD 43 undef) (a.tmps.getD 44 undef) (a.tmps.getD 45 undef) (a.tmps.getD 46 undef) (a.tmps.getD 47 undef) (a.tmps.getD 48 undef) (a.tmps.getD 49 undef) (a.tmps.getD 50 undef) (a.tmps.getD 51 undef) (a.tmps.getD 52 undef) (a.tmps.getD 53 undef) (a.tmps.getD 54 undef) (a.tmps.getD 55 undef) (a.tmps.getD 56 undef) (a.tmps.getD 57 undef) (a.tmps.getD 58 undef) (a.tmps.getD 59 undef) (a.tmps.getD 60 undef) (a.tmps.getD 61 undef) (a.tmps.getD 62 undef) (a.tmps.getD 63 undef) (a.tmps.getD 64 undef) (a.tmps.getD 65 undef) (a.tmps.getD 66 undef) (a.tmps.getD 67 undef) (a.tmps.getD 68 undef) (a.tmps.getD 69 undef) (a.tmps.getD 70 undef) (a.tmps.getD 71 undef) (a.tmps.getD 72 undef) (a.tmps.getD 73 undef) (a.tmps.getD 74 undef) (a.tmps.getD 75 undef) (a.tmps.getD 76 undef) (a.tmps.getD 77 undef) (a.tmps.getD 78 undef) (a.tmps.getD 79 undef) (a.tmps.getD 80 undef) (a.tmps.getD 81 undef) (a.tmps.getD 82 undef) (a.tmps.getD 83 undef) (a.tmps.getD 84 undef) (a.tmps.getD 85 undef) (a.tmps.getD 86 undef) (a.tmps.getD 87 undef) (a.tmps.getD 88 undef) (a.tmps.getD 89 undef) (a.tmps.getD 90 undef) (a.tmps.getD 91 undef) (a.tmps.getD 92 undef) (a.tmps.getD 93 undef) (a.tmps.getD 94 undef) (a.tmps.getD 95 undef) (a.tmps.getD 96 undef) (a.tmps.getD 97 undef) (a.tmps.getD 98 undef) (a.tmps.getD 99 undef) (a.tmps.getD 100 undef) (a.tmps.getD 101 undef) (a.tmps.getD 102 undef) (a.tmps.getD 103 undef) (a.tmps.getD 104 undef) (a.tmps.getD 105 undef) (a.tmps.getD 106 undef) (a.tmps.getD 107 undef) (a.tmps.getD 108 undef) (a.tmps.getD 109 undef) (a.tmps.getD 110 undef) (a.tmps.getD 111 undef) (a.tmps.getD 112 undef) (a.tmps.getD 113 undef) (a.tmps.getD 114 undef) (a.tmps.getD 115 undef) (a.tmps.getD 116 undef) (a.tmps.getD 117 undef) (a.tmps.getD 118 undef) (a.tmps.getD 119 undef) (a.tmps.getD 120 undef) (a.tmps.getD 121 undef) (a.tmps.getD 122 undef) (a.tmps.getD 123 undef) (a.tmps.getD 124 undef) (a.tmps.getD 125 undef) (a.tmps.getD 126 undef) (a.tmps.getD 127 undef) (a.tmps.getD 128 undef) (a.tmps.getD 129 undef) (a.tmps.getD 130 undef) (a.tmps.getD 131 undef) (a.tmps.getD 132 undef) (a.tmps.getD 133 undef) (a.tmps.getD 134 undef) (a.tmps.getD 135 undef) (a.tmps.getD 136 undef) (a.tmps.getD 137 undef) (a.tmps.getD 138 undef) (a.tmps.getD 139 undef) (a.tmps.getD 140 undef) (a.tmps.getD 141 undef) (a.tmps.getD 142 undef) (a.tmps.getD 143 undef) (a.tmps.getD 144 undef) (a.tmps.getD 145 undef) (a.tmps.getD 146 undef) (a.tmps.getD 147 undef) (a.tmps.getD 148 undef) (a.tmps.getD 149 undef) (a.tmps.getD 150 undef) (a.tmps.getD 151 undef) (a.tmps.getD 152 undef) (a.tmps.getD 153 undef) (a.tmps.getD 154 undef) (a.tmps.getD 155 undef) (a.tmps.getD 156 undef) (a.tmps.getD 157 undef) (a.tmps.getD 158 undef) (a.tmps.getD 159 undef) (a.tmps.getD 160 undef) (a.tmps.getD 161 undef) (a.tmps.getD 162 undef) (a.tmps.getD 163 undef) (a.tmps.getD 164 undef) (a.tmps.getD 165 undef) (a.tmps.getD 166 undef) (a.tmps.getD 167 undef) (a.tmps.getD 168 undef) (a.tmps.getD 169 undef) (a.tmps.getD 170 undef) (a.tmps.getD 171 undef) (a.tmps.getD 172 undef) (a.tmps.getD 173 undef) (a.tmps.getD 174 undef) (a.tmps.getD 175 undef) (a.tmps.getD 176 undef) (a.tmps.getD 177 undef) (a.tmps.getD 178 undef) (a.tmps.getD 179 undef) (a.tmps.getD 180 undef) (a.tmps.getD 181 undef) (a.tmps.getD 182 undef) (a.tmps.getD 183 undef) (a.tmps.getD 184 undef) (a.tmps.getD 185 undef) (a.tmps.getD 186 undef) (a.tmps.getD 187 undef) (a.tmps.getD 188 undef) (a.tmps.getD 189 undef) (a.tmps.getD 190 undef) (a.tmps.getD 191 undef) (a.tmps.getD 192 undef) (a.tmps.getD 193 undef) (a.tmps.getD 194 undef) (a.tmps.getD 195 undef) (a.tmps.getD 196 undef) (a.tmps.getD 197 undef) (a.tmps.getD 198 undef) (a.tmps.getD 199 undef) (a.tmps.getD 200 undef) (a.tmps.getD 201 undef) (a.tmps.getD 202 undef) (a.tmps.getD 203 undef) (a.tmps.getD 204 undef) (a.tmps.getD 205 undef) (a.tmps.getD 206 undef) (a.tmps.getD 207 undef) (a.tmps.getD 208 undef) (a.tmps.getD 209 undef) (a.tmps.getD 210 undef) (a.tmps.getD 211 undef) (a.tmps.getD 212 undef) (a.tmps.getD 213 undef) (a.tmps.getD 214 undef) (a.tmps.getD 215 undef) (a.tmps.getD 216 undef) (a.tmps.getD 217 undef) (a.tmps.getD 218 undef) (a.tmps.getD 219 undef) (a.tmps.getD 220 undef) (a.tmps.getD 221 undef) (a.tmps.getD 222 undef) (a.tmps.getD 223 undef) (a.tmps.getD 224 undef) (a.tmps.getD 225 undef) (a.tmps.getD 226 undef) (a.tmps.getD 227 undef) (a.tmps.getD 228 undef) (a.tmps.getD 229 undef) (a.tmps.getD 230 undef) (a.tmps.getD 231 undef) (a.tmps.getD 232 undef) (a.tmps.getD 233 undef) (a.tmps.getD 234 undef) (a.tmps.getD 235 undef) (a.tmps.getD 236 undef) (a.tmps.getD 237 undef) (a.tmps.getD 238 undef) M ro qo pos npos c F j w Q D n nq h1 ff hM hgo
 exact Eq.mpr (congrArg (fun x => stTail.wp Tryz.prog Q x w) e) h

end Go.Proofs.YtkbmigfkclnlaaaGreatDoor
