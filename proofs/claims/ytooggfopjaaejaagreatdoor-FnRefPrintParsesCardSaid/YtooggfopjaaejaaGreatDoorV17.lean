/-
FnRefPrintParses: the regular expressions, the digest and the reference, part 17 of 25.
-/
import Derived.Test.YtooggfopjaaejaaGreatDoorV01
import Derived.Test.YtooggfopjaaejaaGreatDoorV14
import Derived.Test.YtooggfopjaaejaaGreatDoorV16
import Derived.Lib.Hide
import Derived.Test.YtooggfopjaaejaaGreatDoorV09
set_option linter.all false
namespace Go.Rx
namespace Env
variable {E : Env}

/-- Where nothing is taken, nothing comes into the next queue. -/
theorem stepF_none (p k : Nat) (ht : ∀ pc, E.takes (E.prog pc) (E.st p).1 = false) : ∀ (r n : List Entry) (m : Option (List Int)), (stepF E p k r n m).1 = n
  | [], _, _ => rfl
  | (_, none) :: r, n, m => stepF_none p k ht r n m
  | (pc, some c) :: r, n, m => by
    unfold stepF
    split
    · rfl
    · rw [if_neg (by rw [ht]; simp)]
      exact stepF_none p k ht r n m

/-- What the search is asked of. -/
structure Anch (E : Env) (start : Nat) : Prop where
  ok : E.Ok
  zero : ZeroDead E
  begin : ∀ p c, 0 < p → res E start p c = none
  on : ∀ p, p < E.n → 0 < (E.st p).2 ∧ p + (E.st p).2 ≤ E.n
  stop : ∀ p, E.n ≤ p → (E.st p).2 = 0 ∧ ∀ pc, E.takes (E.prog pc) (E.st p).1 = false

theorem metAll_one (p : Nat) (k start : Nat) (c : List Int) (h : Anch E start) (hk : E.top ≤ k) (q : List Entry) (hm : MetAll E p q) :
    val E p (addF E p k q start c) = (val E p q).or (res E start p c) ∧ MetAll E p (addF E p k q start c) := addF_all h.ok h.zero p k q start c hk hm

end Env
end Go.Rx
namespace Go.Proofs.YtooggfopjaaejaaGreatDoor
open Go.RowKit Go.Rx
theorem mstep_method (B : Nat) (w : World) : (method 377 198 (.pointer (some ⟨B, 9, none⟩)) "pub-timebook/pub/regexp.step").run Tryz.prog w = .ok (160, .pointer (some ⟨B, 9, none⟩)) w := by kernel_rfl
theorem mstep_func (B : Nat) (pos : Int) (w : World) : (callFunc 160 #[.pointer (some ⟨B, 9, none⟩), .int .i64 pos]).run Tryz.prog w = .ok (.enter 160 #[.pointer (some ⟨B, 9, none⟩), .int .i64 pos]) w := by kernel_rfl
attribute [local go_sem] mstep_method mstep_func
attribute [local go_sem] Ext.cell Ext.frozen Ext.lt Ext.lt_add Ext.cell2 Ext.frozen2

def secondLoop : Code → Option Code
  | .seq a b => (secondLoop b).or (secondLoop a)
  | .block _ c => secondLoop c
  | .loop c => some c
  | _ => none
def inBlock : Code → Code
  | .block _ c => c
  | c => c

noncomputable def mtBody : Code := (Tryz.f61.body.bind secondLoop).getD .skip
noncomputable def mtIn : Code := inBlock mtBody
noncomputable def mtMid : Code := dropSeq 2 mtIn
theorem mt_in : mtBody = Code.block 3 mtIn := by kernel_rfl

/-- The frame of match at its loop's head. -/
inductive MF (M rq xq pos : Nat) (r r1 : Int) (wd wd1 F : Nat) : Act → Prop
  | mk (u3 u4 u5 u6 u8 u16 u17 u18 u19 u20 u21 u22 u23 u24 u25 u26 u27 u28 u29 u30 u31 u32 u33 u34 u35 u36 u37 u38 u39 u40 u41 u42 u43 u44 u45 u46 u47 u48 u49 u50 u51 u52 u53 u54 u55 u56 u57 u58 u59 u60 u61 u62 u63 u64 u65 u66 u67 u68 u69 u70 u71 u72 u73 u74 u75 u76 u77 u78 u79 u80 u81 u82 u83 u84 u85 u86 u87 u88 u89 u90 u91 u92 u93 u94 u95 u96 u97 u98 u99 u100 u101 u102 u103 u104 u105 u106 u107 u108 u109 u110 u111 u112 u113 u114 u115 u116 u117 u118 u119 u120 u121 u122 u123 u124 u125 u126 u127 u128 u129 u130 u131 u132 u133 u134 u135 u136 u137 u138 u139 u140 u141 u142 u143 u144 u145 u146 u147 u148 u149 u150 u151 u152 u153 u154 u155 u156 u157 u158 u159 u160 u161 u162 u163 u164 u165 u166 u167 u168 u169 u170 u171 u172 u173 u174 u175 u176 u177 u178 u179 u180 u181 u182 u183 u184 u185 u186 u187 u188 u189 u190 u191 u192 u193 u194 u195 u196 u197 u198 u199 u200 u201 u202 u203 u204 u205 u206 u207 u208 u209 u210 u211 u212 u213 u214 u215 u216 u217 u218 u219 u220 u221 u222 u223 u224 u225 : Value) : MF M rq xq pos r r1 wd wd1 F ⟨#[.pointer (some ⟨M, 0, none⟩), .iface 198 (.pointer (some ⟨M, 9, none⟩)), .int .i64 pos, u3, u4, u5, u6, .int .u8 4, u8, .pointer (some ⟨M, rq, none⟩), .pointer (some ⟨M, xq, none⟩), .int .i32 r, .int .i32 r1, .int .i64 wd, .int .i64 wd1, .pointer (some ⟨F, 0, none⟩), u16, u17, u18, u19, u20, u21, u22, u23, u24, u25, u26, u27, u28, u29, u30, u31, u32, u33, u34, u35, u36, u37, u38, u39, u40, u41, u42, u43, u44, u45, u46, u47, u48, u49, u50, u51, u52, u53, u54, u55, u56, u57, u58, u59, u60, u61, u62, u63, u64, u65, u66, u67, u68, u69, u70, u71, u72, u73, u74, u75, u76, u77, u78, u79, u80, u81, u82, u83, u84, u85, u86, u87, u88, u89, u90, u91, u92, u93, u94, u95, u96, u97, u98, u99, u100, u101, u102, u103, u104, u105, u106, u107, u108, u109, u110, u111, u112, u113, u114, u115, u116, u117, u118, u119, u120, u121, u122, u123, u124, u125, u126, u127, u128, u129, u130, u131, u132, u133, u134, u135, u136, u137, u138, u139, u140, u141, u142, u143, u144, u145, u146, u147, u148, u149, u150, u151, u152, u153, u154, u155, u156, u157, u158, u159, u160, u161, u162, u163, u164, u165, u166, u167, u168, u169, u170, u171, u172, u173, u174, u175, u176, u177, u178, u179, u180, u181, u182, u183, u184, u185, u186, u187, u188, u189, u190, u191, u192, u193, u194, u195, u196, u197, u198, u199, u200, u201, u202, u203, u204, u205, u206, u207, u208, u209, u210, u211, u212, u213, u214, u215, u216, u217, u218, u219, u220, u221, u222, u223, u224, u225], []⟩

set_option maxRecDepth 1000000 in
set_option maxHeartbeats 4000000 in
theorem mt_dead {a : Act} (M rq xq pos : Nat) (r r1 : Int) (wd wd1 F : Nat) (w : World) (Q : Exit → Act → World → Prop) (R D nq : Nat) (hq : w.cell? ⟨M, rq + 1, none⟩ = some (.slice (some ⟨D, 0, none⟩) 0 nq)) (hp : 0 < pos) (hp2 : pos < 100000000000) (hgo : ∀ a, MF M rq xq pos r r1 wd wd1 F a → Q (.exit 2) a w) (hfr : MF M rq xq pos r r1 wd wd1 F a) : mtIn.wp Tryz.prog Q a w := by
  cases hfr
  conv => arg 2; whnf
  have hb4 : bits .and .u8 4 4 = 4 := by rfl
  have HG := Lib.hid hgo
  clear hgo
  have hp' : ¬ (pos : Int) = 0 := by omega
  go_wp2_with fail
  exact HG.out _ (by constructor)

set_option maxRecDepth 1000000 in
set_option maxHeartbeats 4000000 in
theorem mt_add {a : Act} (M rq xq pos : Nat) (r r1 : Int) (wd wd1 F : Nat) (w : World) (Q : Exit → Act → World → Prop) (R PR D n nq MC nc : Nat) (c0 : w.cell? ⟨M, 0, none⟩ = some (.pointer (some ⟨R, 0, none⟩))) (hq : w.cell? ⟨M, rq + 1, none⟩ = some (.slice (some ⟨D, 0, none⟩) n nq)) (hnq : n ≤ 1000000) (c8 : w.cell? ⟨M, 8, none⟩ = some (.slice (some ⟨MC, 0, none⟩) nc nc)) (hnc : 2 ≤ nc ∧ nc < 100) (hn : 0 < n) (c7 : w.cell? ⟨M, 7, none⟩ = some (.bool false)) (c1 : w.cell? ⟨M, 1, none⟩ = some (.pointer (some ⟨PR, 0, none⟩))) (cs : w.cell? ⟨PR, 1, none⟩ = some (.int .i64 1)) (hMl : M < w.heap.size) (hPl : PR < w.heap.size) (hRl : R < w.heap.size) (hPM : PR ≠ MC) (hMM : M ≠ MC) (x0 : Value) (cx : w.cell? ⟨MC, 0, none⟩ = some x0) (fc : w.frozen? ⟨MC, 0, none⟩ = false) (hMCl : MC < w.heap.size) (G : World → Prop) (hadd : ∀ x : Ext (w.setCell ⟨MC, 0, none⟩ (.int .i64 pos)), Calls Tryz.prog 80 #[.pointer (some ⟨M, 0, none⟩), .pointer (some ⟨M, rq, none⟩), .int .u32 1, .int .i64 pos, .slice (some ⟨MC, 0, none⟩) nc nc, .pointer (some ⟨F, 0, none⟩), .pointer none] x.now fun e w1 => ∃ hand, e = .returned (handPtr hand) ∧ G w1) (hgo : ∀ a w1, MF M rq xq pos r r1 wd wd1 F a → G w1 → Ent mtMid Q a w1) (hfr : MF M rq xq pos r r1 wd wd1 F a) : mtIn.wp Tryz.prog Q a w := by
  cases hfr
  conv => arg 2; whnf
  have hn0 : ¬ (n : Int) = 0 := by omega
  have hncp : (0 : Int) < (nc : Int) := by omega
  have hMM' : MC ≠ M := Ne.symm hMM
  have hPM' : MC ≠ PR := Ne.symm hPM
  have HA := Lib.hid hadd
  clear hadd
  have HG := Lib.hid hgo
  clear hgo
  go_upto_region 32 with (fail)
  rename_i K hK
  obtain ⟨w1, hw1⟩ : ∃ w1, w1 = w.setCell ⟨MC, 0, none⟩ (.int .i64 pos) := ⟨_, rfl⟩
  have cc : Chg [MC] w w1 := by rw [hw1]; exact Chg.set _ _ _ _
  have d0 : w1.cell? ⟨M, 0, none⟩ = some (.pointer (some ⟨R, 0, none⟩)) := (World.cell?_of_block (cc.block M hMl (by simpa using hMM))).trans c0
  have d1 : w1.cell? ⟨M, 1, none⟩ = some (.pointer (some ⟨PR, 0, none⟩)) := (World.cell?_of_block (cc.block M hMl (by simpa using hMM))).trans c1
  have d8 : w1.cell? ⟨M, 8, none⟩ = some (.slice (some ⟨MC, 0, none⟩) nc nc) := (World.cell?_of_block (cc.block M hMl (by simpa using hMM))).trans c8
  have ds : w1.cell? ⟨PR, 1, none⟩ = some (.int .i64 1) := (World.cell?_of_block (cc.block PR hPl (by simpa using hPM))).trans cs
  have dM : M < w1.heap.size := by rw [hw1]; simpa using hMl
  have dP : PR < w1.heap.size := by rw [hw1]; simpa using hPl
  have HA0 := HA.out
  rw [← hw1] at HA0
  have HA1 := Lib.hid HA0
  rw [← hw1]
  clear cc hw1 HA HA0 cx c0 c1 c8 cs hMl hPl
  refine wp_region_ext_tail 15 rfl (by kernel_rfl) ?_
  simp only [List.take_succ_cons, List.take_zero, List.drop_succ_cons, List.drop_zero]
  repeat (quiet_step (fail))
  refine wpQuiet_nil ?_
  rintro w' ⟨z, rfl⟩
  go_wp2_with fail
  refine (HA1.out z).mono ?_
  rintro e w2 ⟨hand, rfl, hg⟩
  try dsimp only
  go_upto_region 33 with (fail)
  exact HG.out _ _ (by constructor) hg _ (by assumption)

set_option maxRecDepth 1000000 in
set_option maxHeartbeats 4000000 in
theorem mt_first {a : Act} (M rq xq pos : Nat) (r r1 : Int) (wd wd1 F : Nat) (w : World) (Q : Exit → Act → World → Prop) (R PR D n nq MC nc : Nat) (c0 : w.cell? ⟨M, 0, none⟩ = some (.pointer (some ⟨R, 0, none⟩))) (hq : w.cell? ⟨M, rq + 1, none⟩ = some (.slice (some ⟨D, 0, none⟩) n nq)) (hnq : n ≤ 1000000) (c8 : w.cell? ⟨M, 8, none⟩ = some (.slice (some ⟨MC, 0, none⟩) nc nc)) (hnc : 2 ≤ nc ∧ nc < 100) (hn : n = 0) (hp : pos = 0) (cp : w.cell? ⟨R, 6, none⟩ = some (.string ByteArray.empty)) (c7 : w.cell? ⟨M, 7, none⟩ = some (.bool false)) (c1 : w.cell? ⟨M, 1, none⟩ = some (.pointer (some ⟨PR, 0, none⟩))) (cs : w.cell? ⟨PR, 1, none⟩ = some (.int .i64 1)) (hMl : M < w.heap.size) (hPl : PR < w.heap.size) (hRl : R < w.heap.size) (hPM : PR ≠ MC) (hMM : M ≠ MC) (x0 : Value) (cx : w.cell? ⟨MC, 0, none⟩ = some x0) (fc : w.frozen? ⟨MC, 0, none⟩ = false) (hMCl : MC < w.heap.size) (G : World → Prop) (hadd : ∀ x : Ext (w.setCell ⟨MC, 0, none⟩ (.int .i64 0)), Calls Tryz.prog 80 #[.pointer (some ⟨M, 0, none⟩), .pointer (some ⟨M, rq, none⟩), .int .u32 1, .int .i64 0, .slice (some ⟨MC, 0, none⟩) nc nc, .pointer (some ⟨F, 0, none⟩), .pointer none] x.now fun e w1 => ∃ hand, e = .returned (handPtr hand) ∧ G w1) (hgo : ∀ a w1, MF M rq xq pos r r1 wd wd1 F a → G w1 → Ent mtMid Q a w1) (hfr : MF M rq xq pos r r1 wd wd1 F a) : mtIn.wp Tryz.prog Q a w := by
  cases hfr
  conv => arg 2; whnf
  have hb4 : bits .and .u8 4 4 = 4 := by rfl
  subst hp
  subst hn
  have hncp : (0 : Int) < (nc : Int) := by omega
  have hMM' : MC ≠ M := Ne.symm hMM
  have hPM' : MC ≠ PR := Ne.symm hPM
  have HA := Lib.hid hadd
  clear hadd
  have HG := Lib.hid hgo
  clear hgo
  go_upto_region 32 with (fail)
  rename_i K hK
  obtain ⟨w1, hw1⟩ : ∃ w1, w1 = w.setCell ⟨MC, 0, none⟩ (.int .i64 0) := ⟨_, rfl⟩
  have cc : Chg [MC] w w1 := by rw [hw1]; exact Chg.set _ _ _ _
  have d0 : w1.cell? ⟨M, 0, none⟩ = some (.pointer (some ⟨R, 0, none⟩)) := (World.cell?_of_block (cc.block M hMl (by simpa using hMM))).trans c0
  have d1 : w1.cell? ⟨M, 1, none⟩ = some (.pointer (some ⟨PR, 0, none⟩)) := (World.cell?_of_block (cc.block M hMl (by simpa using hMM))).trans c1
  have d8 : w1.cell? ⟨M, 8, none⟩ = some (.slice (some ⟨MC, 0, none⟩) nc nc) := (World.cell?_of_block (cc.block M hMl (by simpa using hMM))).trans c8
  have ds : w1.cell? ⟨PR, 1, none⟩ = some (.int .i64 1) := (World.cell?_of_block (cc.block PR hPl (by simpa using hPM))).trans cs
  have dM : M < w1.heap.size := by rw [hw1]; simpa using hMl
  have dP : PR < w1.heap.size := by rw [hw1]; simpa using hPl
  have HA0 := HA.out
  rw [← hw1] at HA0
  have HA1 := Lib.hid HA0
  rw [← hw1]
  clear cc hw1 HA HA0 cx c0 c1 c8 cs hMl hPl
  refine wp_region_ext_tail 15 rfl (by kernel_rfl) ?_
  simp only [List.take_succ_cons, List.take_zero, List.drop_succ_cons, List.drop_zero]
  repeat (quiet_step (fail))
  refine wpQuiet_nil ?_
  rintro w' ⟨z, rfl⟩
  go_wp2_with fail
  refine (HA1.out z).mono ?_
  rintro e w2 ⟨hand, rfl, hg⟩
  try dsimp only
  go_upto_region 33 with (fail)
  exact HG.out _ _ (by constructor) hg _ (by assumption)

set_option maxRecDepth 1000000 in
set_option maxHeartbeats 4000000 in
theorem mt_on {a : Act} (M rq xq pos : Nat) (r r1 : Int) (wd wd1 F : Nat) (w : World) (Q : Exit → Act → World → Prop) (R PR D n nq MC nc : Nat) (c0 : w.cell? ⟨M, 0, none⟩ = some (.pointer (some ⟨R, 0, none⟩))) (hq : w.cell? ⟨M, rq + 1, none⟩ = some (.slice (some ⟨D, 0, none⟩) n nq)) (hnq : n ≤ 1000000) (c8 : w.cell? ⟨M, 8, none⟩ = some (.slice (some ⟨MC, 0, none⟩) nc nc)) (hnc : 2 ≤ nc ∧ nc < 100) (hn : 0 < n) (c7 : w.cell? ⟨M, 7, none⟩ = some (.bool true)) (hgo : ∀ a, MF M rq xq pos r r1 wd wd1 F a → Ent mtMid Q a w) (hfr : MF M rq xq pos r r1 wd wd1 F a) : mtIn.wp Tryz.prog Q a w := by
  cases hfr
  conv => arg 2; whnf
  have hn0 : ¬ (n : Int) = 0 := by omega
  have HG := Lib.hid hgo
  clear hgo
  go_upto_region 33 with (fail)
  exact HG.out _ (by constructor) _ (by assumption)

set_option maxRecDepth 1000000 in
set_option maxHeartbeats 4000000 in
theorem mt_stop {a : Act} (M rq xq pos : Nat) (r r1 : Int) (wd wd1 F : Nat) (w : World) (Q : Exit → Act → World → Prop) (p2 : Nat) (e2 : (pos : Int) + (wd : Int) = (p2 : Int)) (hp2 : p2 < 100000000000) (x0 : Value) (cF : w.cell? ⟨F, 0, none⟩ = some x0) (fF : w.frozen? ⟨F, 0, none⟩ = false) (hFl : F < w.heap.size) (G : World → Prop) (hstep : Calls Tryz.prog 81 #[.pointer (some ⟨M, 0, none⟩), .pointer (some ⟨M, rq, none⟩), .pointer (some ⟨M, xq, none⟩), .int .i64 pos, .int .i64 p2, .int .i32 r, .pointer (some ⟨F, 0, none⟩)] (w.setCell ⟨F, 0, none⟩ (.int .u64 (flagOf r r1))) fun e w1 => e = .returned (.tuple #[]) ∧ G w1) (hwd : wd = 0) (hgo : ∀ a w1, MF M rq xq pos r r1 wd wd1 F a → G w1 → Q (.exit 2) a w1) (hfr : MF M rq xq pos r r1 wd wd1 F a) : Ent mtMid Q a w := by
  cases hfr
  intro K hK
  conv => arg 2; whnf
  subst hwd
  have e2b : pos = p2 := by omega
  subst e2b
  have hfl := flag_new r r1 w
  have HF1 := Lib.hid hfl
  have HS := Lib.hid hstep
  clear hfl hstep
  have HG := Lib.hid hgo
  clear hgo
  go_wp2_with (first | (go_at_call 79; (with_reducible refine HF1.out.mono ?_); rintro e w1 ⟨rfl, rfl⟩))
  conv => arg 2; whnf
  go_wp2_with (first | (go_at_call 81; (with_reducible refine HS.out.mono ?_); rintro e w1 ⟨rfl, hg⟩))
  exact HG.out _ _ (by constructor) hg

set_option maxRecDepth 1000000 in
set_option maxHeartbeats 4000000 in
theorem mt_last {a : Act} (M rq xq pos : Nat) (r r1 : Int) (wd wd1 F : Nat) (w : World) (Q : Exit → Act → World → Prop) (p2 : Nat) (e2 : (pos : Int) + (wd : Int) = (p2 : Int)) (hp2 : p2 < 100000000000) (x0 : Value) (cF : w.cell? ⟨F, 0, none⟩ = some x0) (fF : w.frozen? ⟨F, 0, none⟩ = false) (hFl : F < w.heap.size) (G : World → Prop) (hstep : Calls Tryz.prog 81 #[.pointer (some ⟨M, 0, none⟩), .pointer (some ⟨M, rq, none⟩), .pointer (some ⟨M, xq, none⟩), .int .i64 pos, .int .i64 p2, .int .i32 r, .pointer (some ⟨F, 0, none⟩)] (w.setCell ⟨F, 0, none⟩ (.int .u64 (flagOf r r1))) fun e w1 => e = .returned (.tuple #[]) ∧ G w1) (MC nc : Nat) (h8 : ∀ w1, G w1 → w1.cell? ⟨M, 8, none⟩ = some (.slice (some ⟨MC, 0, none⟩) nc nc)) (hnc : 0 < nc ∧ nc < 100) (hwd : 0 < wd) (hr1 : r1 = -1) (hgo : ∀ a w1, MF M xq rq p2 r1 r1 wd1 wd1 F a → G w1 → Q .normal a w1) (hfr : MF M rq xq pos r r1 wd wd1 F a) : Ent mtMid Q a w := by
  cases hfr
  intro K hK
  conv => arg 2; whnf
  have hwd0 : ¬ (wd : Int) = 0 := by omega
  have hnc0 : ¬ (nc : Int) = 0 := by omega
  have hnc1 : ¬ nc = 0 := by omega
  subst hr1
  have hfl := flag_new r (-1) w
  have HF1 := Lib.hid hfl
  have HS := Lib.hid hstep
  clear hfl hstep
  have HG := Lib.hid hgo
  clear hgo
  go_wp2_with (first | (go_at_call 79; (with_reducible refine HF1.out.mono ?_); rintro e w1 ⟨rfl, rfl⟩))
  conv => arg 2; whnf
  go_wp2_with (first | (go_at_call 81; (with_reducible refine HS.out.mono ?_); rintro e w1 ⟨rfl, hg⟩; have d8 := h8 _ hg))
  exact HG.out _ _ (by constructor) hg

set_option maxRecDepth 1000000 in
set_option maxHeartbeats 4000000 in
theorem mt_next {a : Act} (M rq xq pos : Nat) (r r1 : Int) (wd wd1 F : Nat) (w : World) (Q : Exit → Act → World → Prop) (p2 : Nat) (e2 : (pos : Int) + (wd : Int) = (p2 : Int)) (hp2 : p2 < 100000000000) (x0 : Value) (cF : w.cell? ⟨F, 0, none⟩ = some x0) (fF : w.frozen? ⟨F, 0, none⟩ = false) (hFl : F < w.heap.size) (G : World → Prop) (hstep : Calls Tryz.prog 81 #[.pointer (some ⟨M, 0, none⟩), .pointer (some ⟨M, rq, none⟩), .pointer (some ⟨M, xq, none⟩), .int .i64 pos, .int .i64 p2, .int .i32 r, .pointer (some ⟨F, 0, none⟩)] (w.setCell ⟨F, 0, none⟩ (.int .u64 (flagOf r r1))) fun e w1 => e = .returned (.tuple #[]) ∧ G w1) (MC nc : Nat) (h8 : ∀ w1, G w1 → w1.cell? ⟨M, 8, none⟩ = some (.slice (some ⟨MC, 0, none⟩) nc nc)) (hnc : 0 < nc ∧ nc < 100) (hwd : 0 < wd) (hr1 : r1 ≠ -1) (p3 : Nat) (e3 : (p2 : Int) + (wd1 : Int) = (p3 : Int)) (hp3 : p3 < 100000000000) (r2 : Int) (wd2 : Nat) (hst : ∀ w1, G w1 → Calls Tryz.prog 160 #[.pointer (some ⟨M, 9, none⟩), .int .i64 p3] w1 fun e w2 => e = .returned (.tuple #[.int .i32 r2, .int .i64 wd2]) ∧ w2 = w1) (hgo : ∀ a w1, MF M xq rq p2 r1 r2 wd1 wd2 F a → G w1 → Q .normal a w1) (hfr : MF M rq xq pos r r1 wd wd1 F a) : Ent mtMid Q a w := by
  cases hfr
  intro K hK
  conv => arg 2; whnf
  have hwd0 : ¬ (wd : Int) = 0 := by omega
  have hnc0 : ¬ (nc : Int) = 0 := by omega
  have hnc1 : ¬ nc = 0 := by omega
  have hfl := flag_new r r1 w
  have HF1 := Lib.hid hfl
  have H160 := Lib.hid hst
  clear hst
  have HS := Lib.hid hstep
  clear hfl hstep
  have HG := Lib.hid hgo
  clear hgo
  go_wp2_with (first | (go_at_call 79; (with_reducible refine HF1.out.mono ?_); rintro e w1 ⟨rfl, rfl⟩))
  conv => arg 2; whnf
  go_wp2_with (first | (go_at_call 81; (with_reducible refine HS.out.mono ?_); rintro e w1 ⟨rfl, hg⟩; have d8 := h8 _ hg) | (go_at_call 160; (with_reducible refine (H160.out _ hg).mono ?_); rintro e w2 ⟨rfl, rfl⟩))
  exact HG.out _ _ (by constructor) hg

end Go.Proofs.YtooggfopjaaejaaGreatDoor
namespace Go.Proofs.YtooggfopjaaejaaGreatDoor
open Go.RowKit Go.Rx

/-- The queues change their parts. -/
def SL.swap (Y : SL) : SL := { Y with L := { Y.L with qo := Y.ro, S := Y.Sr, D := Y.Dr, tS := Y.tSr, tD := Y.tDr }, ro := Y.L.qo, Dr := Y.L.D, Sr := Y.L.S, tDr := Y.L.tD, tSr := Y.L.tS }
/-- Another flag. -/
def SL.fl (Y : SL) (f : Int) : SL := { Y with L := { Y.L with fl := f } }

structure MOk (Y : SL) : Prop where
  so : SOk Y
  mr : Y.L.ml[Y.ro]? = some (.slice (some ⟨Y.Sr, 0, none⟩) Y.L.nq Y.L.nq)
  m0 : Y.L.ml[0]? = some (.pointer (some ⟨Y.L.R, 0, none⟩))

section
variable {Y : SL} {E : Env} {p k : Nat} {mcap : List Int} {m : Option (List Int)} {n : List CE} {pool : List Th} {rem q : List CE} {pb : Option (Nat × Nat)} {len PB PB' j : Nat} {w : World}

theorem MOk.swap (h : MOk Y) : MOk Y.swap :=
  ⟨⟨{ len := h.so.ok.len, m1 := h.so.ok.m1, mq := h.mr, m8 := h.so.ok.m8, qo := h.so.ro, np := h.so.ok.np, nq := h.so.ok.nq, nc := h.so.ok.nc, ops := h.so.ok.ops, out := h.so.ok.out, alt := h.so.ok.alt, cap := h.so.ok.cap, ew := h.so.ok.ew }, h.so.ok.qo, Ne.symm h.so.ne⟩, h.so.ok.mq, h.m0⟩

theorem MOk.fl (h : MOk Y) (f : Int) : MOk (Y.fl f) :=
  ⟨⟨{ len := h.so.ok.len, m1 := h.so.ok.m1, mq := h.so.ok.mq, m8 := h.so.ok.m8, qo := h.so.ok.qo, np := h.so.ok.np, nq := h.so.ok.nq, nc := h.so.ok.nc, ops := h.so.ok.ops, out := h.so.ok.out, alt := h.so.ok.alt, cap := h.so.ok.cap, ew := h.so.ok.ew }, h.so.ro, h.so.ne⟩, h.mr, h.m0⟩

/-- A step's rows are forgotten. -/
theorem StepMem.fresh (h : StepMem Y mcap m n pool [] pb 0 q PB w) (hB : pool.length ≤ PB') : StepMem Y mcap m n pool [] pb 0 [] PB' w := by
  obtain ⟨dl, a, b, c⟩ := h.rows.d
  exact ⟨h.st, h.cap, ⟨⟨dl, a, b, fun i e hi => by simp at hi⟩, h.rows.s⟩, by simpa using hB, h.below⟩

theorem blks_tot {L : AL} (h : ∀ pc t, (pc, some t) ∈ n → t.1.2 ≠ L.MC) (pool : List Th) : (L.cb L.MC).blks n pool none = [L.M, L.S, L.D, L.F, L.MC] ++ pbBlk L.pb ++ aBlks n ++ pBlks pool := by
  have hq : qBlks L.MC n = aBlks n := qBlks_all h
  simp only [AL.blks, AL.cb, hq, hBlks, List.append_nil]

/-- The queue that was filled becomes the running one. -/
theorem StepMem.swap (mo : MOk Y) (h : StepMem Y mcap m q pool [] pb 0 [] PB w) (hB : pool.length + q.length ≤ PB') : StepMem Y.swap mcap m [] pool q pb q.length q PB' w := by
  have hro := mo.so.ro
  have hqo : Y.L.qo = 2 ∨ Y.L.qo = 4 := mo.so.ok.qo
  have hne := mo.so.ne
  have st := h.st.st
  obtain ⟨dl, a1, a2, a3⟩ := h.rows.d
  obtain ⟨sp, b1, b2⟩ := h.rows.s
  obtain ⟨rest, d1, d2⟩ := st.dense
  obtain ⟨sq, s1, s2, s3⟩ := st.sparse
  have hc : ∀ x, List.count x ((Y.swap.at pb q.length m.isSome).tot [] pool q [] ([Y.swap.Dr, Y.swap.Sr] ++ Y.swap.X)) = List.count x ((Y.at pb 0 m.isSome).tot q pool [] [] ([Y.Dr, Y.Sr] ++ Y.X)) := by
    intro x
    have e1 : (Y.swap.at pb q.length m.isSome).tot [] pool q [] ([Y.swap.Dr, Y.swap.Sr] ++ Y.swap.X) = ([Y.L.M] ++ [Y.Sr] ++ [Y.Dr] ++ [Y.L.F, Y.L.MC]) ++ pbBlk pb ++ aBlks [] ++ pBlks pool ++ aBlks q ++ pBlks [] ++ ([Y.L.D] ++ [Y.L.S] ++ Y.X) := rfl
    have e2 : (Y.at pb 0 m.isSome).tot q pool [] [] ([Y.Dr, Y.Sr] ++ Y.X) = ([Y.L.M] ++ [Y.L.S] ++ [Y.L.D] ++ [Y.L.F, Y.L.MC]) ++ pbBlk pb ++ aBlks q ++ pBlks pool ++ aBlks [] ++ pBlks [] ++ ([Y.Dr] ++ [Y.Sr] ++ Y.X) := rfl
    rw [e1, e2]
    simp only [List.count_append]
    omega
  have hap : ((Y.swap.at pb q.length m.isSome).tot [] pool q [] ([Y.swap.Dr, Y.swap.Sr] ++ Y.swap.X)).Nodup := nodup_of_count h.st.apart (fun x => by rw [hc]; exact Nat.le_refl _)
  have hge : ∀ b, b ∈ (Y.swap.at pb q.length m.isSome).tot [] pool q [] ([Y.swap.Dr, Y.swap.Sr] ++ Y.swap.X) → Y.L.N ≤ b ∧ b < w.heap.size := fun b hb => h.st.ge b (mem_of_count (fun x => by rw [hc]; exact Nat.le_refl _) b hb)
  have hsub : ∀ x, List.count x (((Y.swap.at pb q.length m.isSome).cb Y.L.MC).blks [] pool none) ≤ List.count x ((Y.swap.at pb q.length m.isSome).tot [] pool q [] ([Y.swap.Dr, Y.swap.Sr] ++ Y.swap.X)) := by
    intro x
    have e1 : ((Y.swap.at pb q.length m.isSome).cb Y.L.MC).blks [] pool none = [Y.L.M, Y.Sr, Y.Dr, Y.L.F, Y.L.MC] ++ pbBlk pb ++ pBlks pool := by
      simp [AL.blks, AL.cb, SL.at, SL.swap, AL.pl, AL.mlo, qBlks, hBlks]
    have e2 : (Y.swap.at pb q.length m.isSome).tot [] pool q [] ([Y.swap.Dr, Y.swap.Sr] ++ Y.swap.X) = [Y.L.M, Y.Sr, Y.Dr, Y.L.F, Y.L.MC] ++ pbBlk pb ++ aBlks [] ++ pBlks pool ++ aBlks q ++ pBlks [] ++ ([Y.L.D] ++ [Y.L.S] ++ Y.X) := rfl
    rw [e1, e2]
    simp only [List.count_append]
    omega
  refine ⟨⟨{ prog := st.prog
             mblk := ?_
             dense := ⟨dl, ?_, ?_⟩
             sparse := ⟨sp, b1, b2, fun i e hi => by simp at hi⟩
             pcs := ⟨List.nodup_nil, fun e he => by cases he⟩
             thr := fun pc t ht => by cases ht
             pthr := st.pthr
             prow := st.prow
             pcap := st.pcap
             hthr := fun T hT => by cases hT
             cap := st.cap
             clen := st.clen
             flag := st.flag
             apart := nodup_of_count hap hsub
             ge := fun b hb => hge b (mem_of_count hsub b hb) }, (fun pc t ht => by cases ht), ?_, (fun t ht => by cases ht), hap, hge⟩, h.cap, ⟨⟨_, d1, ?_, ?_⟩, sq, s1, s2⟩, hB, h.below⟩
  · have e : (((Y.swap.at pb q.length m.isSome).cb Y.L.MC).mCells ([] : List CE).length pool.length) = (((Y.at pb 0 m.isSome).cb Y.L.MC).mCells q.length pool.length) := by
      show ((((Y.L.ml.set (Y.L.qo + 1) _).set 7 _).set (Y.ro + 1) _).set 6 _) = ((((Y.L.ml.set (Y.ro + 1) _).set 7 _).set (Y.L.qo + 1) _).set 6 _)
      rw [List.set_comm (i := Y.L.qo + 1) (j := 7) _ _ (by omega), List.set_comm (i := Y.L.qo + 1) (j := Y.ro + 1) _ _ (by omega), List.set_comm (i := 7) (j := Y.ro + 1) _ _ (by omega)]
      rfl
    have this : Blk w Y.L.M (((Y.at pb 0 m.isSome).cb Y.L.MC).mCells q.length pool.length) Y.L.tM := st.mblk
    rw [← e] at this
    exact this
  · exact a1
  · show 0 * 2 + dl.length = Y.L.nq * 2
    omega
  · intro pc t ht
    obtain ⟨r1, r2, r3⟩ := st.thr pc t ht
    exact ⟨r1, r2 (h.st.noMC pc t ht), r3⟩
  · rw [List.length_append, dCells_length]; exact d2
  · intro i e hi
    exact dense_at q rest i e hi

/-- The flag is written. -/
theorem StepMem.flag (h : StepMem Y mcap m n pool rem pb len q PB w) (f : Int) : StepMem (Y.fl f) mcap m n pool rem pb len q PB (w.setCell ⟨Y.L.F, 0, none⟩ (.int .u64 f)) := by
  have st := h.st.st
  have hF : Y.L.F ∈ (Y.at pb len m.isSome).tot n pool rem [] ([Y.Dr, Y.Sr] ++ Y.X) := by simp [AL.tot, SL.at, AL.pl, AL.mlo]
  have hFg := h.st.ge _ hF
  have x := Chg.set w Y.L.F 0 (.int .u64 f)
  have hN : ∀ b, b ∈ [Y.L.F] → Y.L.N ≤ b := by intro b hb; simp at hb; rw [hb]; exact hFg.1
  have e0 : (Y.at pb len m.isSome).tot n pool rem [] ([Y.Dr, Y.Sr] ++ Y.X) = [Y.L.F] ++ [] ++ [] ++ [] ++ [] ++ [] ++ [] ∨ True := .inr trivial
  have hcnt : ∀ b, List.count b ((Y.at pb len m.isSome).tot n pool rem [] ([Y.Dr, Y.Sr] ++ Y.X)) = List.count b ([Y.L.M] ++ [Y.L.S] ++ [Y.L.D] ++ [Y.L.MC] ++ pbBlk pb ++ aBlks n ++ pBlks pool ++ aBlks rem ++ ([Y.Dr] ++ [Y.Sr] ++ Y.X)) + List.count b [Y.L.F] := by
    intro b
    have e2 : (Y.at pb len m.isSome).tot n pool rem [] ([Y.Dr, Y.Sr] ++ Y.X) = ([Y.L.M] ++ [Y.L.S] ++ [Y.L.D] ++ [Y.L.F] ++ [Y.L.MC]) ++ pbBlk pb ++ aBlks n ++ pBlks pool ++ aBlks rem ++ pBlks [] ++ ([Y.Dr] ++ [Y.Sr] ++ Y.X) := rfl
    have e3 : pBlks [] = [] := rfl
    rw [e2, e3]
    simp only [List.count_append, List.count_nil]
    omega
  have hnF : Y.L.F ∉ [Y.L.M] ++ [Y.L.S] ++ [Y.L.D] ++ [Y.L.MC] ++ pbBlk pb ++ aBlks n ++ pBlks pool ++ aBlks rem ++ ([Y.Dr] ++ [Y.Sr] ++ Y.X) := by
    intro hm
    have h1 := List.count_pos_iff.2 hm
    have h2 := (List.nodup_iff_count.1 h.st.apart) Y.L.F
    have h3 := hcnt Y.L.F
    have h4 : List.count Y.L.F [Y.L.F] = 1 := by simp
    omega
  have out : ∀ b, b ∈ [Y.L.M] ++ [Y.L.S] ++ [Y.L.D] ++ [Y.L.MC] ++ pbBlk pb ++ aBlks n ++ pBlks pool ++ aBlks rem ++ ([Y.Dr] ++ [Y.Sr] ++ Y.X) → b ∉ [Y.L.F] := by
    intro b hb hm
    simp at hm
    subst hm
    exact hnF hb
  have oM : Y.L.M ∉ [Y.L.F] := out _ (by simp)
  have oS : Y.L.S ∉ [Y.L.F] := out _ (by simp)
  have oD : Y.L.D ∉ [Y.L.F] := out _ (by simp)
  have oC : Y.L.MC ∉ [Y.L.F] := out _ (by simp)
  have oDr : Y.Dr ∉ [Y.L.F] := out _ (by simp)
  have oSr : Y.Sr ∉ [Y.L.F] := out _ (by simp)
  have oP : ∀ b, b ∈ pbBlk pb → b ∉ [Y.L.F] := fun b hb => out b (by simp only [List.mem_append]; simp [hb])
  have oA : ∀ b, b ∈ aBlks n → b ∉ [Y.L.F] := fun b hb => out b (by simp only [List.mem_append]; simp [hb])
  have oPl : ∀ b, b ∈ pBlks pool → b ∉ [Y.L.F] := fun b hb => out b (by simp only [List.mem_append]; simp [hb])
  have oR : ∀ b, b ∈ aBlks rem → b ∉ [Y.L.F] := fun b hb => out b (by simp only [List.mem_append]; simp [hb])
  obtain ⟨rest, d1, d2⟩ := st.dense
  obtain ⟨sq, s1, s2, s3⟩ := st.sparse
  refine ⟨⟨{ prog := st.prog.chg x hN
             mblk := st.mblk.chg x oM
             dense := ⟨rest, d1.chg x oD, d2⟩
             sparse := ⟨sq, s1.chg x oS, s2, s3⟩
             pcs := st.pcs
             thr := ?_
             pthr := ?_
             prow := prow_chg st.prow x (fun b hb => oP _ (by have hb2 : pb = some b := hb; rw [hb2]; simp [pbBlk]))
             pcap := st.pcap
             hthr := fun T hT => by cases hT
             cap := st.cap.chg x oC
             clen := st.clen
             flag := st.flag.set 0 (.int .u64 f)
             apart := st.apart
             ge := fun b hb => ⟨(st.ge b hb).1, Nat.lt_of_lt_of_le (st.ge b hb).2 x.size⟩ }, h.st.noMC, ?_, (fun t ht => by cases ht), h.st.apart, fun b hb => ⟨(h.st.ge b hb).1, Nat.lt_of_lt_of_le (h.st.ge b hb).2 x.size⟩⟩, h.cap, ⟨(h.rows.chg x oDr oSr).d, (h.rows.chg x oDr oSr).s⟩, h.bound, h.below.trans (x.below st.prog.le hN)⟩
  · intro pc t ht
    obtain ⟨r1, r2, r3⟩ := st.thr pc t ht
    obtain ⟨m1, m2⟩ := mem_aBlks ht
    exact ⟨r1.chg x (oA _ m1), fun hn => (r2 hn).chg x (oA _ m2), r3⟩
  · intro i t ht
    obtain ⟨⟨v, r1⟩, l, r2, r3⟩ := st.pthr i t ht
    obtain ⟨m1, m2⟩ := mem_pBlks ht
    exact ⟨⟨v, r1.chg x (oPl _ m1)⟩, l, r2.chg x (oPl _ m2), r3⟩
  · intro pc t ht
    obtain ⟨r1, r2, r3⟩ := h.st.rthr pc t ht
    obtain ⟨m1, m2⟩ := mem_aBlks ht
    exact ⟨r1.chg x (oR _ m1), r2.chg x (oR _ m2), r3⟩

end
end Go.Proofs.YtooggfopjaaejaaGreatDoor
namespace Go.Proofs.YtooggfopjaaejaaGreatDoor
open Go.RowKit Go.Rx

section
variable {Y : SL} {E : Env} {p k : Nat} {mcap : List Int} {q : List CE} {pool : List Th} {pb : Option (Nat × Nat)} {PB : Nat} {w : World}

theorem add_round (mo : MOk Y) (ae : AEnv (Y.L.cb Y.L.MC) E p) (hr : E.rank 1 < k) (hnp : 1 < Y.L.np) (h : StepMem Y mcap none q pool [] pb 0 [] PB w) (x : Ext (w.setCell ⟨Y.L.MC, 0, none⟩ (.int .i64 p))) :
    Calls Tryz.prog 80 #[.pointer (some ⟨Y.L.M, 0, none⟩), .pointer (some ⟨Y.L.M, Y.L.qo, none⟩), .int .u32 1, .int .i64 p, .slice (some ⟨Y.L.MC, 0, none⟩) Y.L.nc Y.L.nc, .pointer (some ⟨Y.L.F, 0, none⟩), .pointer none] x.now fun e w1 =>
      ∃ hand, e = .returned (handPtr hand) ∧ ∃ q1 pool1, StepMem Y (mcap.set 0 p) none q1 pool1 [] pb 0 [] PB w1 ∧ q1.map fg = Env.addF E p k (q.map fg) 1 (mcap.set 0 p) ∧ pool1.length ≤ pool.length := by
  have st0 : AddSt ((Y.at pb 0 false).cb Y.L.MC) mcap q pool none w := h.st.st
  have st1 := st0.setcap 0 p
  have x1 : Chg [] (w.setCell ⟨Y.L.MC, 0, none⟩ (.int .i64 p)) x.now := Chg.of_below x.below
  have st2 := st1.away x1 (fun b _ => by simp) (fun b hb => by cases hb)
  have hok := SL.aok mo.so pb 0 false Y.L.MC
  have ae2 : AEnv ((Y.at pb 0 false).cb Y.L.MC) E p := ae.other rfl rfl rfl
  refine (add_sim hok ae2 k 1 (mcap.set 0 p) q pool none x.now hr (by omega) hnp st2).mono ?_
  rintro e w1 ⟨q1, pool1, hand1, rfl, ho⟩
  have hh : hand1 = none := by rcases ho.new.2 with hh | hh <;> exact hh
  subst hh
  refine ⟨none, rfl, q1, pool1, ?_, ho.eq, ho.moved.le⟩
  obtain ⟨⟨new, hnew, hcl⟩, _⟩ := ho.new
  have cAll : Chg ([Y.L.MC] ++ [] ++ ((Y.at pb 0 false).cb Y.L.MC).blks q pool none) w w1 := ((Chg.set w Y.L.MC 0 (.int .i64 p)).trans x1).trans ho.moved.chg
  have hT0 := blks_tot (L := Y.at pb 0 false) h.st.noMC pool
  have noMC1 : ∀ pc t, (pc, some t) ∈ q1 → t.1.2 ≠ Y.L.MC := by
    intro pc t ht e
    rw [hnew] at ht
    rcases List.mem_append.1 ht with ht | ht
    · exact h.st.noMC pc t ht e
    · have := (hcl _ ht t rfl e).1
      cases this
  have hT1 := blks_tot (L := Y.at pb 0 false) noMC1 pool1
  have hsz : w.heap.size ≤ x.now.heap.size := Nat.le_trans (Chg.set w Y.L.MC 0 (.int .i64 p)).size x1.size
  -- the blocks of the other queue are met by none
  have hX : ∀ b, b ∈ [Y.Dr, Y.Sr] ++ Y.X → b ∉ ((Y.at pb 0 false).cb Y.L.MC).blks q pool none := by
    intro b hb hm
    have h1 := h.st.sep hb
    refine h1 ?_
    have hm2 : b ∈ [(Y.at pb 0 false).M, (Y.at pb 0 false).S, (Y.at pb 0 false).D, (Y.at pb 0 false).F, (Y.at pb 0 false).MC] ++ pbBlk (Y.at pb 0 false).pb ++ aBlks q ++ pBlks pool := by rw [← hT0]; exact hm
    simp only [List.mem_append] at hm2 ⊢
    exact .inl (.inl hm2)
  have hX1 : ∀ b, b ∈ [Y.Dr, Y.Sr] ++ Y.X → b ∉ ((Y.at pb 0 false).cb Y.L.MC).blks q1 pool1 none := by
    intro b hb hm
    rcases ho.moved.blk b hm with hm | hm
    · exact hX b hb hm
    · have := (h.st.ge b (by rw [AL.tot]; exact List.mem_append_right _ hb)).2
      omega
  have eT : (Y.at pb 0 (none : Option (List Int)).isSome).tot q1 pool1 [] [] ([Y.Dr, Y.Sr] ++ Y.X) = ((Y.at pb 0 false).cb Y.L.MC).blks q1 pool1 none ++ ([Y.Dr, Y.Sr] ++ Y.X) := by
    have e3 : aBlks [] = [] := rfl
    have e4 : pBlks [] = [] := rfl
    have e5 : ((Y.at pb 0 false).cb Y.L.MC).blks q1 pool1 none = [Y.L.M, Y.L.S, Y.L.D, Y.L.F, Y.L.MC] ++ pbBlk pb ++ aBlks q1 ++ pBlks pool1 := hT1
    rw [AL.tot, e3, e4, e5, List.append_nil, List.append_nil]
    rfl
  have hXn : ([Y.Dr, Y.Sr] ++ Y.X).Nodup := by
    have := h.st.apart
    rw [AL.tot, List.nodup_append] at this
    exact this.2.1
  have hMCm : Y.L.MC ∈ ((Y.at pb 0 false).cb Y.L.MC).blks q pool none := AL.mem_blks.2 (.inr (.inr (.inr (.inr (.inl rfl)))))
  have hch : ∀ b, b ∈ [Y.L.MC] ++ [] ++ ((Y.at pb 0 false).cb Y.L.MC).blks q pool none → b ∈ ((Y.at pb 0 false).cb Y.L.MC).blks q pool none := by
    intro b hb
    simp only [List.append_nil, List.mem_append, List.mem_singleton] at hb
    rcases hb with hb | hb
    · rw [hb]; exact hMCm
    · exact hb
  have hN : ∀ b, b ∈ [Y.L.MC] ++ [] ++ ((Y.at pb 0 false).cb Y.L.MC).blks q pool none → Y.L.N ≤ b := fun b hb => (st0.ge b (hch b hb)).1
  refine ⟨⟨ho.st, noMC1, (fun pc t ht => by cases ht), (fun t ht => by cases ht), ?_, ?_⟩, (fun c hc => by cases hc), h.rows.chg cAll (fun hm => hX _ (by simp) (hch _ hm)) (fun hm => hX _ (by simp) (hch _ hm)), ?_, h.below.trans (cAll.below st0.prog.le hN)⟩
  · rw [eT, List.nodup_append]
    exact ⟨ho.st.apart, hXn, fun a ha b hb e => hX1 b hb (e ▸ ha)⟩
  · intro b hb
    rw [eT] at hb
    rcases List.mem_append.1 hb with hb | hb
    · exact ho.st.ge b hb
    · have := h.st.ge b (by rw [AL.tot]; exact List.mem_append_right _ hb)
      exact ⟨this.1, Nat.lt_of_lt_of_le this.2 cAll.size⟩
  · have h1 := h.bound
    have h2 := ho.moved.le
    simp at h1 ⊢
    omega

end
end Go.Proofs.YtooggfopjaaejaaGreatDoor
namespace Go.Rx
namespace Env
variable {E E' : Env}

/-- Where nothing is taken, a step is the same whatever the empty widths are. -/
theorem stepF_same (p k : Nat) (hp : E'.prog = E.prog) (hs : E'.st = E.st) (ht : E'.takes = E.takes) (h0 : ∀ pc, E.takes (E.prog pc) (E.st p).1 = false) : ∀ (r n : List Entry) (m : Option (List Int)), stepF E' p k r n m = stepF E p k r n m
  | [], _, _ => rfl
  | (_, none) :: r, n, m => stepF_same p k hp hs ht h0 r n m
  | (pc, some c) :: r, n, m => by
    unfold stepF
    rw [hp, hs, ht]
    split
    · rfl
    · rw [if_neg (by rw [h0]; simp), if_neg (by rw [h0]; simp)]
      exact stepF_same p k hp hs ht h0 r n m

/-- What holds of the running queue at the loop's head: c0 the captures at the begin, r the result. -/
structure Head (E : Env) (c0 r : List Int) (p : Nat) (q : List Entry) (m : Option (List Int)) (mcap : List Int) : Prop where
  waits : Waits E q
  met : MetAll E p q
  zero : p = 0 → q = [] ∧ m = none ∧ mcap.set 0 ((0 : Nat) : Int) = c0
  val : p ≠ 0 → (val E p q).or m = some r

/-- What holds of it behind the add. -/
structure Full (E : Env) (r : List Int) (p : Nat) (q : List Entry) (m : Option (List Int)) : Prop where
  waits : Waits E q
  met : MetAll E p q
  val : (val E p q).or m = some r

theorem Head.add {c0 r : List Int} {p k : Nat} {q : List Entry} {mcap : List Int} (an : Anch E 1) (hk : E.top ≤ k) (h : Head E c0 r p q none mcap) (hr : res E 1 0 c0 = some r) :
    Full E r p (addF E p k q 1 (mcap.set 0 (p : Int))) none := by
  obtain ⟨v, a⟩ := metAll_one p k 1 (mcap.set 0 (p : Int)) an hk q h.met
  refine ⟨addF_waits an.ok p k q 1 _ h.waits, a, ?_⟩
  rw [v, Option.or_none]
  by_cases hp : p = 0
  · subst hp
    obtain ⟨h1, _, h3⟩ := h.zero rfl
    rw [h1, h3, hr]
    rfl
  · have := h.val hp
    rw [Option.or_none] at this
    rw [an.begin p _ (by omega), Option.or_none, this]

theorem Head.on {c0 r c : List Int} {p : Nat} {q : List Entry} {mcap : List Int} (h : Head E c0 r p q (some c) mcap) : Full E r p q (some c) := by
  refine ⟨h.waits, h.met, h.val fun hp => ?_⟩
  have := (h.zero hp).2.1
  cases this

theorem Head.dead {c0 r : List Int} {p : Nat} {q : List Entry} {m : Option (List Int)} {mcap : List Int} (h : Head E c0 r p q m mcap) (hp : p ≠ 0) (hq : q = []) : m = some r := by
  have := h.val hp
  rw [hq] at this
  simpa [Env.val] using this

theorem Full.next {c0 r : List Int} {p k : Nat} {q : List Entry} {m : Option (List Int)} (an : Anch E 1) (hk : E.top ≤ k) (h : Full E r p q m) (hp : p < E.n) {n : List Entry} {m1 : Option (List Int)} (hs : (n, m1) = stepF E p k q [] m) (mcap : List Int) :
    Head E c0 r (p + (E.st p).2) n m1 mcap := by
  obtain ⟨v, w, a⟩ := stepF_spec an.ok an.zero p k hk q [] m h.waits (fun _ _ hh => by cases hh) (metAll_nil _)
  rw [← hs] at v w a
  have := an.on p hp
  refine ⟨w, a, fun e => by omega, fun _ => ?_⟩
  rw [v, ← h.val]
  rfl

theorem Full.stop {r : List Int} {p k : Nat} {q : List Entry} {m : Option (List Int)} (an : Anch E 1) (hk : E.top ≤ k) (h : Full E r p q m) (hp : E.n ≤ p) {n : List Entry} {m1 : Option (List Int)} (hs : (n, m1) = stepF E p k q [] m) :
    n = [] ∧ m1 = some r := by
  obtain ⟨v, w, a⟩ := stepF_spec an.ok an.zero p k hk q [] m h.waits (fun _ _ hh => by cases hh) (metAll_nil _)
  have h1 := stepF_none (E := E) p k (an.stop p hp).2 q [] m
  rw [← hs] at v h1
  dsimp only at v h1
  refine ⟨h1, ?_⟩
  rw [h1] at v
  have e := h.val
  simp only [Env.val, Option.none_or] at v
  rw [v, e]

end Env
end Go.Rx
namespace Go.Proofs.YtooggfopjaaejaaGreatDoor
open Go.RowKit Go.Rx

/-- A search over a program and a text, the empty widths apart. -/
def envAll (pg : Nat → Inst) (s : ByteArray) (rank : Nat → Nat) (top : Nat) : Env := { envAt pg s rank top with ew := fun _ _ => true }

/-- What is asked of the program's table. -/
structure Table (pg : Nat → Inst) (np : Nat) : Prop where
  t7 : ∀ pc, 0 < pc → pc < np → (pg pc).op = 7 → ClassLen (pg pc).rune.length
  t8 : ∀ pc, 0 < pc → pc < np → (pg pc).op = 8 → ∃ x, (pg pc).rune = [x]

theorem ok_all {pg : Nat → Inst} {s : ByteArray} {rank : Nat → Nat} {top : Nat} (h : (envAt pg s rank top).Ok) : (envAll pg s rank top).Ok :=
  ⟨h.wide, h.rank_lt, h.ends, h.ops, h.alt, h.free⟩

theorem rune_bd (s : ByteArray) (hs : Plain s) (p : Nat) : -1 ≤ runeAt s p ∧ runeAt s p < 1114112 ∧ (runeAt s p < 0 ↔ ¬ p < s.size) := by
  unfold runeAt
  split
  · rename_i h
    have := hs p h
    refine ⟨by omega, by omega, by omega⟩
  · rename_i h
    exact ⟨by omega, by omega, by omega⟩

theorem ahead_bd (s : ByteArray) (hs : Plain s) (p : Nat) (hp : p ≤ s.size) : -1 ≤ runeAhead s p ∧ runeAhead s p < 1114112 ∧ (runeAhead s p < 0 ↔ p = 0) := by
  unfold runeAhead
  split
  · rename_i h
    exact ⟨by omega, by omega, by omega⟩
  · rename_i h
    obtain ⟨a, b, c⟩ := rune_bd s hs (p - 1)
    refine ⟨a, b, ?_⟩
    rw [c]
    omega

section
variable {Y : SL} {s : ByteArray} {rank : Nat → Nat} {top p k : Nat}

/-- The flags of a place. -/
theorem aenv_at (hs : Plain s) (hE : (envAt Y.L.pg s rank top).Ok) (hp : p ≤ s.size) (hf : Y.L.fl = flagOf (runeAhead s p) (runeAt s p)) : AEnv (Y.L.cb Y.L.MC) (envAt Y.L.pg s rank top) p := by
  obtain ⟨a1, a2, a3⟩ := ahead_bd s hs p hp
  obtain ⟨b1, b2, b3⟩ := rune_bd s hs p
  refine ⟨hE, fun pc _ _ => rfl, fun w => ?_, fun w => ?_⟩
  · have h := flag_begin (flagOf (runeAhead s p) (runeAt s p)) w
    rw [flag_hi _ _ a1 a2] at h
    have e : (envAt Y.L.pg s rank top).ew 4 p = decide (runeAhead s p < 0) := by
      show decide (p = 0) = _
      exact decide_eq_decide.2 a3.symm
    rw [e]
    show Calls _ _ #[.int .u64 Y.L.fl, .int .u8 4] _ _
    rw [hf]
    exact h
  · have h := flag_end (flagOf (runeAhead s p) (runeAt s p)) w
    rw [flag_lo _ _ b1 b2] at h
    have e : (envAt Y.L.pg s rank top).ew 8 p = decide (runeAt s p < 0) := by
      show decide (p = s.size) = _
      refine decide_eq_decide.2 ?_
      rw [b3]
      omega
    rw [e]
    show Calls _ _ #[.int .u64 Y.L.fl, .int .u8 8] _ _
    rw [hf]
    exact h

/-- Behind the text. -/
theorem aenv_all (hE : (envAt Y.L.pg s rank top).Ok) (hf : Y.L.fl = flagOf (-1) (-1)) : AEnv (Y.L.cb Y.L.MC) (envAll Y.L.pg s rank top) p := by
  refine ⟨ok_all hE, fun pc _ _ => rfl, fun w => ?_, fun w => ?_⟩
  · have h := flag_begin (flagOf (-1) (-1)) w
    rw [flag_hi _ _ (by omega) (by omega)] at h
    show Calls _ _ #[.int .u64 Y.L.fl, .int .u8 4] _ _
    rw [hf]
    exact h
  · have h := flag_end (flagOf (-1) (-1)) w
    rw [flag_lo _ _ (by omega) (by omega)] at h
    show Calls _ _ #[.int .u64 Y.L.fl, .int .u8 8] _ _
    rw [hf]
    exact h

theorem senv_at (hs : Plain s) (tb : Table Y.L.pg Y.L.np) (hE : (envAt Y.L.pg s rank top).Ok) (hk : top ≤ k) (hp : p < s.size) (hf : Y.L.fl = flagOf (runeAt s p) (runeAt s (p + 1))) : SEnv Y (envAt Y.L.pg s rank top) p k := by
  have e : ((envAt Y.L.pg s rank top).st p).2 = 1 := by show (if p < s.size then 1 else 0) = 1; rw [if_pos hp]
  refine ⟨?_, fun pc => Nat.lt_of_lt_of_le (hE.rank_lt pc) hk, fun pc _ _ => rfl, fun pc h1 h2 h3 => ⟨?_, tb.t7 pc h1 h2 h3⟩, fun pc h1 h2 h3 => ?_⟩
  · rw [e]
    refine aenv_at hs hE (by omega) ?_
    have : runeAhead s (p + 1) = runeAt s p := by unfold runeAhead; rw [if_neg (by omega)]; rfl
    rw [this]
    exact hf
  · show (if (Y.L.pg pc).op = 7 then classTakes (Y.L.pg pc).rune (runeAt s p) else decide ((Y.L.pg pc).rune = [runeAt s p])) = _
    rw [if_pos h3]
    rfl
  · obtain ⟨x, hx⟩ := tb.t8 pc h1 h2 h3
    refine ⟨x, hx, ?_⟩
    show (if (Y.L.pg pc).op = 7 then classTakes (Y.L.pg pc).rune (runeAt s p) else decide ((Y.L.pg pc).rune = [runeAt s p])) = decide (x = runeAt s p)
    rw [if_neg (by omega), hx]
    exact decide_eq_decide.2 (by simp)

theorem senv_all (tb : Table Y.L.pg Y.L.np) (hE : (envAt Y.L.pg s rank top).Ok) (hk : top ≤ k) (hf : Y.L.fl = flagOf (-1) (-1)) : SEnv Y (envAll Y.L.pg s rank top) p k := by
  refine ⟨aenv_all hE hf, fun pc => Nat.lt_of_lt_of_le (hE.rank_lt pc) hk, fun pc _ _ => rfl, fun pc h1 h2 h3 => ⟨?_, tb.t7 pc h1 h2 h3⟩, fun pc h1 h2 h3 => ?_⟩
  · show (if (Y.L.pg pc).op = 7 then classTakes (Y.L.pg pc).rune (runeAt s p) else decide ((Y.L.pg pc).rune = [runeAt s p])) = _
    rw [if_pos h3]
    rfl
  · obtain ⟨x, hx⟩ := tb.t8 pc h1 h2 h3
    refine ⟨x, hx, ?_⟩
    show (if (Y.L.pg pc).op = 7 then classTakes (Y.L.pg pc).rune (runeAt s p) else decide ((Y.L.pg pc).rune = [runeAt s p])) = decide (x = runeAt s p)
    rw [if_neg (by omega), hx]
    exact decide_eq_decide.2 (by simp)

/-- What a step of the loop leaves. -/
def Stepped (Y : SL) (PB : Nat) (R : List Env.Entry × Option (List Int)) (w : World) : Prop :=
  ∃ mcap m n pool pb, StepMem Y mcap m n pool [] pb 0 [] PB w ∧ (n.map fg, m) = R

theorem nodup_under : ∀ (n : Nat) (l : List Nat), l.Nodup → (∀ x, x ∈ l → x < n) → l.length ≤ n
  | 0, l, _, h => by
    cases l with
    | nil => exact Nat.le_refl _
    | cons a l => exact absurd (h a (List.mem_cons_self ..)) (by omega)
  | n + 1, l, hn, h => by
    have h1 := nodup_under n (l.erase n) (hn.erase n) (fun x hx => by
      have h2 := (hn.mem_erase_iff).1 hx
      have h3 := h x h2.2
      have h4 := h2.1
      omega)
    rw [List.length_erase] at h1
    split at h1 <;> omega

theorem st_len {L : AL} {c : List Int} {q : List CE} {pool : List Th} {hand : Option Nat} {w : World} (h : AddSt L c q pool hand w) (h0 : 0 < L.np) : q.length < L.np := by
  obtain ⟨hn, hl⟩ := h.pcs
  have h1 := nodup_under L.np (0 :: q.map (·.1)) (List.nodup_cons.2 ⟨fun hm => by
    obtain ⟨e, he, h2⟩ := List.mem_map.1 hm
    have := hl e he
    omega, hn⟩) (fun x hx => by
    rcases List.mem_cons.1 hx with rfl | hx
    · exact h0
    · obtain ⟨e, he, rfl⟩ := List.mem_map.1 hx
      exact (hl e he).2)
  simp at h1
  omega

theorem mid_call {E : Env} {mcap : List Int} {m : Option (List Int)} {q : List CE} {pool : List Th} {pb : Option (Nat × Nat)} {PB : Nat} {w : World} {f : Int} {r : Int} {p2 : Nat} (mo : MOk Y) (h : StepMem Y mcap m q pool [] pb 0 [] PB w) (hw : Env.Waits E (q.map fg)) (se : SEnv ((Y.fl f).swap) E p k) (hPB : PB + Y.L.np < 8900000000000) (hnp : 0 < Y.L.np)
    (hr : (E.st p).1 = r) (hp2 : p + (E.st p).2 = p2) :
    Calls Tryz.prog 81 #[.pointer (some ⟨Y.L.M, 0, none⟩), .pointer (some ⟨Y.L.M, Y.L.qo, none⟩), .pointer (some ⟨Y.L.M, Y.ro, none⟩), .int .i64 p, .int .i64 (p2 : Nat), .int .i32 r, .pointer (some ⟨Y.L.F, 0, none⟩)] (w.setCell ⟨Y.L.F, 0, none⟩ (.int .u64 f)) fun e w1 =>
      e = .returned (.tuple #[]) ∧ Stepped ((Y.fl f).swap) (PB + Y.L.np) (Env.stepF E p k (q.map fg) [] m) w1 := by
  have mo1 := (mo.fl f).swap
  have hlen := st_len h.st.st hnp
  have hb := h.bound
  simp at hb
  have h1 := (h.flag f).swap (PB' := PB + Y.L.np) (mo.fl f) (by have : q.length < Y.L.np := hlen; omega)
  have hq := h.st.st.pcs.2
  have hnq : Y.L.np ≤ Y.L.nq := mo.so.ok.np.1
  have key := step_sim (n := []) mo1.so se hq hw (by show q.length < Y.L.nq; have : q.length < Y.L.np := hlen; omega) hPB mo.m0 h1 rfl
  subst hr
  subst hp2
  refine key.mono ?_
  rintro e w' ⟨rfl, mcap', m', n', pool', pb', hm, hR⟩
  refine ⟨rfl, mcap', m', n', pool', pb', ?_, hR⟩
  exact hm.fresh (by have := hm.bound; simpa using this)

end
end Go.Proofs.YtooggfopjaaejaaGreatDoor
namespace Go.Proofs.YtooggfopjaaejaaGreatDoor
open Go.RowKit Go.Rx

def wdAt (s : ByteArray) (p : Nat) : Nat := if p < s.size then 1 else 0

theorem wdAt_in {s : ByteArray} {p : Nat} (h : p < s.size) : wdAt s p = 1 := by unfold wdAt; rw [if_pos h]
theorem wdAt_out {s : ByteArray} {p : Nat} (h : ¬ p < s.size) : wdAt s p = 0 := by unfold wdAt; rw [if_neg h]
theorem runeAt_out {s : ByteArray} {p : Nat} (h : ¬ p < s.size) : runeAt s p = -1 := by unfold runeAt; rw [dif_neg h]

theorem step_at {o : Nat} (B p : Nat) (s : ByteArray) (hs : Plain s) (hsz : s.size < 100000000000) (w : World) (h : w.cell? ⟨B, o, none⟩ = some (.string s)) :
    Calls Tryz.prog 160 #[.pointer (some ⟨B, o, none⟩), .int .i64 p] w fun e w' => e = .returned (.tuple #[.int .i32 (runeAt s p), .int .i64 (wdAt s p : Nat)]) ∧ w' = w := by
  by_cases hp : p < s.size
  · rw [wdAt_in hp]
    have e : runeAt s p = ((s[p]'hp).toNat : Nat) := by unfold runeAt; rw [dif_pos hp]
    rw [e]
    exact step_in B p s w h hp (hs p hp) hsz
  · rw [wdAt_out hp, runeAt_out hp]
    exact step_end B p s w h hp

section
variable {Y : SL} {s : ByteArray} {rank : Nat → Nat} {top p k : Nat} {c0 r : List Int} {mcap : List Int} {m : Option (List Int)} {q : List CE} {pool : List Th} {pb : Option (Nat × Nat)} {PB : Nat} {w : World} {Q : Exit → Act → World → Prop}

/-- The machine's cells that a round reads. -/
structure MCells (Y : SL) (n : Nat) (b : Bool) (w : World) : Prop where
  c0 : w.cell? ⟨Y.L.M, 0, none⟩ = some (.pointer (some ⟨Y.L.R, 0, none⟩))
  c1 : w.cell? ⟨Y.L.M, 1, none⟩ = some (.pointer (some ⟨Y.L.PR, 0, none⟩))
  cq : w.cell? ⟨Y.L.M, Y.L.qo + 1, none⟩ = some (.slice (some ⟨Y.L.D, 0, none⟩) n Y.L.nq)
  cr : w.cell? ⟨Y.L.M, Y.ro + 1, none⟩ = some (.slice (some ⟨Y.Dr, 0, none⟩) 0 Y.L.nq)
  c7 : w.cell? ⟨Y.L.M, 7, none⟩ = some (.bool b)
  c8 : w.cell? ⟨Y.L.M, 8, none⟩ = some (.slice (some ⟨Y.L.MC, 0, none⟩) Y.L.nc Y.L.nc)
  c9 : w.cell? ⟨Y.L.M, 9, none⟩ = Y.L.ml[9]?
  lM : Y.L.M < w.heap.size

theorem StepMem.mcells (mo : MOk Y) (h : StepMem Y mcap m q pool [] pb 0 [] PB w) : MCells Y q.length m.isSome w := by
  have st := h.st.st
  have hqo : Y.L.qo = 2 ∨ Y.L.qo = 4 := mo.so.ok.qo
  have hro := mo.so.ro
  have hne := mo.so.ne
  have aok := SL.aok mo.so pb 0 m.isSome Y.L.MC
  obtain ⟨a1, a2, a3, a4, a5⟩ := AL.mc aok q.length pool.length
  obtain ⟨b1, b2, b3, b4, b5⟩ := SL.cells mo.so pb 0 m.isSome q.length pool.length
  have hM := st.mblk
  refine ⟨?_, (hM.cell 1).trans a1, (hM.cell _).trans a3, (hM.cell _).trans b1, (hM.cell 7).trans b2, (hM.cell 8).trans b4, ?_, hM.lt⟩
  · refine (hM.cell 0).trans ?_
    show ((((Y.L.ml.set (Y.ro + 1) _).set 7 _).set (Y.L.qo + 1) _).set 6 _)[0]? = _
    rw [List.getElem?_set_ne (by omega), List.getElem?_set_ne (by omega), List.getElem?_set_ne (by omega), List.getElem?_set_ne (by omega)]
    exact mo.m0
  · refine (hM.cell 9).trans ?_
    show ((((Y.L.ml.set (Y.ro + 1) _).set 7 _).set (Y.L.qo + 1) _).set 6 _)[9]? = _
    rw [List.getElem?_set_ne (by omega), List.getElem?_set_ne (by omega), List.getElem?_set_ne (by omega), List.getElem?_set_ne (by omega)]

/-- What a round is asked of. -/
structure MEnv (Y : SL) (s : ByteArray) (rank : Nat → Nat) (top k : Nat) (c0 r : List Int) : Prop where
  mo : MOk Y
  hs : Plain s
  sz : s.size < 10000000000
  tb : Table Y.L.pg Y.L.np
  ok : (envAt Y.L.pg s rank top).Ok
  le : top ≤ k
  an : Env.Anch (envAt Y.L.pg s rank top) 1
  res : Env.res (envAt Y.L.pg s rank top) 1 0 c0 = some r
  np : 1 < Y.L.np
  bd : Y.L.np * (s.size + 2) < 8900000000000
  m9 : Y.L.ml[9]? = some (.string s)
  pre : Y.w0.cell? ⟨Y.L.R, 6, none⟩ = some (.string ByteArray.empty)
  start : Y.w0.cell? ⟨Y.L.PR, 1, none⟩ = some (.int .i64 1)

theorem MEnv.fl (h : MEnv Y s rank top k c0 r) (f : Int) : MEnv (Y.fl f) s rank top k c0 r :=
  ⟨h.mo.fl f, h.hs, h.sz, h.tb, h.ok, h.le, h.an, h.res, h.np, h.bd, h.m9, h.pre, h.start⟩
theorem MEnv.swap (h : MEnv Y s rank top k c0 r) : MEnv Y.swap s rank top k c0 r :=
  ⟨h.mo.swap, h.hs, h.sz, h.tb, h.ok, h.le, h.an, h.res, h.np, h.bd, h.m9, h.pre, h.start⟩

/-- What is asked of the round's ways out. -/
def RoundGo (Y : SL) (s : ByteArray) (rank : Nat → Nat) (top : Nat) (c0 r : List Int) (p : Nat) (Q : Exit → Act → World → Prop) : Prop :=
  ∀ a' w' f' q' m' mcap' pool' pb', f' = flagOf (runeAt s p) (runeAt s (p + 1)) → p < s.size → MF Y.L.M Y.ro Y.L.qo (p + 1) (runeAt s (p + 1)) (runeAt s (p + 2)) (wdAt s (p + 1)) (wdAt s (p + 2)) Y.L.F a' →
    StepMem ((Y.fl f').swap) mcap' m' q' pool' [] pb' 0 [] (Y.L.np * (p + 1)) w' → Env.Head (envAt Y.L.pg s rank top) c0 r (p + 1) (q'.map fg) m' mcap' → Q .normal a' w'
def RoundEnd (Y : SL) (s : ByteArray) (r : List Int) (Q : Exit → Act → World → Prop) : Prop :=
  ∀ a' w' f' pos r' r1' wd wd1 q' pool' pb' mcap', MF Y.L.M Y.L.qo Y.ro pos r' r1' wd wd1 Y.L.F a' → StepMem (Y.fl f') mcap' (some r) q' pool' [] pb' 0 [] (Y.L.np * (s.size + 2)) w' → Q (.exit 2) a' w'

theorem StepMem.more {PB' : Nat} (h : StepMem Y mcap m q pool [] pb 0 [] PB w) (hB : PB ≤ PB') : StepMem Y mcap m q pool [] pb 0 [] PB' w := by
  refine h.fresh ?_
  have := h.bound
  simp at this
  omega

theorem mt_mid {a : Act} (me : MEnv Y s rank top k c0 r) (hp : p ≤ s.size) (hm : StepMem Y mcap m q pool [] pb 0 [] (Y.L.np * p) w) (hf : Env.Full (envAt Y.L.pg s rank top) r p (q.map fg) m)
    (hgo : RoundGo Y s rank top c0 r p Q) (hfin : RoundEnd Y s r Q) (hfr : MF Y.L.M Y.L.qo Y.ro p (runeAt s p) (runeAt s (p + 1)) (wdAt s p) (wdAt s (p + 1)) Y.L.F a) : Ent mtMid Q a w := by
  have mc := hm.mcells me.mo
  have hsz := me.sz
  have hF := hm.st.st.flag
  have hnp := me.np
  have hPB : Y.L.np * p + Y.L.np < 8900000000000 := by
    have h1 : Y.L.np * p + Y.L.np ≤ Y.L.np * (s.size + 2) := by
      rw [← Nat.mul_succ]; exact Nat.mul_le_mul_left _ (by omega)
    have := me.bd
    omega
  have hnc : 2 ≤ Y.L.nc ∧ Y.L.nc < 100 := me.mo.so.ok.nc
  obtain ⟨f', hf'⟩ : ∃ f', f' = flagOf (runeAt s p) (runeAt s (p + 1)) := ⟨_, rfl⟩
  have h8 : ∀ (R : List Env.Entry × Option (List Int)) (PB' : Nat) (w1 : World), Stepped ((Y.fl f').swap) PB' R w1 → w1.cell? ⟨Y.L.M, 8, none⟩ = some (.slice (some ⟨Y.L.MC, 0, none⟩) Y.L.nc Y.L.nc) := by
    rintro R PB' w1 ⟨mcap', m', n', pool', pb', h1, _⟩
    exact (h1.mcells (me.fl f').swap.mo).c8
  have h9 : ∀ (R : List Env.Entry × Option (List Int)) (PB' : Nat) (w1 : World), Stepped ((Y.fl f').swap) PB' R w1 → w1.cell? ⟨Y.L.M, 9, none⟩ = some (.string s) := by
    rintro R PB' w1 ⟨mcap', m', n', pool', pb', h1, _⟩
    exact (h1.mcells (me.fl f').swap.mo).c9.trans me.m9
  by_cases hlt : p < s.size
  · have se : SEnv ((Y.fl f').swap) (envAt Y.L.pg s rank top) p k := senv_at (Y := (Y.fl f').swap) me.hs me.tb me.ok me.le hlt hf'
    have hst := mid_call (f := f') (r := runeAt s p) (p2 := p + 1) me.mo hm hf.waits se hPB (by omega) rfl (by show p + (if p < s.size then 1 else 0) = p + 1; rw [if_pos hlt])
    have hw1 := wdAt_in hlt
    have hnext : ∀ a' w1, MF Y.L.M Y.ro Y.L.qo (p + 1) (runeAt s (p + 1)) (runeAt s (p + 2)) (wdAt s (p + 1)) (wdAt s (p + 2)) Y.L.F a' → Stepped ((Y.fl f').swap) (Y.L.np * p + Y.L.np) (Env.stepF (envAt Y.L.pg s rank top) p k (q.map fg) [] m) w1 → Q .normal a' w1 := by
      rintro a' w1 hfr' ⟨mcap', m', n', pool', pb', h1, h2⟩
      refine hgo a' w1 f' n' m' mcap' pool' pb' hf' hlt hfr' (by rw [Nat.mul_succ]; exact h1) ?_
      have := hf.next (c0 := c0) me.an me.le hlt h2 mcap'
      have e : p + ((envAt Y.L.pg s rank top).st p).2 = p + 1 := by show p + (if p < s.size then 1 else 0) = p + 1; rw [if_pos hlt]
      rw [e] at this
      exact this
    by_cases hl2 : p + 1 < s.size
    · have hr1 : runeAt s (p + 1) ≠ -1 := by
        have := (rune_bd s me.hs (p + 1)).2.2
        omega
      have hw2 := wdAt_in hl2
      refine mt_next Y.L.M Y.L.qo Y.ro p (runeAt s p) (runeAt s (p + 1)) (wdAt s p) (wdAt s (p + 1)) Y.L.F w Q (p + 1) (by rw [hw1]; rfl) (by omega) _ (hF.cell 0) (hF.free 0) hF.lt _ (by rw [← hf']; exact hst) Y.L.MC Y.L.nc (fun w1 g => h8 _ _ w1 g) (by omega) (by omega) hr1 (p + 2) (by rw [hw2]; omega) (by omega) (runeAt s (p + 2)) (wdAt s (p + 2)) (fun w1 g => step_at Y.L.M (p + 2) s me.hs (by omega) w1 (h9 _ _ w1 g)) hnext hfr
    · have hr1 : runeAt s (p + 1) = -1 := runeAt_out hl2
      refine mt_last Y.L.M Y.L.qo Y.ro p (runeAt s p) (runeAt s (p + 1)) (wdAt s p) (wdAt s (p + 1)) Y.L.F w Q (p + 1) (by rw [hw1]; rfl) (by omega) _ (hF.cell 0) (hF.free 0) hF.lt _ (by rw [← hf']; exact hst) Y.L.MC Y.L.nc (fun w1 g => h8 _ _ w1 g) (by omega) (by omega) hr1 ?_ hfr
      intro a' w1 hfr' g
      refine hnext a' w1 ?_ g
      rw [runeAt_out (s := s) (p := p + 2) (by omega), wdAt_out (s := s) (p := p + 2) (by omega)]
      rw [hr1, wdAt_out hl2] at hfr'
      rw [hr1, wdAt_out hl2]
      exact hfr'
  · have hpe : p = s.size := by omega
    have hff : f' = flagOf (-1) (-1) := by rw [hf', runeAt_out hlt, runeAt_out (by omega)]
    have se : SEnv ((Y.fl f').swap) (envAll Y.L.pg s rank top) p k := senv_all (Y := (Y.fl f').swap) me.tb me.ok me.le hff
    have hww : Env.Waits (envAll Y.L.pg s rank top) (q.map fg) := hf.waits
    have hst := mid_call (E := envAll Y.L.pg s rank top) (f := f') (r := runeAt s p) (p2 := p) me.mo hm hww se hPB (by omega) rfl (by show p + (if p < s.size then 1 else 0) = p; rw [if_neg hlt]; rfl)
    have hR : Env.stepF (envAll Y.L.pg s rank top) p k (q.map fg) [] m = Env.stepF (envAt Y.L.pg s rank top) p k (q.map fg) [] m :=
      Env.stepF_same (E := envAt Y.L.pg s rank top) (E' := envAll Y.L.pg s rank top) p k rfl rfl rfl (fun pc => me.ok.ends p pc (by show s.size ≤ p; omega)) _ _ _
    rw [hR] at hst
    refine mt_stop Y.L.M Y.L.qo Y.ro p (runeAt s p) (runeAt s (p + 1)) (wdAt s p) (wdAt s (p + 1)) Y.L.F w Q p (by rw [wdAt_out hlt]; omega) (by omega) _ (hF.cell 0) (hF.free 0) hF.lt _ (by rw [← hf']; exact hst) (wdAt_out hlt) ?_ hfr
    rintro a' w1 hfr' ⟨mcap', m', n', pool', pb', h1, h2⟩
    obtain ⟨e1, e2⟩ := hf.stop me.an me.le (by show s.size ≤ p; omega) h2
    have e1' : n' = [] := by simpa using e1
    subst e1'
    subst e2
    have hb := h1.bound
    simp at hb
    have h3 := (h1.swap (PB' := Y.L.np * (s.size + 2)) (me.fl f').swap.mo (by
      have : Y.L.np * p + Y.L.np ≤ Y.L.np * (s.size + 2) := by rw [← Nat.mul_succ]; exact Nat.mul_le_mul_left _ (by omega)
      simp
      omega))
    exact hfin a' w1 f' p _ _ _ _ [] pool' pb' mcap' hfr' h3

theorem mt_round {a : Act} (me : MEnv Y s rank top k c0 r) (hfl : Y.L.fl = flagOf (runeAhead s p) (runeAt s p)) (hp : p ≤ s.size) (hm : StepMem Y mcap m q pool [] pb 0 [] (Y.L.np * p) w) (hh : Env.Head (envAt Y.L.pg s rank top) c0 r p (q.map fg) m mcap)
    (hgo : RoundGo Y s rank top c0 r p Q) (hfin : RoundEnd Y s r Q) (hfr : MF Y.L.M Y.L.qo Y.ro p (runeAt s p) (runeAt s (p + 1)) (wdAt s p) (wdAt s (p + 1)) Y.L.F a) : mtIn.wp Tryz.prog Q a w := by
  have mc := hm.mcells me.mo
  have hsz := me.sz
  have hnp := me.np
  have hnq : Y.L.nq ≤ 100000 := me.mo.so.ok.nq
  have hnpq : Y.L.np ≤ Y.L.nq := me.mo.so.ok.np.1
  have hnc : 2 ≤ Y.L.nc ∧ Y.L.nc < 100 := me.mo.so.ok.nc
  have hlen0 := st_len hm.st.st (by show 0 < Y.L.np; omega)
  have hlen : q.length < Y.L.np := hlen0
  have hC := hm.st.st.cap
  have hP := hm.st.st.prog
  have hCge := hm.st.ge Y.L.MC (by simp [AL.tot, SL.at, AL.pl, AL.mlo])
  have hMC : Y.L.N ≤ Y.L.MC := hCge.1
  have hMne : Y.L.M ≠ Y.L.MC := by
    have h1 := hm.st.apart
    intro e
    have h2 : (Y.at pb 0 m.isSome).tot q pool [] [] ([Y.Dr, Y.Sr] ++ Y.X) = Y.L.M :: (([Y.L.S, Y.L.D, Y.L.F, Y.L.MC] ++ pbBlk pb ++ aBlks q ++ pBlks pool ++ aBlks [] ++ pBlks []) ++ ([Y.Dr, Y.Sr] ++ Y.X)) := rfl
    rw [h2, List.nodup_cons] at h1
    apply h1.1
    rw [e]
    simp
  have hPM : Y.L.PR ≠ Y.L.MC := by have := hP.lt.2.1; have h2 : Y.L.PR < Y.L.N := this; omega
  have hle : Y.L.N ≤ w.heap.size := hP.le
  have hPl : Y.L.PR < w.heap.size := by have := hP.lt.2.1; have h2 : Y.L.PR < Y.L.N := this; omega
  have hRl : Y.L.R < w.heap.size := by have := hP.lt.1; have h2 : Y.L.R < Y.L.N := this; omega
  have cs : w.cell? ⟨Y.L.PR, 1, none⟩ = some (.int .i64 1) := (hm.below.cell (p := ⟨Y.L.PR, 1, none⟩) hP.lt.2.1).trans me.start
  have cp : w.cell? ⟨Y.L.R, 6, none⟩ = some (.string ByteArray.empty) := (hm.below.cell (p := ⟨Y.L.R, 6, none⟩) hP.lt.1).trans me.pre
  have hcl : 0 < mcap.length := by have h1 : mcap.length = Y.L.nc := hm.st.st.clen; omega
  obtain ⟨x0, hx0⟩ : ∃ x0, (intCells mcap)[0]? = some x0 := ⟨_, List.getElem?_eq_getElem (by simpa [intCells] using hcl)⟩
  have cx : w.cell? ⟨Y.L.MC, 0, none⟩ = some x0 := (hC.cell 0).trans hx0
  have fc : w.frozen? ⟨Y.L.MC, 0, none⟩ = false := hC.free 0
  have ae := aenv_at (Y := Y) me.hs me.ok hp hfl
  have hr1 : (envAt Y.L.pg s rank top).rank 1 < k := Nat.lt_of_lt_of_le (me.ok.rank_lt 1) me.le
  cases m with
  | some c =>
    have hf := hh.on
    by_cases hq : q = []
    · have hp0 : p ≠ 0 := by
        intro e
        have := (hh.zero e).2.1
        cases this
      subst hq
      have e := hh.dead hp0 rfl
      simp at e
      subst e
      refine mt_dead Y.L.M Y.L.qo Y.ro p _ _ _ _ Y.L.F w Q Y.L.R Y.L.D Y.L.nq mc.cq (by omega) (by omega) ?_ hfr
      intro a' hfr'
      refine hfin a' w Y.L.fl p _ _ _ _ [] pool pb mcap hfr' ?_
      exact hm.more (Nat.mul_le_mul_left _ (by omega))
    · have hq0 : 0 < q.length := List.length_pos_iff.2 hq
      refine mt_on Y.L.M Y.L.qo Y.ro p _ _ _ _ Y.L.F w Q Y.L.R Y.L.PR Y.L.D q.length Y.L.nq Y.L.MC Y.L.nc mc.c0 mc.cq (by omega) mc.c8 hnc hq0 mc.c7 ?_ hfr
      intro a' hfr'
      exact mt_mid me hp hm hf hgo hfin hfr'
  | none =>
    have hf := hh.add me.an me.le me.res
    have hadd : ∀ x : Ext (w.setCell ⟨Y.L.MC, 0, none⟩ (.int .i64 p)), _ := fun x => add_round me.mo ae hr1 me.np hm x
    have hend : ∀ a' w1, MF Y.L.M Y.L.qo Y.ro p (runeAt s p) (runeAt s (p + 1)) (wdAt s p) (wdAt s (p + 1)) Y.L.F a' →
        (∃ q1 pool1, StepMem Y (mcap.set 0 p) none q1 pool1 [] pb 0 [] (Y.L.np * p) w1 ∧ q1.map fg = Env.addF (envAt Y.L.pg s rank top) p k (q.map fg) 1 (mcap.set 0 p) ∧ pool1.length ≤ pool.length) → Ent mtMid Q a' w1 := by
      rintro a' w1 hfr' ⟨q1, pool1, h1, h2, h3⟩
      refine mt_mid me hp h1 ?_ hgo hfin hfr'
      rw [h2]
      exact hf
    by_cases hq : q = []
    · by_cases hp0 : p = 0
      · have h0 : q.length = 0 := by rw [hq]; rfl
        subst hp0
        exact mt_first Y.L.M Y.L.qo Y.ro 0 _ _ _ _ Y.L.F w Q Y.L.R Y.L.PR Y.L.D q.length Y.L.nq Y.L.MC Y.L.nc mc.c0 mc.cq (by omega) mc.c8 hnc h0 rfl cp mc.c7 mc.c1 cs mc.lM hPl hRl hPM hMne x0 cx fc hC.lt _ hadd hend hfr
      · subst hq
        have e := hh.dead hp0 rfl
        cases e
    · have hq0 : 0 < q.length := List.length_pos_iff.2 hq
      exact mt_add Y.L.M Y.L.qo Y.ro p _ _ _ _ Y.L.F w Q Y.L.R Y.L.PR Y.L.D q.length Y.L.nq Y.L.MC Y.L.nc mc.c0 mc.cq (by omega) mc.c8 hnc hq0 mc.c7 mc.c1 cs mc.lM hPl hRl hPM hMne x0 cx fc hC.lt _ hadd hend hfr

end
end Go.Proofs.YtooggfopjaaejaaGreatDoor
namespace Go.Proofs.YtooggfopjaaejaaGreatDoor
open Go.RowKit Go.Rx

section
variable {Y0 : SL} {s : ByteArray} {rank : Nat → Nat} {top k : Nat} {c0 r : List Int} {mcap : List Int} {pb : Option (Nat × Nat)} {w : World} {Q : Exit → Act → World → Prop}

/-- What holds at the loop's head. -/
def MTop (Y0 : SL) (s : ByteArray) (rank : Nat → Nat) (top : Nat) (c0 r : List Int) (i : Nat) (a : Act) (w : World) : Prop :=
  ∃ Y f p q m mcap pool pb, (Y = Y0.fl f ∨ Y = Y0.swap.fl f) ∧ f = flagOf (runeAhead s p) (runeAt s p) ∧ p ≤ s.size ∧ i = s.size + 1 - p ∧
    MF Y.L.M Y.L.qo Y.ro p (runeAt s p) (runeAt s (p + 1)) (wdAt s p) (wdAt s (p + 1)) Y.L.F a ∧ StepMem Y mcap m q pool [] pb 0 [] (Y.L.np * p) w ∧ Env.Head (envAt Y.L.pg s rank top) c0 r p (q.map fg) m mcap

/-- What is asked behind the loop. -/
def LoopEnd (Y0 : SL) (s : ByteArray) (r : List Int) (Q : Exit → Act → World → Prop) : Prop :=
  ∀ Y f a' w' pos r' r1' wd wd1 q' pool' pb' mcap', (Y = Y0.fl f ∨ Y = Y0.swap.fl f) → MF Y.L.M Y.L.qo Y.ro pos r' r1' wd wd1 Y.L.F a' → StepMem Y mcap' (some r) q' pool' [] pb' 0 [] (Y.L.np * (s.size + 2)) w' → Q (.exit 2) a' w'

theorem match_loop {a : Act} (me : MEnv Y0 s rank top k c0 r) (hm : StepMem Y0 mcap none [] [] [] pb 0 [] 0 w) (hc : mcap.set 0 ((0 : Nat) : Int) = c0) (hfl : Y0.L.fl = flagOf (-1) (runeAt s 0))
    (hfin : LoopEnd Y0 s r Q) (hf : MF Y0.L.M Y0.L.qo Y0.ro 0 (runeAt s 0) (runeAt s 1) (wdAt s 0) (wdAt s 1) Y0.L.F a) : (Code.loop mtBody).wp Tryz.prog Q a w := by
  refine wp_loop_nat (MTop Y0 s rank top c0 r) (s.size + 1 - 0) ⟨Y0, Y0.L.fl, 0, [], none, mcap, [], pb, .inl rfl, hfl, Nat.zero_le _, rfl, hf, by rw [Nat.mul_zero]; exact hm, ?_⟩ ?_
  · exact ⟨(fun _ _ h => by cases h), Env.metAll_nil _, fun _ => ⟨rfl, rfl, hc⟩, fun h => absurd rfl h⟩
  · rintro i a w ⟨Y, f, p, q, m, mcap, pool, pb, hY, hff, hp, rfl, hfr, hm, hh⟩
    have me' : MEnv Y s rank top k c0 r := by
      rcases hY with rfl | rfl
      · exact me.fl f
      · exact me.swap.fl f
    have hfl' : Y.L.fl = flagOf (runeAhead s p) (runeAt s p) := by
      rw [← hff]
      rcases hY with rfl | rfl <;> rfl
    rw [mt_in]
    refine wp_block ?_
    refine mt_round me' hfl' hp hm hh ?_ ?_ hfr
    · intro a' w' f' q' m' mcap' pool' pb' hf' hlt hfr' hm' hh'
      refine ⟨s.size + 1 - (p + 1), by omega, (Y.fl f').swap, f', p + 1, q', m', mcap', pool', pb', ?_, ?_, by omega, rfl, hfr', hm', hh'⟩
      · rcases hY with rfl | rfl
        · exact .inr rfl
        · exact .inl rfl
      · rw [hf']
        have : runeAhead s (p + 1) = runeAt s p := by unfold runeAhead; rw [if_neg (by omega)]; rfl
        rw [this]
    · intro a' w' f' pos r' r1' wd wd1 q' pool' pb' mcap' hfr' hm'
      refine hfin (Y.fl f') f' a' w' pos r' r1' wd wd1 q' pool' pb' mcap' ?_ hfr' hm'
      rcases hY with rfl | rfl
      · exact .inl rfl
      · exact .inr rfl

end
end Go.Proofs.YtooggfopjaaejaaGreatDoor
