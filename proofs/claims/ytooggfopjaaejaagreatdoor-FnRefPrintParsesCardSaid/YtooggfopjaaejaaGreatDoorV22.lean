/-
FnRefPrintParses: the regular expressions, the digest and the reference, part 22 of 25.
-/
import Derived.Test.YtooggfopjaaejaaGreatDoorV21
import Derived.Test.YtooggfopjaaejaaGreatDoorV20
import Derived.Test.YtooggfopjaaejaaGreatDoorV18
import Derived.Lib.Strings
import Derived.RegionCalls
import Derived.Deep.RegionWith
set_option linter.all false
namespace Go.Proofs.YtooggfopjaaejaaGreatDoor
open Go.RowKit Go.Rx
theorem ostep_method (B : Nat) (w : World) : (method 377 229 (.pointer (some ⟨B, 0, none⟩)) "pub-timebook/pub/regexponce.step").run Tryz.prog w = .ok (170, .pointer (some ⟨B, 0, none⟩)) w := by kernel_rfl
theorem ostep_func (B : Nat) (pos : Int) (w : World) : (callFunc 170 #[.pointer (some ⟨B, 0, none⟩), .int .i64 pos]).run Tryz.prog w = .ok (.enter 170 #[.pointer (some ⟨B, 0, none⟩), .int .i64 pos]) w := by kernel_rfl
attribute [local go_sem] ostep_method ostep_func
attribute [local go_sem] Ext.cell Ext.frozen Ext.lt Ext.lt_add Ext.cell2 Ext.frozen2

def scopeOf : Code → Option Code
  | .scope c => some c
  | .seq a b => (scopeOf a).or (scopeOf b)
  | .block _ c => scopeOf c
  | _ => none
noncomputable def onScope : Code := (Tryz.f104.body.bind scopeOf).getD .skip
noncomputable def onBody : Code := (secondLoop onScope).getD .skip
noncomputable def onIn : Code := inBlock onBody
theorem on_in : onBody = Code.block 3 onIn := by kernel_rfl
noncomputable def onRest : Code := (findLabel onScope 0).getD .skip
theorem on_label : findLabel onScope 0 = some onRest := by kernel_rfl

/-- The frame at the loop's head. -/
inductive OF (R M pos : Nat) (dst : Value) (r r1 : Int) (wd wd1 : Nat) (fl : Int) (pc : Nat) : Act → Prop
  | mk (u1 u2 u3 u5 u7 u8 u9 u10 u11 u12 u13 u14 u15 u18 u20 u27 u28 u29 u30 u31 u32 u33 u34 u35 u36 u37 u38 u39 u40 u41 u42 u43 u44 u45 u46 u47 u48 u49 u50 u51 u52 u53 u54 u55 u56 u57 u58 u59 u60 u61 u62 u63 u64 u65 u66 u67 u68 u69 u70 u71 u72 u73 u74 u75 u76 u77 u78 u79 u80 u81 u82 u83 u84 u85 u86 u87 u88 u89 u90 u91 u92 u93 u94 u95 u96 u97 u98 u99 u100 u101 u102 u103 u104 u105 u106 u107 u108 u109 u110 u111 u112 u113 u114 u115 u116 u117 u118 u119 u120 u121 u122 u123 u124 u125 u126 u127 u128 u129 u130 u131 u132 u133 u134 u135 u136 u137 u138 u139 u140 u141 u142 u143 u144 u145 u146 u147 u148 u149 u150 u151 u152 u153 u154 u155 u156 u157 u158 u159 u160 u161 u162 u163 u164 u165 u166 u167 u168 u169 u170 u171 u172 u173 u174 u175 u176 u177 u178 u179 u180 u181 u182 u183 u184 u185 u186 u187 u188 u189 u190 u191 u192 u193 u194 u195 u196 u197 u198 u199 u200 u201 u202 u203 u204 u205 u206 u207 u208 u209 u210 u211 u212 u213 u214 u215 u216 u217 u218 u219 u220 u221 u222 u223 u224 u225 u226 u227 u228 u229 u230 u231 u232 u233 u234 u235 u236 u237 u238 u239 u240 u241 u242 u243 u244 u245 u246 u247 u248 u249 u250 u251 u252 u253 u254 u255 u256 u257 u258 u259 u260 u261 u262 u263 u264 u265 u266 u267 u268 u269 u270 u271 u272 u273 u274 u275 u276 u277 u278 u279 u280 u281 u282 u283 u284 u285 u286 u287 u288 u289 u290 u291 u292 u293 u294 u295 u296 u297 u298 u299 u300 u301 u302 u303 u304 u305 u306 u307 u308 u309 u310 u311 u312 u313 u314 u315 u316 u317 u318 u319 u320 u321 : Value) : OF R M pos dst r r1 wd wd1 fl pc ⟨#[.pointer (some ⟨R, 0, none⟩), u1, u2, u3, .int .i64 pos, u5, dst, u7, u8, u9, u10, u11, u12, u13, u14, u15, .pointer (some ⟨M, 0, none⟩), .bool false, u18, .iface 229 (.pointer (some ⟨M, 0, none⟩)), u20, .int .i32 r, .int .i32 r1, .int .i64 wd, .int .i64 wd1, .int .u64 fl, .int .i64 pc, u27, u28, u29, u30, u31, u32, u33, u34, u35, u36, u37, u38, u39, u40, u41, u42, u43, u44, u45, u46, u47, u48, u49, u50, u51, u52, u53, u54, u55, u56, u57, u58, u59, u60, u61, u62, u63, u64, u65, u66, u67, u68, u69, u70, u71, u72, u73, u74, u75, u76, u77, u78, u79, u80, u81, u82, u83, u84, u85, u86, u87, u88, u89, u90, u91, u92, u93, u94, u95, u96, u97, u98, u99, u100, u101, u102, u103, u104, u105, u106, u107, u108, u109, u110, u111, u112, u113, u114, u115, u116, u117, u118, u119, u120, u121, u122, u123, u124, u125, u126, u127, u128, u129, u130, u131, u132, u133, u134, u135, u136, u137, u138, u139, u140, u141, u142, u143, u144, u145, u146, u147, u148, u149, u150, u151, u152, u153, u154, u155, u156, u157, u158, u159, u160, u161, u162, u163, u164, u165, u166, u167, u168, u169, u170, u171, u172, u173, u174, u175, u176, u177, u178, u179, u180, u181, u182, u183, u184, u185, u186, u187, u188, u189, u190, u191, u192, u193, u194, u195, u196, u197, u198, u199, u200, u201, u202, u203, u204, u205, u206, u207, u208, u209, u210, u211, u212, u213, u214, u215, u216, u217, u218, u219, u220, u221, u222, u223, u224, u225, u226, u227, u228, u229, u230, u231, u232, u233, u234, u235, u236, u237, u238, u239, u240, u241, u242, u243, u244, u245, u246, u247, u248, u249, u250, u251, u252, u253, u254, u255, u256, u257, u258, u259, u260, u261, u262, u263, u264, u265, u266, u267, u268, u269, u270, u271, u272, u273, u274, u275, u276, u277, u278, u279, u280, u281, u282, u283, u284, u285, u286, u287, u288, u289, u290, u291, u292, u293, u294, u295, u296, u297, u298, u299, u300, u301, u302, u303, u304, u305, u306, u307, u308, u309, u310, u311, u312, u313, u314, u315, u316, u317, u318, u319, u320, u321], []⟩

/-- The frame at the label, matched. -/
inductive OL (M : Nat) (dst : Value) : Act → Prop
  | mk (u0 u1 u2 u3 u4 u5 u7 u8 u9 u10 u11 u12 u13 u14 u15 u18 u19 u20 u21 u22 u23 u24 u25 u26 u27 u28 u29 u30 u31 u32 u33 u34 u35 u36 u37 u38 u39 u40 u41 u42 u43 u44 u45 u46 u47 u48 u49 u50 u51 u52 u53 u54 u55 u56 u57 u58 u59 u60 u61 u62 u63 u64 u65 u66 u67 u68 u69 u70 u71 u72 u73 u74 u75 u76 u77 u78 u79 u80 u81 u82 u83 u84 u85 u86 u87 u88 u89 u90 u91 u92 u93 u94 u95 u96 u97 u98 u99 u100 u101 u102 u103 u104 u105 u106 u107 u108 u109 u110 u111 u112 u113 u114 u115 u116 u117 u118 u119 u120 u121 u122 u123 u124 u125 u126 u127 u128 u129 u130 u131 u132 u133 u134 u135 u136 u137 u138 u139 u140 u141 u142 u143 u144 u145 u146 u147 u148 u149 u150 u151 u152 u153 u154 u155 u156 u157 u158 u159 u160 u161 u162 u163 u164 u165 u166 u167 u168 u169 u170 u171 u172 u173 u174 u175 u176 u177 u178 u179 u180 u181 u182 u183 u184 u185 u186 u187 u188 u189 u190 u191 u192 u193 u194 u195 u196 u197 u198 u199 u200 u201 u202 u203 u204 u205 u206 u207 u208 u209 u210 u211 u212 u213 u214 u215 u216 u217 u218 u219 u220 u221 u222 u223 u224 u225 u226 u227 u228 u229 u230 u231 u232 u233 u234 u235 u236 u237 u238 u239 u240 u241 u242 u243 u244 u245 u246 u247 u248 u249 u250 u251 u252 u253 u254 u255 u256 u257 u258 u259 u260 u261 u262 u263 u264 u265 u266 u267 u268 u269 u270 u271 u272 u273 u274 u275 u276 u277 u278 u279 u280 u281 u282 u283 u284 u285 u286 u287 u288 u289 u290 u291 u292 u293 u294 u295 u296 u297 u298 u299 u300 u301 u302 u303 u304 u305 u306 u307 u308 u309 u310 u311 u312 u313 u314 u315 u316 u317 u318 u319 u320 u321 : Value) : OL M dst ⟨#[u0, u1, u2, u3, u4, u5, dst, u7, u8, u9, u10, u11, u12, u13, u14, u15, .pointer (some ⟨M, 0, none⟩), .bool true, u18, u19, u20, u21, u22, u23, u24, u25, u26, u27, u28, u29, u30, u31, u32, u33, u34, u35, u36, u37, u38, u39, u40, u41, u42, u43, u44, u45, u46, u47, u48, u49, u50, u51, u52, u53, u54, u55, u56, u57, u58, u59, u60, u61, u62, u63, u64, u65, u66, u67, u68, u69, u70, u71, u72, u73, u74, u75, u76, u77, u78, u79, u80, u81, u82, u83, u84, u85, u86, u87, u88, u89, u90, u91, u92, u93, u94, u95, u96, u97, u98, u99, u100, u101, u102, u103, u104, u105, u106, u107, u108, u109, u110, u111, u112, u113, u114, u115, u116, u117, u118, u119, u120, u121, u122, u123, u124, u125, u126, u127, u128, u129, u130, u131, u132, u133, u134, u135, u136, u137, u138, u139, u140, u141, u142, u143, u144, u145, u146, u147, u148, u149, u150, u151, u152, u153, u154, u155, u156, u157, u158, u159, u160, u161, u162, u163, u164, u165, u166, u167, u168, u169, u170, u171, u172, u173, u174, u175, u176, u177, u178, u179, u180, u181, u182, u183, u184, u185, u186, u187, u188, u189, u190, u191, u192, u193, u194, u195, u196, u197, u198, u199, u200, u201, u202, u203, u204, u205, u206, u207, u208, u209, u210, u211, u212, u213, u214, u215, u216, u217, u218, u219, u220, u221, u222, u223, u224, u225, u226, u227, u228, u229, u230, u231, u232, u233, u234, u235, u236, u237, u238, u239, u240, u241, u242, u243, u244, u245, u246, u247, u248, u249, u250, u251, u252, u253, u254, u255, u256, u257, u258, u259, u260, u261, u262, u263, u264, u265, u266, u267, u268, u269, u270, u271, u272, u273, u274, u275, u276, u277, u278, u279, u280, u281, u282, u283, u284, u285, u286, u287, u288, u289, u290, u291, u292, u293, u294, u295, u296, u297, u298, u299, u300, u301, u302, u303, u304, u305, u306, u307, u308, u309, u310, u311, u312, u313, u314, u315, u316, u317, u318, u319, u320, u321], []⟩

set_option maxRecDepth 1000000 in
set_option maxHeartbeats 4000000 in
theorem on_ew {a : Act} (R M pos : Nat) (dst : Value) (r r1 : Int) (wd wd1 : Nat) (fl : Int) (pc : Nat) (w : World) (Q : Exit → Act → World → Prop) (O G n cap : Nat) (c2 : w.cell? ⟨R, 2, none⟩ = some (.pointer (some ⟨O, 0, none⟩))) (hRl : R < w.heap.size) (cO : w.cell? ⟨O, 0, none⟩ = some (.slice (some ⟨G, 0, none⟩) n cap)) (hOl : O < w.heap.size) (hGl : G < w.heap.size) (hpc : pc < n) (hn : n < 100000) (out arg : Nat) (hout : out < 100000) (harg : arg < 256) (i0 : w.cell? ⟨G, pc * 5, none⟩ = some (.int .u8 3)) (i1 : w.cell? ⟨G, pc * 5 + 1, none⟩ = some (.int .u32 out)) (i2 : w.cell? ⟨G, pc * 5 + 2, none⟩ = some (.int .u32 arg)) (hm : Calls Tryz.prog 108 #[.int .u64 fl, .int .u8 arg] w fun e w1 => e = .returned (.bool true) ∧ w1 = w) (hgo : ∀ a, OF R M pos dst r r1 wd wd1 fl out a → Q (.exit 3) a w) (hfr : OF R M pos dst r r1 wd wd1 fl pc a) : onIn.wp Tryz.prog Q a w := by
  cases hfr
  conv => arg 2; whnf
  have hpc2 : (pc : Int) < (n : Int) := by omega
  have HM := Lib.hid hm
  have HG := Lib.hid hgo
  clear hm hgo
  go_wp2_with (first | (go_at_call 108; (with_reducible refine HM.out.mono ?_); rintro e w1 ⟨rfl, rfl⟩))
  exact HG.out _ (by constructor)

set_option maxRecDepth 1000000 in
set_option maxHeartbeats 4000000 in
theorem on_rune_last {a : Act} (R M pos : Nat) (dst : Value) (r r1 : Int) (wd wd1 : Nat) (fl : Int) (pc : Nat) (w : World) (Q : Exit → Act → World → Prop) (O G n cap : Nat) (c2 : w.cell? ⟨R, 2, none⟩ = some (.pointer (some ⟨O, 0, none⟩))) (hRl : R < w.heap.size) (cO : w.cell? ⟨O, 0, none⟩ = some (.slice (some ⟨G, 0, none⟩) n cap)) (hOl : O < w.heap.size) (hGl : G < w.heap.size) (hpc : pc < n) (hn : n < 100000) (out : Nat) (hout : out < 100000) (i0 : w.cell? ⟨G, pc * 5, none⟩ = some (.int .u8 7)) (i1 : w.cell? ⟨G, pc * 5 + 1, none⟩ = some (.int .u32 out)) (hm : Calls Tryz.prog 94 #[.pointer (some ⟨G, pc * 5, none⟩), .int .i32 r] w fun e w1 => e = .returned (.bool true) ∧ w1 = w) (hwd : 0 < wd) (p2 : Nat) (e2 : (pos : Int) + (wd : Int) = (p2 : Int)) (hp2 : p2 < 100000000000) (fl2 : Int) (hfl : Calls Tryz.prog 107 #[.int .i32 r, .int .i32 r1] w fun e w1 => e = .returned (.int .u64 fl2) ∧ w1 = w) (hr1 : r1 = -1) (hgo : ∀ a, OF R M p2 dst r1 r1 wd1 wd1 fl2 out a → Q .normal a w) (hfr : OF R M pos dst r r1 wd wd1 fl pc a) : onIn.wp Tryz.prog Q a w := by
  cases hfr
  conv => arg 2; whnf
  have hpc2 : (pc : Int) < (n : Int) := by omega
  have hwd0 : ¬ (wd : Int) = 0 := by omega
  subst hr1
  have HM := Lib.hid hm
  have HF := Lib.hid hfl
  have HG := Lib.hid hgo
  clear hm hgo hfl
  go_wp2_with (first | (go_at_call 94; (with_reducible refine HM.out.mono ?_); rintro e w1 ⟨rfl, rfl⟩) | (go_at_call 107; (with_reducible refine HF.out.mono ?_); rintro e w1 ⟨rfl, rfl⟩))
  exact HG.out _ (by constructor)

set_option maxRecDepth 1000000 in
set_option maxHeartbeats 4000000 in
theorem on_rune_next {a : Act} (R M pos : Nat) (dst : Value) (r r1 : Int) (wd wd1 : Nat) (fl : Int) (pc : Nat) (w : World) (Q : Exit → Act → World → Prop) (O G n cap : Nat) (c2 : w.cell? ⟨R, 2, none⟩ = some (.pointer (some ⟨O, 0, none⟩))) (hRl : R < w.heap.size) (cO : w.cell? ⟨O, 0, none⟩ = some (.slice (some ⟨G, 0, none⟩) n cap)) (hOl : O < w.heap.size) (hGl : G < w.heap.size) (hpc : pc < n) (hn : n < 100000) (out : Nat) (hout : out < 100000) (i0 : w.cell? ⟨G, pc * 5, none⟩ = some (.int .u8 7)) (i1 : w.cell? ⟨G, pc * 5 + 1, none⟩ = some (.int .u32 out)) (hm : Calls Tryz.prog 94 #[.pointer (some ⟨G, pc * 5, none⟩), .int .i32 r] w fun e w1 => e = .returned (.bool true) ∧ w1 = w) (hwd : 0 < wd) (p2 : Nat) (e2 : (pos : Int) + (wd : Int) = (p2 : Int)) (hp2 : p2 < 100000000000) (fl2 : Int) (hfl : Calls Tryz.prog 107 #[.int .i32 r, .int .i32 r1] w fun e w1 => e = .returned (.int .u64 fl2) ∧ w1 = w) (hr1 : r1 ≠ -1) (p3 : Nat) (e3 : (p2 : Int) + (wd1 : Int) = (p3 : Int)) (hp3 : p3 < 100000000000) (r2 : Int) (wd2 : Nat) (hst : Calls Tryz.prog 170 #[.pointer (some ⟨M, 0, none⟩), .int .i64 p3] w fun e w1 => e = .returned (.tuple #[.int .i32 r2, .int .i64 wd2]) ∧ w1 = w) (hgo : ∀ a, OF R M p2 dst r1 r2 wd1 wd2 fl2 out a → Q .normal a w) (hfr : OF R M pos dst r r1 wd wd1 fl pc a) : onIn.wp Tryz.prog Q a w := by
  cases hfr
  conv => arg 2; whnf
  have hpc2 : (pc : Int) < (n : Int) := by omega
  have hwd0 : ¬ (wd : Int) = 0 := by omega
  have HM := Lib.hid hm
  have HF := Lib.hid hfl
  have HS := Lib.hid hst
  have HG := Lib.hid hgo
  clear hm hgo hfl hst
  go_wp2_with (first | (go_at_call 94; (with_reducible refine HM.out.mono ?_); rintro e w1 ⟨rfl, rfl⟩) | (go_at_call 107; (with_reducible refine HF.out.mono ?_); rintro e w1 ⟨rfl, rfl⟩) | (go_at_call 170; (with_reducible refine HS.out.mono ?_); rintro e w1 ⟨rfl, rfl⟩))
  exact HG.out _ (by constructor)

set_option maxRecDepth 1000000 in
set_option maxHeartbeats 4000000 in
theorem on_match {a : Act} (R M pos : Nat) (dst : Value) (r r1 : Int) (wd wd1 : Nat) (fl : Int) (pc : Nat) (w : World) (Q : Exit → Act → World → Prop) (O G n cap : Nat) (c2 : w.cell? ⟨R, 2, none⟩ = some (.pointer (some ⟨O, 0, none⟩))) (hRl : R < w.heap.size) (cO : w.cell? ⟨O, 0, none⟩ = some (.slice (some ⟨G, 0, none⟩) n cap)) (hOl : O < w.heap.size) (hGl : G < w.heap.size) (hpc : pc < n) (hn : n < 100000) (out : Nat) (hout : out < 100000) (i0 : w.cell? ⟨G, pc * 5, none⟩ = some (.int .u8 4)) (i1 : w.cell? ⟨G, pc * 5 + 1, none⟩ = some (.int .u32 out)) (cm : w.cell? ⟨M, 1, none⟩ = some (.slice none 0 0)) (hMl : M < w.heap.size) (hgo : ∀ a, OL M dst a → Q (.goto 0) a w) (hfr : OF R M pos dst r r1 wd wd1 fl pc a) : onIn.wp Tryz.prog Q a w := by
  cases hfr
  conv => arg 2; whnf
  have hpc2 : (pc : Int) < (n : Int) := by omega
  have HG := Lib.hid hgo
  clear hgo
  go_wp2_with fail
  refine wp_goto ?_
  refine HG.out _ ?_
  constructor

end Go.Proofs.YtooggfopjaaejaaGreatDoor
namespace Go.Proofs.YtooggfopjaaejaaGreatDoor
open Go.RowKit Go.Rx
attribute [local go_sem] ostep_method ostep_func
attribute [local go_sem] Ext.cell Ext.frozen Ext.lt Ext.lt_add Ext.cell2 Ext.frozen2
attribute [local go_sem] ints_nil

theorem dg_expand (n : Nat) : expand (dgRuns n) = [⟨5, 0, 0, []⟩, ⟨3, 2, 4, dgRunes⟩] ++ (((List.range n).map fun k => (⟨7, k + 3, 0, dgRunes⟩ : Inst)) ++ [⟨3, n + 3, 8, []⟩, ⟨4, 0, 0, []⟩]) := by
  have e : (Run.insts ⟨n, 7, 3, 1, 0, 0, dgRunes⟩) = (List.range n).map fun k => (⟨7, k + 3, 0, dgRunes⟩ : Inst) := by
    unfold Run.insts
    refine List.map_congr_left fun k _ => ?_
    unfold Run.inst
    dsimp only
    congr 1
    omega
  unfold expand dgRuns
  simp only [List.flatMap_cons, List.flatMap_nil, List.append_nil, e]
  rfl

theorem dg_one (n : Nat) : (expand (dgRuns n))[1]? = some ⟨3, 2, 4, dgRunes⟩ := by rw [dg_expand]; rfl
theorem dg_mid (n j : Nat) (h : j < n) : (expand (dgRuns n))[j + 2]? = some ⟨7, j + 3, 0, dgRunes⟩ := by
  rw [dg_expand, List.getElem?_append_right (by simp)]
  simp only [List.length_cons, List.length_nil, Nat.zero_add, Nat.reduceAdd, Nat.add_sub_cancel]
  rw [List.getElem?_append_left (by simpa using h), List.getElem?_map, List.getElem?_range h]
  rfl
theorem dg_end (n : Nat) : (expand (dgRuns n))[n + 2]? = some ⟨3, n + 3, 8, []⟩ ∧ (expand (dgRuns n))[n + 3]? = some ⟨4, 0, 0, []⟩ := by
  constructor
  · rw [dg_expand, List.getElem?_append_right (by simp)]
    simp only [List.length_cons, List.length_nil, Nat.zero_add, Nat.reduceAdd, Nat.add_sub_cancel]
    rw [List.getElem?_append_right (by simp)]
    simp
  · rw [dg_expand, List.getElem?_append_right (by simp)]
    simp only [List.length_cons, List.length_nil, Nat.zero_add, Nat.reduceAdd]
    rw [List.getElem?_append_right (by simp)]
    have : n + 3 - 2 - ((List.range n).map fun k => (⟨7, k + 3, 0, dgRunes⟩ : Inst)).length = 1 := by simp
    rw [this]
    rfl

theorem cls_shx : ∀ x : Nat, x < 128 → classTakes [48, 57, 97, 102] (x : Int) = shx x := by decide +kernel

/-- All bytes are small hexadecimal digits. -/
def HexAll (s : ByteArray) : Prop := ∀ i (h : i < s.size), shx (s[i]'h).toNat = true
theorem HexAll.plain {s : ByteArray} (h : HexAll s) : Plain s := by
  intro i hi
  have := h i hi
  unfold shx dig at this
  simp at this
  omega
theorem HexAll.takes {s : ByteArray} (h : HexAll s) (p : Nat) (hp : p < s.size) : classTakes dgRunes (runeAt s p) = true := by
  have e : runeAt s p = ((s[p]'hp).toNat : Nat) := by unfold runeAt; rw [dif_pos hp]
  rw [e]
  show classTakes [48, 57, 97, 102] _ = true
  rw [cls_shx _ (h.plain p hp)]
  exact h p hp

theorem OnceAt.chg {w w' : World} {R O G rb n : Nat} (h : OnceAt w R O G rb n) (c : Chg [] w w') : OnceAt w' R O G rb n := by
  have cell : ∀ b o, b < w.heap.size → w'.cell? ⟨b, o, none⟩ = w.cell? ⟨b, o, none⟩ := fun b o hb => World.cell?_of_block (c.block b hb (by simp))
  obtain ⟨l1, l2, l3, l4⟩ := h.lt
  obtain ⟨cap, hi⟩ := h.insts
  refine ⟨(cell _ _ l1).trans h.one, (cell _ _ l1).trans h.pre, (cell _ _ l1).trans h.cond, (cell _ _ l1).trans h.min, ⟨cap, (cell _ _ l2).trans hi⟩, (cell _ _ l2).trans h.start, fun pc i hpc => ?_, fun i x hx => (cell _ _ l4).trans (h.rune i x hx), ?_⟩
  · obtain ⟨a1, a2, a3, a4⟩ := h.at_ pc i hpc
    exact ⟨(cell _ _ l3).trans a1, (cell _ _ l3).trans a2, (cell _ _ l3).trans a3, fun h7 => (cell _ _ l3).trans (a4 h7)⟩
  · have := c.size
    omega

section
variable {R O G rb n M : Nat} {s : ByteArray} {dst : Value} {w : World} {Q : Exit → Act → World → Prop}

/-- What holds at the loop's head. -/
def OTop (R M : Nat) (dst : Value) (s : ByteArray) (n : Nat) (w : World) (i : Nat) (a : Act) (w' : World) : Prop :=
  w' = w ∧ ∃ pc pos, i = n + 4 - pc ∧ pos ≤ n ∧ ((pc = 1 ∧ pos = 0) ∨ (2 ≤ pc ∧ pc = pos + 2) ∨ (pc = n + 3 ∧ pos = n)) ∧ OF R M pos dst (runeAt s pos) (runeAt s (pos + 1)) (wdAt s pos) (wdAt s (pos + 1)) (flagOf (runeAhead s pos) (runeAt s pos)) pc a

theorem once_loop {a : Act} (h : OnceAt w R O G rb n) (hn : s.size = n) (hx : HexAll s) (hb : n < 1000) (h0 : 0 < n) (hM0 : w.cell? ⟨M, 0, none⟩ = some (.string s)) (hM1 : w.cell? ⟨M, 1, none⟩ = some (.slice none 0 0)) (hMl : M < w.heap.size)
    (hfin : ∀ a, OL M dst a → Q (.goto 0) a w) (hf : OF R M 0 dst (runeAt s 0) (runeAt s 1) (wdAt s 0) (wdAt s 1) (flagOf (-1) (runeAt s 0)) 1 a) : (Code.loop onBody).wp Tryz.prog Q a w := by
  obtain ⟨l1, l2, l3, l4⟩ := h.lt
  obtain ⟨cap, hi⟩ := h.insts
  have hs := hx.plain
  refine wp_loop_nat (OTop R M dst s n w) (n + 4 - 1) ⟨rfl, 1, 0, rfl, Nat.zero_le _, .inl ⟨rfl, rfl⟩, hf⟩ ?_
  rintro i a w' ⟨rfl, pc, pos, rfl, hpos, hc, hfr⟩
  rw [on_in]
  refine wp_block ?_
  obtain ⟨b1, b2, b3⟩ := ahead_bd s hs pos (by omega)
  obtain ⟨d1, d2, d3⟩ := rune_bd s hs pos
  by_cases hp1 : pc = 1
  · have hp0 : pos = 0 := by omega
    subst hp1
    subst hp0
    obtain ⟨i0, i1, i2, _⟩ := h.at_ 1 _ (dg_one n)
    have hm := oflag_begin (flagOf (runeAhead s 0) (runeAt s 0)) w'
    rw [flag_hi _ _ b1 b2, decide_eq_true (b3.2 rfl)] at hm
    refine on_ew R M 0 dst _ _ _ _ _ 1 w' _ O G (n + 4) cap h.one l1 hi l2 l3 (by omega) (by omega) 2 4 (by omega) (by omega) i0 i1 i2 hm ?_ hfr
    intro a' hf'
    exact ⟨n + 4 - 2, by omega, rfl, 2, 0, rfl, by omega, .inr (.inl ⟨by omega, rfl⟩), hf'⟩
  · by_cases hp2 : pc = n + 3
    · have hpn : pos = n := by omega
      subst hpn
      subst hp2
      obtain ⟨i0, i1, i2, _⟩ := h.at_ (pos + 3) _ (dg_end pos).2
      exact on_match R M pos dst _ _ _ _ _ (pos + 3) w' _ O G (pos + 4) cap h.one l1 hi l2 l3 (by omega) (by omega) 0 (by omega) i0 i1 hM1 hMl hfin hfr
    · have hpp : pc = pos + 2 := by omega
      subst hpp
      by_cases hlt : pos < n
      · obtain ⟨i0, i1, i2, i3⟩ := h.at_ (pos + 2) _ (dg_mid n pos hlt)
        have hm := match_rune_at G ((pos + 2) * 5) rb 4 dgRunes (runeAt s pos) w' (i3 rfl) (fun i x hx => h.rune i x hx) (.inr (.inr (.inl rfl)))
        rw [hx.takes pos (by omega)] at hm
        have hw : wdAt s pos = 1 := wdAt_in (by omega)
        have hfl := oflag_new (runeAt s pos) (runeAt s (pos + 1)) w'
        have hah : runeAhead s (pos + 1) = runeAt s pos := by unfold runeAhead; rw [if_neg (by omega)]; rfl
        have hgo : ∀ a', OF R M (pos + 1) dst (runeAt s (pos + 1)) (runeAt s (pos + 2)) (wdAt s (pos + 1)) (wdAt s (pos + 2)) (flagOf (runeAt s pos) (runeAt s (pos + 1))) (pos + 3) a' → Exit.inBlock 3 (Exit.then (fun a' w1 => ∃ k', k' < n + 4 - (pos + 2) ∧ OTop R M dst s n w' k' a' w1) Q) .normal a' w' := by
          intro a' hf'
          refine ⟨n + 4 - (pos + 3), by omega, rfl, pos + 3, pos + 1, rfl, by omega, .inr (.inl ⟨by omega, rfl⟩), ?_⟩
          rw [hah]
          exact hf'
        by_cases hl2 : pos + 1 < n
        · have hr1 : runeAt s (pos + 1) ≠ -1 := by
            have := (rune_bd s hs (pos + 1)).2.2
            omega
          have hw2 : wdAt s (pos + 1) = 1 := wdAt_in (by omega)
          exact on_rune_next R M pos dst _ _ _ _ _ (pos + 2) w' _ O G (n + 4) cap h.one l1 hi l2 l3 (by omega) (by omega) (pos + 3) (by omega) i0 i1 hm (by omega) (pos + 1) (by rw [hw]; rfl) (by omega) _ hfl hr1 (pos + 2) (by rw [hw2]; omega) (by omega) _ _ (ostep_at M (pos + 2) s hs (by omega) w' hM0) hgo hfr
        · have hr1 : runeAt s (pos + 1) = -1 := runeAt_out (by omega)
          have hw2 : wdAt s (pos + 1) = 0 := wdAt_out (by omega)
          refine on_rune_last R M pos dst _ _ _ _ _ (pos + 2) w' _ O G (n + 4) cap h.one l1 hi l2 l3 (by omega) (by omega) (pos + 3) (by omega) i0 i1 hm (by omega) (pos + 1) (by rw [hw]; rfl) (by omega) _ hfl hr1 ?_ hfr
          intro a' hf'
          refine hgo a' ?_
          rw [runeAt_out (s := s) (p := pos + 2) (by omega), wdAt_out (s := s) (p := pos + 2) (by omega)]
          rw [hr1, hw2] at hf' ⊢
          exact hf'
      · have hpn : pos = n := by omega
        subst hpn
        obtain ⟨i0, i1, i2, _⟩ := h.at_ (pos + 2) _ (dg_end pos).1
        have hm := oflag_end (flagOf (runeAhead s pos) (runeAt s pos)) w'
        rw [flag_lo _ _ d1 d2, decide_eq_true (by have := runeAt_out (s := s) (p := pos) (by omega); omega)] at hm
        refine on_ew R M pos dst _ _ _ _ _ (pos + 2) w' _ O G (pos + 4) cap h.one l1 hi l2 l3 (by omega) (by omega) (pos + 3) 8 (by omega) (by omega) i0 i1 i2 hm ?_ hfr
        intro a' hf'
        exact ⟨pos + 4 - (pos + 3), by omega, rfl, pos + 3, pos, rfl, by omega, .inr (.inr ⟨rfl, rfl⟩), hf'⟩

set_option maxRecDepth 1000000 in
set_option maxHeartbeats 4000000 in
theorem once_pass {R O G rb n : Nat} {s : ByteArray} {w : World} (h : OnceAt w R O G rb n) (hn : s.size = n) (hx : HexAll s) (hb : n < 1000) (h0 : 0 < n) (d : Nat) :
    Calls Tryz.prog 104 #[.pointer (some ⟨R, 0, none⟩), .nilIface, .slice none 0 0, .string s, .int .i64 0, .int .i64 0, .slice (some ⟨d, 0, none⟩) 0 0] w fun e w' => e = .returned (.slice (some ⟨d, 0, none⟩) 0 0) ∧ ∃ x : Ext w, w' = x.now := by
  obtain ⟨l1, l2, l3, l4⟩ := h.lt
  have c13 := h.cond
  have hnew := onew w
  have hb4 : bits .and .u8 4 4 = 4 := by rfl
  have H := Lib.hid h
  have HX := Lib.hid hx
  have HN := Lib.hid hn
  clear h hx hn
  go_enter Tryz.func104, Tryz.ntmps104
  go_wp2_with fail
  show (Code.scope onScope).wp Tryz.prog _ _ _
  refine wp_scope_nat (fun l k a w1 => l = 0 ∧ ∃ M, OL M (.slice (some ⟨d, 0, none⟩) 0 0) a ∧ Blk w1 M [.string s, .slice none 0 0] 215 ∧ w.heap.size ≤ M ∧ ∃ x : Ext w, w1 = x.now) ?_ ?_
  · conv => arg 2; whnf
    go_wp2_with (first | (go_at_call 105; (with_reducible refine hnew.mono ?_); rintro e w1 ⟨rfl, b1, k1, z1⟩; have t0 : w1.cell? ⟨w.heap.size, 0, none⟩ = some (.string ByteArray.empty) := (b1.cell 0).trans rfl; have t1 : w1.cell? ⟨w.heap.size, 1, none⟩ = some (.slice none 0 0) := (b1.cell 1).trans rfl; have tf0 := b1.free 0; have tf1 := b1.free 1; have tl := b1.lt))
    obtain ⟨M, hM⟩ : ∃ M, w.heap.size = M := ⟨_, rfl⟩
    rw [hM] at b1 t0 t1 tf0 tf1 tl ⊢
    obtain ⟨w2, hw2⟩ : ∃ w2, w2 = w1.setCell ⟨M, 1, none⟩ (.slice none 0 0) := ⟨_, rfl⟩
    rw [← hw2]
    have b2 : Blk w2 M [.string ByteArray.empty, .slice none 0 0] 215 := by
      have := b1.set 1 (.slice none 0 0)
      rw [← hw2] at this
      exact this
    have c12 : Chg [M] w w2 := by rw [hw2]; exact (k1.trans (Chg.set w1 M 1 _)).mono (fun b h _ => by simpa using h)
    have B2 := Lib.hid b2
    have C12 := Lib.hid c12
    clear hw2 b1 k1 t0 t1 tf0 tf1 tl z1 b2 c12
    go_loopw [61] (fun t wr => t = .int .i64 0 ∧ wr = w2) (fun _ _ => 0)
    case atStart => exact ⟨rfl, rfl⟩
    case round =>
      obtain ⟨rfl, rfl⟩ := hrel
      have b2 := B2.out
      have hl2 := b2.lt
      have hinit := oinputs_init wr M 0 s ByteArray.empty (by have := HN.out; omega) ((b2.cell 0).trans rfl) (b2.free 0) hl2
      have HI := Lib.hid hinit
      clear hinit b2
      go_wp2_with (first | (go_at_call 106; (with_reducible refine HI.out.mono ?_); rintro e w3 ⟨rfl, rfl⟩))
      obtain ⟨w3, hw3⟩ : ∃ w3, w3 = wr.setCell ⟨M, 0, none⟩ (.string s) := ⟨_, rfl⟩
      rw [← hw3]
      have b3 : Blk w3 M [.string s, .slice none 0 0] 215 := by rw [hw3]; exact B2.out.set 0 _
      have c13' : Chg [] w w3 := by
        rw [hw3]
        exact (C12.out.trans (Chg.set wr M 0 _)).mono (fun b h hlt => by simp at h; omega)
      have ho := H.out.chg c13'
      have m0 : w3.cell? ⟨M, 0, none⟩ = some (.string s) := (b3.cell 0).trans rfl
      have m1 : w3.cell? ⟨M, 1, none⟩ = some (.slice none 0 0) := (b3.cell 1).trans rfl
      have hl3 := b3.lt
      have hs := HX.out.plain
      have hsz : 0 < s.size := by have := HN.out; omega
      have hr : runeAt s 0 ≠ -1 := by have := (rune_bd s hs 0).2.2; omega
      have hw : wdAt s 0 = 1 := wdAt_in hsz
      have st0 : Calls Tryz.prog 170 #[.pointer (some ⟨M, 0, none⟩), .int .i64 0] w3 fun e w' => e = .returned (.tuple #[.int .i32 (runeAt s 0), .int .i64 (wdAt s 0 : Nat)]) ∧ w' = w3 := ostep_at M 0 s hs (by have := HN.out; omega) w3 m0
      have st1 : Calls Tryz.prog 170 #[.pointer (some ⟨M, 0, none⟩), .int .i64 1] w3 fun e w' => e = .returned (.tuple #[.int .i32 (runeAt s 1), .int .i64 (wdAt s 1 : Nat)]) ∧ w' = w3 := ostep_at M 1 s hs (by have := HN.out; omega) w3 m0
      have hfl := oflag_new (-1) (runeAt s 0) w3
      obtain ⟨i0, i1, i2, _⟩ := ho.at_ 1 _ (dg_one n)
      simp only [Nat.one_mul, Nat.reduceAdd] at i0 i1 i2
      have hmt := oflag_begin (flagOf (-1) (runeAt s 0)) w3
      rw [flag_hi _ _ (by omega) (by omega), decide_eq_true (by omega)] at hmt
      have d2 := ho.one
      have d6 := ho.pre
      obtain ⟨cap, dO⟩ := ho.insts
      have dO1 := ho.start
      obtain ⟨q1, q2, q3, q4⟩ := ho.lt
      have hsize : ByteArray.empty.size = 0 := rfl
      have A1 := Lib.hid st0
      have A2 := Lib.hid st1
      have A3 := Lib.hid hfl
      have A4 := Lib.hid hmt
      have A5 := Lib.hid ho
      have A6 := Lib.hid b3
      have A7 := Lib.hid c13'
      clear st0 st1 hfl hmt ho b3 c13' hw3
      go_wp2_with (first | (go_at_call 170; (with_reducible refine A1.out.mono ?_); rintro e w2 ⟨rfl, rfl⟩) | (go_at_call 170; (with_reducible refine A2.out.mono ?_); rintro e w2 ⟨rfl, rfl⟩) | (go_at_call 107; (with_reducible refine A3.out.mono ?_); rintro e w2 ⟨rfl, rfl⟩) | (go_at_call 108; (with_reducible refine A4.out.mono ?_); rintro e w2 ⟨rfl, rfl⟩))
      show (Code.loop onBody).wp Tryz.prog _ _ _
      refine once_loop A5.out HN.out HX.out hb h0 m0 m1 hl3 ?_ (by rw [hw]; constructor)
      intro a' hol
      show ∃ k', 0 = 0 ∧ ∃ M, OL M (.slice (some ⟨d, 0, none⟩) 0 0) a' ∧ Blk _ M [.string s, .slice none 0 0] 215 ∧ w.heap.size ≤ M ∧ ∃ x : Ext w, _ = x.now
      exact ⟨0, rfl, M, hol, A6.out, by omega, Ext.of (A7.out.below (Nat.le_refl _) (fun b hb => by cases hb))⟩
  · rintro k l a w1 ⟨rfl, M, hol, b1, hge, x, rfl⟩
    refine ⟨onRest, on_label, ?_⟩
    have m1 : x.now.cell? ⟨M, 1, none⟩ = some (.slice none 0 0) := (b1.cell 1).trans rfl
    have hl1 := b1.lt
    have hfree := ofree x.now M s ((b1.cell 0).trans rfl) (b1.free 0) hl1
    have HF := Lib.hid hfree
    clear hfree hnew
    cases hol
    conv => arg 2; whnf
    go_wp2_with (first | (go_at_call 110; (with_reducible refine HF.out.mono ?_); rintro e w2 ⟨rfl, rfl⟩))
    simp only [Exit.jumps]
    go_ret
    have cM : Chg [M] w (x.now.setCell ⟨M, 0, none⟩ (.string ByteArray.empty)) := ((Chg.of_below x.below).trans (Chg.set x.now M 0 _)).mono (fun b h _ => by simpa using h)
    exact ⟨rfl, Ext.of (cM.below (Nat.le_refl _) (fun b hb => by simp at hb; omega))⟩

set_option maxRecDepth 1000000 in
set_option maxHeartbeats 4000000 in
theorem once_match {R O G rb n : Nat} {s : ByteArray} {w : World} (h : OnceAt w R O G rb n) (hn : s.size = n) (hx : HexAll s) (hb : n < 1000) (h0 : 0 < n) :
    Calls Tryz.prog 66 #[.pointer (some ⟨R, 0, none⟩), .string s] w fun e w' => e = .returned (.bool true) ∧ ∃ x : Ext w, w' = x.now := by
  have hfind : Calls Tryz.prog 98 #[.pointer (some ⟨R, 0, none⟩), .nilIface, .slice none 0 0, .string s, .int .i64 0, .int .i64 0, .slice none 0 0] w fun e w' => ∃ d, e = .returned (.slice (some ⟨d, 0, none⟩) 0 0) ∧ ∃ x : Ext w, w' = x.now := by
    have m14 := h.min
    have hl := h.lt.1
    have hs : (s.size : Int) = (n : Int) := by omega
    have hlt : IntKind.i64.wrap (0 + (s.size : Int)) = (s.size : Int) := by rw [Int.zero_add, Go.IntWalk.i64_left]; exact Go.IntWalk.wrap64_in _ (by omega)
    have sl_nil : ∀ w : World, (binOp BinOp.eql 91 (.slice none 0 0) (.slice none 0 0)).run Tryz.prog w = .ok (.bool true) w := fun w => by kernel_rfl
    have H := Lib.hid h
    have HX := Lib.hid hx
    have HN := Lib.hid hn
    clear h hx hn
    go_enter Tryz.func98, Tryz.ntmps98
    go_wp2_with (first | (go_at_call 104; (with_reducible refine (once_pass (H.out.chg (Chg.alloc w _)) HN.out HX.out hb h0 _).mono ?_); rintro e w1 ⟨rfl, x, rfl⟩))
    go_ret
    exact ⟨_, rfl, Ext.via x⟩
  have hmatch : Calls Tryz.prog 87 #[.pointer (some ⟨R, 0, none⟩), .nilIface, .slice none 0 0, .string s] w fun e w' => e = .returned (.bool true) ∧ ∃ x : Ext w, w' = x.now := by
    have ints_nn : ∀ (A : Nat) (w : World), (binOp BinOp.neq 91 (.slice (some ⟨A, 0, none⟩) 0 0) (.slice none 0 0)).run Tryz.prog w = .ok (.bool true) w := fun A w => by kernel_rfl
    have HF := Lib.hid hfind
    clear h hx hn hfind
    go_enter Tryz.func87, Tryz.ntmps87
    go_wp2_with (first | (go_at_call 98; (with_reducible refine HF.out.mono ?_); rintro e w1 ⟨d, rfl, x, rfl⟩))
    go_ret
    exact ⟨rfl, x, rfl⟩
  have HM := Lib.hid hmatch
  clear h hx hn hfind hmatch
  go_enter Tryz.func66, Tryz.ntmps66
  go_wp2_with (first | (go_at_call 87; (with_reducible refine HM.out.mono ?_); rintro e w1 ⟨rfl, x, rfl⟩))
  go_ret
  exact ⟨rfl, x, rfl⟩

end
end Go.Proofs.YtooggfopjaaejaaGreatDoor
namespace Go.Proofs.YtooggfopjaaejaaGreatDoor
open Go.RowKit Go.Rx
attribute [local go_sem] Ext.cell Ext.frozen Ext.lt Ext.lt_add Ext.cell2 Ext.frozen2

theorem nats_extract (s : ByteArray) (a b : Nat) : nats (s.extract a b) = ((nats s).take b).drop a := by
  unfold nats
  rw [ByteArray.data_extract, Array.toList_extract, List.extract_eq_drop_take', List.map_drop, List.map_take]

theorem nats_inj {s t : ByteArray} (h : nats s = nats t) : s = t := by
  refine WideShapes.bytes_inj ?_
  have hi : ∀ (a b : List UInt8), a.map UInt8.toNat = b.map UInt8.toNat → a = b := by
    intro a
    induction a with
    | nil => intro b hb; cases b with
      | nil => rfl
      | cons y b => simp at hb
    | cons x a ih => intro b hb; cases b with
      | nil => simp at hb
      | cons y b =>
        simp only [List.map_cons, List.cons.injEq] at hb
        rw [UInt8.toNat_inj.1 hb.1, ih b hb.2]
  exact hi _ _ h

/-- Two texts are one just if their bytes are. -/
theorem beq_nats (s t : ByteArray) : (s.toList == t.toList) = decide (nats s = nats t) := by
  by_cases h : nats s = nats t
  · rw [nats_inj h]
    simp
  · rw [decide_eq_false h]
    have hne : s ≠ t := fun e => h (by rw [e])
    exact beq_eq_false_iff_ne.2 fun e => hne (WideShapes.bytes_inj (by rw [← Lib.toList_data, e, Lib.toList_data]))

/-- How many bytes at the head of a list are of a kind. -/
def runLen (p : Nat → Bool) (l : List Nat) : Nat := (l.takeWhile p).length

theorem runLen_le (p : Nat → Bool) (l : List Nat) : runLen p l ≤ l.length := (List.takeWhile_prefix p).length_le

theorem runLen_at {p : Nat → Bool} {l : List Nat} {i : Nat} (h : i < l.length) : runLen p (l.drop i) = if p (l.getD i 0) = true then runLen p (l.drop (i + 1)) + 1 else 0 := by
  unfold runLen
  rw [List.drop_eq_getElem_cons h, List.takeWhile_cons, List.getD_eq_getElem?_getD, List.getElem?_eq_getElem h]
  simp only [Option.getD_some]
  by_cases hp : p l[i] = true
  · rw [if_pos hp, if_pos hp]; rfl
  · rw [if_neg hp, if_neg hp]; rfl

theorem runLen_end {p : Nat → Bool} {l : List Nat} {i : Nat} (h : l.length ≤ i) : runLen p (l.drop i) = 0 := by
  unfold runLen
  rw [List.drop_eq_nil_of_le h]
  rfl

/-- All of a list, which is not empty, is of a kind. -/
def allF (p : Nat → Bool) (l : List Nat) : Bool := decide (l ≠ []) && l.all p

theorem runLen_all (p : Nat → Bool) (l : List Nat) : decide (runLen p l = l.length) = l.all p := by
  unfold runLen
  induction l with
  | nil => rfl
  | cons x l ih =>
    rw [List.takeWhile_cons, List.all_cons]
    cases p x with
    | true => simpa using ih
    | false => simp

/-- The first place of a byte, or -1. -/
def firstF (c : Nat) (l : List Nat) : Int := if c ∈ l then runLen (fun x => !is c x) l else -1


/-- A call of the function enters it. -/
abbrev Enters (F : FuncId) : Prop := ∀ (args : Array Value) (w : World), (callFunc F args).run Tryz.prog w = .ok (.enter F args) w

theorem enters_digit : Enters 47 := fun args w => by kernel_rfl

set_option maxRecDepth 100000 in
/-- refRun -/
theorem run_any {F : FuncId} {p : Nat → Bool} (he : Enters F) (hk : Kind F p) (s : ByteArray) (i : Nat) (w : World) (hi : i ≤ s.size) (hs : s.size < 100000000000) :
    Calls Tryz.prog 69 #[.string s, .int .i64 i, .func (.func F) #[] #[]] w fun e w' => e = .returned (.int .i64 (i + runLen p ((nats s).drop i) : Nat)) ∧ ∃ y : Ext w, w' = y.now := by
  have HK := Lib.hid hk
  clear hk
  go_enter Tryz.func69, Tryz.ntmps69
  go_wp2_with fail
  go_loopw [1] (fun t wr => ∃ k : Nat, t = .int .i64 k ∧ i ≤ k ∧ k ≤ s.size ∧ k + runLen p ((nats s).drop k) = i + runLen p ((nats s).drop i) ∧ ∃ x : Ext w, wr = x.now) (fun t _ => s.size - (intOf t).toNat)
  case atStart => exact ⟨i, rfl, Nat.le_refl _, hi, rfl, Ext.here _⟩
  case round =>
    obtain ⟨k, rfl, hik, hks, hrun, x, rfl⟩ := hrel
    by_cases hlt : k < s.size
    · have hlt' : (k : Int) < (s.size : Int) := by omega
      have h0 : (0 : Int) ≤ (k : Int) := by omega
      have hr := runLen_at (p := p) (l := nats s) (i := k) (by rw [nats_length]; exact hlt)
      rw [nats_at s k hlt] at hr
      have hK := HK.out ((s[k]'hlt).toNat) x.now
      have HKK := Lib.hid hK
      have HR := Lib.hid hr
      clear hK hr
      go_wp2_with (with_reducible refine HKK.out.mono ?_; rintro e w1 ⟨rfl, y, rfl⟩)
      · rename_i hp
        have := HR.out
        rw [if_pos (by simpa using hp)] at this
        exact ⟨⟨k + 1, by simp, by omega, by omega, by omega, Ext.both x y⟩, by simp [intOf]; omega⟩
      · rename_i hp
        have := HR.out
        rw [if_neg (by simp [hp])] at this
        go_ret
        rw [show i + runLen p ((nats s).drop i) = k by omega]
        exact ⟨rfl, Ext.both x y⟩
    · have hkn : k = s.size := by omega
      subst hkn
      have hlt' : ¬ ((s.size : Int) < (s.size : Int)) := by omega
      have := runLen_end (p := p) (l := nats s) (i := s.size) (by rw [nats_length]; exact Nat.le_refl _)
      have e : ((s.size : Nat) : Int) = (i : Int) + (runLen p ((nats s).drop i) : Int) := by omega
      have E := Lib.hid e
      clear this hrun e
      go_wp2_with fail
      go_ret
      exact ⟨by rw [← E.out]; rfl, x, rfl⟩

theorem firstF_cons (c x : Nat) (l : List Nat) : firstF c (x :: l) = if x = c then 0 else if firstF c l = -1 then -1 else firstF c l + 1 := by
  unfold firstF runLen
  by_cases hx : x = c
  · subst hx
    simp [is]
  · have hcx : ¬ c = x := fun e => hx e.symm
    by_cases hm : c ∈ l
    · rw [if_pos (List.mem_cons_of_mem _ hm), if_neg hx, if_pos hm, if_neg (by omega), List.takeWhile_cons, if_pos (by simp [is, hx])]
      simp
    · rw [if_neg (by simp [hcx, hm]), if_neg hx, if_neg hm, if_pos rfl]

theorem firstF_at {c : Nat} {l : List Nat} {i : Nat} (h : i < l.length) : firstF c (l.drop i) = if l.getD i 0 = c then 0 else if firstF c (l.drop (i + 1)) = -1 then -1 else firstF c (l.drop (i + 1)) + 1 := by
  rw [List.drop_eq_getElem_cons h, firstF_cons, List.getD_eq_getElem?_getD, List.getElem?_eq_getElem h]
  rfl

theorem firstF_end {c : Nat} {l : List Nat} {i : Nat} (h : l.length ≤ i) : firstF c (l.drop i) = -1 := by
  rw [List.drop_eq_nil_of_le h]
  rfl

set_option maxRecDepth 100000 in
/-- RefFirst -/
theorem first_any (s : ByteArray) (c : Nat) (w : World) (hs : s.size < 100000000000) :
    Calls Tryz.prog 27 #[.string s, .int .u8 c] w fun e w' => e = .returned (.int .i64 (firstF c (nats s))) ∧ w' = w := by
  go_enter Tryz.func27, Tryz.ntmps27
  go_wp2_with fail
  go_loopw [5] (fun t wr => ∃ k : Nat, t = .int .i64 k ∧ k ≤ s.size ∧ firstF c (nats s) = (if firstF c ((nats s).drop k) = -1 then -1 else (k : Int) + firstF c ((nats s).drop k)) ∧ wr = w) (fun t _ => s.size - (intOf t).toNat)
  case atStart => exact ⟨0, rfl, Nat.zero_le _, by rw [List.drop_zero]; split <;> simp_all, rfl⟩
  case round =>
    obtain ⟨k, rfl, hks, hrun, rfl⟩ := hrel
    by_cases hlt : k < s.size
    · have hlt' : (k : Int) < (s.size : Int) := by omega
      have h0 : (0 : Int) ≤ (k : Int) := by omega
      have hr := firstF_at (c := c) (l := nats s) (i := k) (by rw [nats_length]; exact hlt)
      rw [nats_at s k hlt] at hr
      have HR := Lib.hid hr
      have HRUN := Lib.hid hrun
      clear hr hrun
      by_cases hc : (s[k]'hlt).toNat = c
      · have hc' : (((s[k]'hlt).toNat : Nat) : Int) = (c : Int) := by omega
        have e : firstF c (nats s) = (k : Int) := by
          rw [HRUN.out, HR.out, if_pos hc]
          simp
        have E := Lib.hid e
        clear e hc
        go_wp2_with fail
        go_ret
        exact ⟨by rw [E.out]; rfl, rfl⟩
      · have hc' : ¬ (((s[k]'hlt).toNat : Nat) : Int) = (c : Int) := by omega
        have e : firstF c (nats s) = (if firstF c ((nats s).drop (k + 1)) = -1 then -1 else ((k + 1 : Nat) : Int) + firstF c ((nats s).drop (k + 1))) := by
          rw [HRUN.out, HR.out, if_neg hc]
          by_cases hz : firstF c ((nats s).drop (k + 1)) = -1
          · rw [if_pos hz, if_pos hz, if_pos rfl]
          · rw [if_neg hz, if_neg hz]
            have : (0 : Int) ≤ firstF c ((nats s).drop (k + 1)) := by
              unfold firstF at hz ⊢
              split <;> simp_all
            rw [if_neg (by omega)]
            omega
        have E := Lib.hid e
        clear e hc
        go_wp2_with fail
        exact ⟨⟨k + 1, by simp, by omega, E.out, True.intro⟩, by simp [intOf]; omega⟩
    · have hkn : k = s.size := by omega
      subst hkn
      have hlt' : ¬ ((s.size : Int) < (s.size : Int)) := by omega
      have := firstF_end (c := c) (l := nats s) (i := s.size) (by rw [nats_length]; exact Nat.le_refl _)
      rw [this, if_pos rfl] at hrun
      have HRUN := Lib.hid hrun
      clear this hrun
      go_wp2_with fail
      go_ret
      exact ⟨by rw [HRUN.out]; rfl, rfl⟩

theorem int_beq (a b : Nat) : (((a : Nat) : Int) == ((b : Nat) : Int)) = decide (a = b) := by
  by_cases h : a = b
  · subst h; simp
  · rw [decide_eq_false h]
    exact beq_eq_false_iff_ne.2 (by omega)

theorem nats_nil : nats ByteArray.empty = [] := rfl

theorem empty_nats (s : ByteArray) : s.toList.isEmpty = decide (nats s = []) := by
  rw [Lib.toList_data]
  unfold nats
  cases s.data.toList <;> simp

set_option maxRecDepth 100000 in
/-- refAll -/
theorem all_any {F : FuncId} {p : Nat → Bool} (he : Enters F) (hk : Kind F p) (s : ByteArray) (w : World) (hs : s.size < 100000000000) :
    Calls Tryz.prog 42 #[.string s, .func (.func F) #[] #[]] w fun e w' => e = .returned (.bool (allF p (nats s))) ∧ ∃ y : Ext w, w' = y.now := by
  have hr : Calls Tryz.prog 69 #[.string s, .int .i64 0, .func (.func F) #[] #[]] w fun e w' => e = .returned (.int .i64 (runLen p (nats s) : Nat)) ∧ ∃ y : Ext w, w' = y.now := by
    have := run_any he hk s 0 w (Nat.zero_le _) hs
    simp only [List.drop_zero, Nat.zero_add] at this
    exact this
  have HR := Lib.hid hr
  have ha := runLen_all p (nats s)
  rw [nats_length] at ha
  clear hr he hk
  by_cases hz : nats s = []
  · have e : s.toList.isEmpty = true := by rw [empty_nats, decide_eq_true hz]
    have : allF p (nats s) = false := by simp [allF, hz]
    rw [this]
    clear this ha hz
    go_enter Tryz.func42, Tryz.ntmps42
    go_wp2_with fail
    go_ret
    exact ⟨rfl, Ext.here _⟩
  · have e : s.toList.isEmpty = false := by rw [empty_nats, decide_eq_false hz]
    have : allF p (nats s) = decide (runLen p (nats s) = s.size) := by simp [allF, hz, ha]
    rw [this]
    clear this ha hz
    go_enter Tryz.func42, Tryz.ntmps42
    go_wp2_with (first | (go_at_call 69; (with_reducible refine HR.out.mono ?_); rintro e w1 ⟨rfl, y, rfl⟩))
    go_ret
    refine ⟨?_, y, rfl⟩
    show Ending.returned (.bool (((runLen p (nats s) : Nat) : Int) == ((s.size : Nat) : Int))) = _
    rw [int_beq]

end Go.Proofs.YtooggfopjaaejaaGreatDoor
namespace Go.Proofs.YtooggfopjaaejaaGreatDoor
open Go.RowKit Go.Rx
attribute [local go_sem] Ext.cell Ext.frozen Ext.lt Ext.lt_add Ext.cell2 Ext.frozen2

theorem enters_lower : Enters 52 := fun args w => by kernel_rfl
theorem enters_hex : Enters 43 := fun args w => by kernel_rfl
theorem enters_shx : Enters 53 := fun args w => by kernel_rfl
theorem enters_tch : Enters 44 := fun args w => by kernel_rfl
theorem enters_dfx : Enters 51 := fun args w => by kernel_rfl
theorem enters_hcl : Enters 70 := fun args w => by kernel_rfl
theorem enters_anh : Enters 90 := fun args w => by kernel_rfl
theorem enters_hyp : Enters 91 := fun args w => by kernel_rfl
theorem enters_nlow : Enters 72 := fun args w => by kernel_rfl

/-- A separator. -/
def sepF (l : List Nat) : Bool := decide (l = [46]) || (decide (l = [95]) || (decide (l = [95, 95]) || allF (is 45) l))

/-- A text against a text of the program's: by its bytes. -/
theorem lit_nats (s : ByteArray) (l : List UInt8) : (s.toList == l) = decide (nats s = l.map UInt8.toNat) := by
  have := beq_nats s ⟨l.toArray⟩
  have h1 : (⟨l.toArray⟩ : ByteArray).toList = l := by rw [Lib.toList_data]
  have h2 : nats ⟨l.toArray⟩ = l.map UInt8.toNat := rfl
  rw [h1] at this
  rw [this]
  exact decide_eq_decide.2 (by rw [h2])

theorem is_text (s : ByteArray) (l : List UInt8) (h : nats s = l.map UInt8.toNat) : (s.toList == l) = true := by rw [lit_nats, decide_eq_true h]
theorem not_text (s : ByteArray) (l : List UInt8) (h : ¬ nats s = l.map UInt8.toNat) : (s.toList == l) = false := by rw [lit_nats, decide_eq_false h]

set_option maxRecDepth 100000 in
theorem sep_any (s : ByteArray) (w : World) (hs : s.size < 100000000000) :
    Calls Tryz.prog 73 #[.string s] w fun e w' => e = .returned (.bool (sepF (nats s))) ∧ ∃ y : Ext w, w' = y.now := by
  have HA := Lib.hid (all_any enters_hyp kind_hyp s w hs)
  unfold sepF
  by_cases h1 : nats s = [46]
  · have e1 := is_text s [46] h1
    rw [decide_eq_true h1]
    clear h1
    go_enter Tryz.func73, Tryz.ntmps73
    go_wp2
    go_ret
    exact ⟨rfl, Ext.here _⟩
  have e1 := not_text s [46] h1
  rw [decide_eq_false h1]
  clear h1
  by_cases h2 : nats s = [95]
  · have e2 := is_text s [95] h2
    rw [decide_eq_true h2]
    clear h2
    go_enter Tryz.func73, Tryz.ntmps73
    go_wp2
    go_ret
    exact ⟨rfl, Ext.here _⟩
  have e2 := not_text s [95] h2
  rw [decide_eq_false h2]
  clear h2
  by_cases h3 : nats s = [95, 95]
  · have e3 := is_text s [95, 95] h3
    rw [decide_eq_true h3]
    clear h3
    go_enter Tryz.func73, Tryz.ntmps73
    go_wp2
    go_ret
    exact ⟨rfl, Ext.here _⟩
  have e3 := not_text s [95, 95] h3
  rw [decide_eq_false h3]
  clear h3
  obtain ⟨b, hb⟩ : ∃ b, b = allF (is 45) (nats s) := ⟨_, rfl⟩
  rw [← hb] at HA ⊢
  clear hb
  go_enter Tryz.func73, Tryz.ntmps73
  go_wp2_with (first | (go_at_call 42; (with_reducible refine HA.out.mono ?_); rintro e w1 ⟨rfl, y, rfl⟩))
  go_ret
  exact ⟨by simp, y, rfl⟩

/-- A component's rest, byte place by byte place. -/
theorem drop_takeWhile (p : Nat → Bool) (l : List Nat) : l.drop (runLen p l) = l.dropWhile p := by
  unfold runLen
  induction l with
  | nil => rfl
  | cons x l ih =>
    rw [List.takeWhile_cons, List.dropWhile_cons]
    cases p x with
    | true => simpa using ih
    | false => simp

theorem take_runLen (p : Nat → Bool) (l : List Nat) : l.take (runLen p l) = l.takeWhile p := by
  unfold runLen
  exact (List.prefix_iff_eq_take.1 (List.takeWhile_prefix p)).symm

theorem takeWhile_nil {p : Nat → Bool} {l : List Nat} : l.takeWhile p = [] ↔ runLen p l = 0 := by
  unfold runLen
  exact List.length_eq_zero_iff.symm

theorem tailF_mono : ∀ (k : Nat) (l : List Nat) (j : Nat), l.length ≤ k → l.length ≤ j → tailF k l = tailF j l := by
  intro k l j hk hj
  have h1 := fun h => tailF_ok k l h
  by_cases h : tailF k l = true
  · rw [h, tailF_all j l hj (h1 h)]
  · have hk' : tailF k l = false := by simpa using h
    rw [hk']
    by_cases g : tailF j l = true
    · exact absurd (tailF_all k l hk (tailF_ok j l g)) h
    · simpa using g

/-- One round of a component's loop. -/
theorem tail_round {l : List Nat} {i : Nat} (h : i < l.length) :
    tailF l.length (l.drop i) =
      (sepF ((l.drop i).takeWhile nlow) && (decide (runLen low (l.drop (i + runLen nlow (l.drop i))) ≠ 0) && tailF l.length (l.drop (i + runLen nlow (l.drop i) + runLen low (l.drop (i + runLen nlow (l.drop i))))))) := by
  have h1 : l.drop (i + runLen nlow (l.drop i)) = (l.drop i).dropWhile nlow := by rw [← List.drop_drop, drop_takeWhile]
  have h2 : l.drop (i + runLen nlow (l.drop i) + runLen low (l.drop (i + runLen nlow (l.drop i)))) = ((l.drop i).dropWhile nlow).dropWhile low := by
    rw [← List.drop_drop, h1, drop_takeWhile]
  rw [h2, h1]
  have hl : (l.drop i).length ≤ l.length := by simp
  cases hd : l.drop i with
  | nil => simp at hd; omega
  | cons x r =>
    have hx : l.length = (l.length - 1) + 1 := by omega
    rw [hx, tailF]
    have e1 : ((x :: r).takeWhile fun y => !low y) = (x :: r).takeWhile nlow := rfl
    have e2 : ((x :: r).dropWhile fun y => !low y) = (x :: r).dropWhile nlow := rfl
    simp only [e1, e2]
    have e3 : decide (((x :: r).dropWhile nlow).takeWhile low ≠ []) = decide (runLen low ((x :: r).dropWhile nlow) ≠ 0) := decide_eq_decide.2 (not_congr takeWhile_nil)
    rw [e3]
    unfold sepF allF
    simp only [Bool.and_assoc, Bool.or_assoc]
    by_cases hz : runLen low ((x :: r).dropWhile nlow) = 0
    · simp [hz]
    · congr 2
      refine tailF_mono _ _ _ ?_ ?_
      · have hq : (((x :: r).dropWhile nlow).dropWhile low).length < ((x :: r).dropWhile nlow).length := by
          rw [← drop_takeWhile, List.length_drop]
          have := runLen_le low ((x :: r).dropWhile nlow)
          omega
        have hq2 : ((x :: r).dropWhile nlow).length ≤ (x :: r).length := (List.dropWhile_suffix _).length_le
        rw [hd] at hl
        omega
      · have hq : (((x :: r).dropWhile nlow).dropWhile low).length ≤ ((x :: r).dropWhile nlow).length := (List.dropWhile_suffix _).length_le
        have hq2 : ((x :: r).dropWhile nlow).length ≤ (x :: r).length := (List.dropWhile_suffix _).length_le
        rw [hd] at hl
        omega

set_option maxRecDepth 100000 in
/-- RefComponent -/
theorem comp_any (s : ByteArray) (w : World) (hs : s.size < 100000000000) :
    Calls Tryz.prog 50 #[.string s] w fun e w' => e = .returned (.bool (compF (nats s))) ∧ ∃ y : Ext w, w' = y.now := by
  have hr0 : Calls Tryz.prog 69 #[.string s, .int .i64 0, .func (.func 52) #[] #[]] w fun e w' => e = .returned (.int .i64 (runLen low (nats s) : Nat)) ∧ ∃ y : Ext w, w' = y.now := by
    have := run_any enters_lower kind_lower s 0 w (Nat.zero_le _) hs
    simp only [List.drop_zero, Nat.zero_add] at this
    exact this
  have hlen := nats_length s
  obtain ⟨i, hi⟩ : ∃ i, i = runLen low (nats s) := ⟨_, rfl⟩
  have hil : i ≤ s.size := by rw [hi, ← hlen]; exact runLen_le _ _
  have hc : compF (nats s) = (decide (i ≠ 0) && tailF (nats s).length ((nats s).drop i)) := by
    unfold compF
    rw [hi, drop_takeWhile]
    congr 1
    exact decide_eq_decide.2 (not_congr takeWhile_nil)
  rw [hc]
  rw [← hi] at hr0
  have HR := Lib.hid hr0
  clear hr0 hc hi
  by_cases hz : i = 0
  · subst hz
    go_enter Tryz.func50, Tryz.ntmps50
    go_wp2_with (first | (go_at_call 69; (with_reducible refine HR.out.mono ?_); rintro e w1 ⟨rfl, y, rfl⟩))
    go_ret
    exact ⟨rfl, y, rfl⟩
  · have hz' : ((i : Int) == 0) = false := beq_eq_false_iff_ne.2 (by omega)
    rw [decide_eq_true hz, Bool.true_and]
    obtain ⟨b, hb⟩ : ∃ b, b = tailF (nats s).length ((nats s).drop i) := ⟨_, rfl⟩
    rw [← hb]
    go_enter Tryz.func50, Tryz.ntmps50
    go_wp2_with (first | (go_at_call 69; (with_reducible refine HR.out.mono ?_); rintro e w1 ⟨rfl, y, rfl⟩))
    go_loopw [3] (fun t wr => ∃ k : Nat, t = .int .i64 k ∧ k ≤ s.size ∧ b = tailF (nats s).length ((nats s).drop k) ∧ ∃ x : Ext w, wr = x.now) (fun t _ => s.size - (intOf t).toNat)
    case atStart => exact ⟨i, rfl, hil, hb, y, rfl⟩
    case round =>
      obtain ⟨k, rfl, hks, hbk, x, rfl⟩ := hrel
      by_cases hlt : k < s.size
      · have hlt' : (k : Int) < (s.size : Int) := by omega
        obtain ⟨m, hm⟩ : ∃ m, m = k + runLen nlow ((nats s).drop k) := ⟨_, rfl⟩
        obtain ⟨n, hn⟩ : ∃ n, n = m + runLen low ((nats s).drop m) := ⟨_, rfl⟩
        have hml : k ≤ m ∧ m ≤ s.size := by
          have := runLen_le nlow ((nats s).drop k)
          rw [List.length_drop, hlen] at this
          omega
        have hnl : m ≤ n ∧ n ≤ s.size := by
          have := runLen_le low ((nats s).drop m)
          rw [List.length_drop, hlen] at this
          omega
        have hround := tail_round (l := nats s) (i := k) (by rw [hlen]; exact hlt)
        rw [← hm, ← hn] at hround
        have hsep : nats (s.extract k m) = ((nats s).drop k).takeWhile nlow := by
          rw [nats_extract, List.drop_take, ← take_runLen]
          congr 1
          omega
        have c1 : ∀ W : World, Calls Tryz.prog 69 #[.string s, .int .i64 k, .func (.func 72) #[] #[]] W fun e w' => e = .returned (.int .i64 m) ∧ ∃ y : Ext W, w' = y.now := fun W => by rw [hm]; exact run_any enters_nlow kind_nlow s k W (by omega) hs
        have c2 : ∀ W : World, Calls Tryz.prog 69 #[.string s, .int .i64 m, .func (.func 52) #[] #[]] W fun e w' => e = .returned (.int .i64 n) ∧ ∃ y : Ext W, w' = y.now := fun W => by rw [hn]; exact run_any enters_lower kind_lower s m W (by omega) hs
        have c3 : ∀ W : World, Calls Tryz.prog 73 #[.string (s.extract k m)] W fun e w' => e = .returned (.bool (sepF (nats (s.extract k m)))) ∧ ∃ y : Ext W, w' = y.now := fun W => sep_any (s.extract k m) W (by rw [ByteArray.size_extract]; omega)
        have hkn : k < n ∨ n = m := by
          rcases Nat.lt_or_ge k n with h | h
          · exact .inl h
          · exact .inr (by omega)
        have hnm : decide (runLen low ((nats s).drop m) ≠ 0) = decide (n ≠ m) := decide_eq_decide.2 (by omega)
        rw [← hsep, hnm] at hround
        obtain ⟨b1, hb1⟩ : ∃ b1, b1 = sepF (nats (s.extract k m)) := ⟨_, rfl⟩
        rw [← hb1] at c3 hround
        rw [hround] at hbk
        have h0 : (0 : Int) ≤ (k : Int) := by omega
        have h1 : (k : Int) ≤ (m : Int) := by omega
        have h2 : (m : Int) ≤ (s.size : Int) := by omega
        have C1 := Lib.hid c1
        have C2 := Lib.hid c2
        have C3 := Lib.hid c3
        clear c1 c2 c3 hm hn hround hnm hb hb1 hsep
        by_cases hnm : n = m
        · subst hnm
          have hbf : b = false := by rw [hbk]; simp
          subst hbf
          clear hbk
          cases b1 with
          | true =>
            go_wp2_with (first | (go_at_call 69; (with_reducible refine (C1.out _).mono ?_); rintro e w1 ⟨rfl, y1, rfl⟩) | (go_at_call 69; (with_reducible refine (C2.out _).mono ?_); rintro e w1 ⟨rfl, y2, rfl⟩) | (go_at_call 73; (with_reducible refine (C3.out _).mono ?_); rintro e w1 ⟨rfl, y3, rfl⟩))
            go_ret
            exact ⟨rfl, Ext.both x ((y1.trans y2).trans y3)⟩
          | false =>
            go_wp2_with (first | (go_at_call 69; (with_reducible refine (C1.out _).mono ?_); rintro e w1 ⟨rfl, y1, rfl⟩) | (go_at_call 69; (with_reducible refine (C2.out _).mono ?_); rintro e w1 ⟨rfl, y2, rfl⟩) | (go_at_call 73; (with_reducible refine (C3.out _).mono ?_); rintro e w1 ⟨rfl, y3, rfl⟩))
            go_ret
            exact ⟨rfl, Ext.both x ((y1.trans y2).trans y3)⟩
        · have hnm' : ¬ (n : Int) = (m : Int) := by omega
          rw [decide_eq_true hnm, Bool.true_and] at hbk
          cases b1 with
          | true =>
            rw [Bool.true_and] at hbk
            have HBK := Lib.hid hbk
            clear hbk
            go_wp2_with (first | (go_at_call 69; (with_reducible refine (C1.out _).mono ?_); rintro e w1 ⟨rfl, y1, rfl⟩) | (go_at_call 69; (with_reducible refine (C2.out _).mono ?_); rintro e w1 ⟨rfl, y2, rfl⟩) | (go_at_call 73; (with_reducible refine (C3.out _).mono ?_); rintro e w1 ⟨rfl, y3, rfl⟩))
            exact ⟨⟨n, rfl, by omega, HBK.out, Ext.both x ((y1.trans y2).trans y3)⟩, by simp [intOf]; omega⟩
          | false =>
            have hbf : b = false := by rw [hbk]; simp
            subst hbf
            clear hbk
            go_wp2_with (first | (go_at_call 69; (with_reducible refine (C1.out _).mono ?_); rintro e w1 ⟨rfl, y1, rfl⟩) | (go_at_call 69; (with_reducible refine (C2.out _).mono ?_); rintro e w1 ⟨rfl, y2, rfl⟩) | (go_at_call 73; (with_reducible refine (C3.out _).mono ?_); rintro e w1 ⟨rfl, y3, rfl⟩))
            go_ret
            exact ⟨rfl, Ext.both x ((y1.trans y2).trans y3)⟩
      · have hkn : k = s.size := by omega
        subst hkn
        have hlt' : ¬ ((s.size : Int) < (s.size : Int)) := by omega
        have hbt : b = true := by rw [hbk, List.drop_eq_nil_of_le (by rw [hlen]; exact Nat.le_refl _)]; rw [tailF]
        subst hbt
        clear hb hbk
        go_wp2_with fail
        go_ret
        exact ⟨rfl, x, rfl⟩

end Go.Proofs.YtooggfopjaaejaaGreatDoor
