/-
FnRefNormalSelf: the regular expressions, the digest and the reference, part 9 of 26.
-/
import Derived.Test.YtkbmigfkclnlaaaGreatDoorV08
import Derived.Lib.Hide
import Derived.Deep.Cut
import Derived.Test.YtkbmigfkclnlaaaGreatDoorV06
import Derived.LaidEqlPtr
set_option linter.all false
namespace Go.Proofs.YtkbmigfkclnlaaaGreatDoor
open Go.RowKit Go.Rx
attribute [local go_sem] Ext.cell Ext.frozen Ext.lt Ext.lt_add Ext.cell2 Ext.frozen2

set_option maxRecDepth 1000000 in
set_option maxHeartbeats 4000000 in
theorem add_in (u7 u8 u9 u10 u11 u12 u13 u14 u15 u16 u17 u18 u19 u20 u21 u22 u23 u24 u25 u26 u27 u28 u29 u30 u31 u32 u33 u34 u35 u36 u37 u38 u39 u40 u41 u42 u43 u44 u45 u46 u47 u48 u49 u50 u51 u52 u53 u54 u55 u56 u57 u58 u59 u60 u61 u62 u63 u64 u65 u66 u67 u68 u69 u70 u71 u72 u73 u74 u75 u76 u77 u78 u79 u80 u81 u82 u83 u84 u85 u86 u87 u88 u89 u90 u91 u92 u93 u94 u95 u96 u97 u98 u99 u100 u101 u102 u103 u104 u105 u106 u107 u108 u109 u110 u111 u112 u113 u114 u115 u116 u117 u118 u119 u120 u121 u122 u123 u124 u125 u126 u127 u128 u129 u130 u131 u132 u133 u134 u135 u136 u137 u138 u139 u140 u141 u142 u143 u144 u145 u146 u147 u148 u149 u150 u151 u152 u153 u154 u155 u156 u157 u158 u159 u160 u161 u162 u163 u164 u165 u166 u167 u168 u169 u170 u171 u172 u173 u174 u175 u176 u177 u178 u179 u180 u181 u182 u183 u184 u185 u186 u187 u188 u189 u190 u191 u192 u193 u194 u195 u196 u197 u198 u199 u200 u201 u202 u203 u204 u205 u206 u207 u208 u209 u210 u211 u212 u213 u214 u215 u216 u217 u218 u219 u220 u221 u222 u223 u224 u225 : Value) (M qo pc : Nat) (pos : Int) (CB nc F : Nat) (tv : Value) (w : World) (Q : Exit → Act → World → Prop) (Sb Db nq nqc n : Nat) (hp0 : 0 < pc) (hpq : pc < nq) (hnq : nq ≤ 1000000) (hnn : n ≤ nq) (h0 : w.cell? ⟨M, qo, none⟩ = some (.slice (some ⟨Sb, 0, none⟩) nq nqc)) (h1 : w.cell? ⟨M, qo + 1, none⟩ = some (.slice (some ⟨Db, 0, none⟩) n nqc)) (j : Nat) (h2 : w.cell? ⟨Sb, pc, none⟩ = some (.int .u32 j)) (hj : j < n) (h3 : w.cell? ⟨Db, j * 2, none⟩ = some (.int .u32 pc)) (hgo : ∀ a, a.tmps.size = 226 → a.defers = [] → a.tmps.getD 14 undef = tv → Q .ret a w) : addTop1.wp Tryz.prog Q ⟨#[.pointer (some ⟨M, 0, none⟩), .pointer (some ⟨M, qo, none⟩), .int .u32 pc, .int .i64 pos, .slice (some ⟨CB, 0, none⟩) nc nc, .pointer (some ⟨F, 0, none⟩), tv, u7, u8, u9, u10, u11, u12, u13, u14, u15, u16, u17, u18, u19, u20, u21, u22, u23, u24, u25, u26, u27, u28, u29, u30, u31, u32, u33, u34, u35, u36, u37, u38, u39, u40, u41, u42, u43, u44, u45, u46, u47, u48, u49, u50, u51, u52, u53, u54, u55, u56, u57, u58, u59, u60, u61, u62, u63, u64, u65, u66, u67, u68, u69, u70, u71, u72, u73, u74, u75, u76, u77, u78, u79, u80, u81, u82, u83, u84, u85, u86, u87, u88, u89, u90, u91, u92, u93, u94, u95, u96, u97, u98, u99, u100, u101, u102, u103, u104, u105, u106, u107, u108, u109, u110, u111, u112, u113, u114, u115, u116, u117, u118, u119, u120, u121, u122, u123, u124, u125, u126, u127, u128, u129, u130, u131, u132, u133, u134, u135, u136, u137, u138, u139, u140, u141, u142, u143, u144, u145, u146, u147, u148, u149, u150, u151, u152, u153, u154, u155, u156, u157, u158, u159, u160, u161, u162, u163, u164, u165, u166, u167, u168, u169, u170, u171, u172, u173, u174, u175, u176, u177, u178, u179, u180, u181, u182, u183, u184, u185, u186, u187, u188, u189, u190, u191, u192, u193, u194, u195, u196, u197, u198, u199, u200, u201, u202, u203, u204, u205, u206, u207, u208, u209, u210, u211, u212, u213, u214, u215, u216, u217, u218, u219, u220, u221, u222, u223, u224, u225], []⟩ w := by
 conv => arg 2; whnf
 have hpq' : (pc : Int) < (nq : Int) := by omega
 have hpc0 : ¬ (pc : Int) = 0 := by omega
 have hj' : (j : Int) < (n : Int) := by omega
 have hnm : (n : Int) % 4294967296 = n := by omega
 go_wp2_with fail
 exact hgo _ rfl rfl rfl

set_option maxRecDepth 1000000 in
set_option maxHeartbeats 4000000 in
theorem add_out (u7 u8 u9 u10 u11 u12 u13 u14 u15 u16 u17 u18 u19 u20 u21 u22 u23 u24 u25 u26 u27 u28 u29 u30 u31 u32 u33 u34 u35 u36 u37 u38 u39 u40 u41 u42 u43 u44 u45 u46 u47 u48 u49 u50 u51 u52 u53 u54 u55 u56 u57 u58 u59 u60 u61 u62 u63 u64 u65 u66 u67 u68 u69 u70 u71 u72 u73 u74 u75 u76 u77 u78 u79 u80 u81 u82 u83 u84 u85 u86 u87 u88 u89 u90 u91 u92 u93 u94 u95 u96 u97 u98 u99 u100 u101 u102 u103 u104 u105 u106 u107 u108 u109 u110 u111 u112 u113 u114 u115 u116 u117 u118 u119 u120 u121 u122 u123 u124 u125 u126 u127 u128 u129 u130 u131 u132 u133 u134 u135 u136 u137 u138 u139 u140 u141 u142 u143 u144 u145 u146 u147 u148 u149 u150 u151 u152 u153 u154 u155 u156 u157 u158 u159 u160 u161 u162 u163 u164 u165 u166 u167 u168 u169 u170 u171 u172 u173 u174 u175 u176 u177 u178 u179 u180 u181 u182 u183 u184 u185 u186 u187 u188 u189 u190 u191 u192 u193 u194 u195 u196 u197 u198 u199 u200 u201 u202 u203 u204 u205 u206 u207 u208 u209 u210 u211 u212 u213 u214 u215 u216 u217 u218 u219 u220 u221 u222 u223 u224 u225 : Value) (M qo pc : Nat) (pos : Int) (CB nc F : Nat) (tv : Value) (w : World) (Q : Exit → Act → World → Prop) (Sb Db nq nqc n : Nat) (hp0 : 0 < pc) (hpq : pc < nq) (hnq : nq ≤ 1000000) (hnn : n ≤ nq) (h0 : w.cell? ⟨M, qo, none⟩ = some (.slice (some ⟨Sb, 0, none⟩) nq nqc)) (h1 : w.cell? ⟨M, qo + 1, none⟩ = some (.slice (some ⟨Db, 0, none⟩) n nqc)) (j : Nat) (h2 : w.cell? ⟨Sb, pc, none⟩ = some (.int .u32 j)) (hj : n ≤ j) (hgo : ∀ a, AF M qo pc pos CB nc F tv a → Ent addTail Q a w) : addTop1.wp Tryz.prog Q ⟨#[.pointer (some ⟨M, 0, none⟩), .pointer (some ⟨M, qo, none⟩), .int .u32 pc, .int .i64 pos, .slice (some ⟨CB, 0, none⟩) nc nc, .pointer (some ⟨F, 0, none⟩), tv, u7, u8, u9, u10, u11, u12, u13, u14, u15, u16, u17, u18, u19, u20, u21, u22, u23, u24, u25, u26, u27, u28, u29, u30, u31, u32, u33, u34, u35, u36, u37, u38, u39, u40, u41, u42, u43, u44, u45, u46, u47, u48, u49, u50, u51, u52, u53, u54, u55, u56, u57, u58, u59, u60, u61, u62, u63, u64, u65, u66, u67, u68, u69, u70, u71, u72, u73, u74, u75, u76, u77, u78, u79, u80, u81, u82, u83, u84, u85, u86, u87, u88, u89, u90, u91, u92, u93, u94, u95, u96, u97, u98, u99, u100, u101, u102, u103, u104, u105, u106, u107, u108, u109, u110, u111, u112, u113, u114, u115, u116, u117, u118, u119, u120, u121, u122, u123, u124, u125, u126, u127, u128, u129, u130, u131, u132, u133, u134, u135, u136, u137, u138, u139, u140, u141, u142, u143, u144, u145, u146, u147, u148, u149, u150, u151, u152, u153, u154, u155, u156, u157, u158, u159, u160, u161, u162, u163, u164, u165, u166, u167, u168, u169, u170, u171, u172, u173, u174, u175, u176, u177, u178, u179, u180, u181, u182, u183, u184, u185, u186, u187, u188, u189, u190, u191, u192, u193, u194, u195, u196, u197, u198, u199, u200, u201, u202, u203, u204, u205, u206, u207, u208, u209, u210, u211, u212, u213, u214, u215, u216, u217, u218, u219, u220, u221, u222, u223, u224, u225], []⟩ w := by
 conv => arg 2; whnf
 have hpq' : (pc : Int) < (nq : Int) := by omega
 have hpc0 : ¬ (pc : Int) = 0 := by omega
 have hj' : ¬ (j : Int) < (n : Int) := by omega
 have hnm : (n : Int) % 4294967296 = n := by omega
 have HG := Lib.hid hgo
 clear hgo
 go_upto_region 6 with (fail)
 exact HG.out _ (by constructor <;> rfl) _ (by assumption)

set_option maxRecDepth 1000000 in
set_option maxHeartbeats 4000000 in
theorem add_other (u7 u8 u9 u10 u11 u12 u13 u14 u15 u16 u17 u18 u19 u20 u21 u22 u23 u24 u25 u26 u27 u28 u29 u30 u31 u32 u33 u34 u35 u36 u37 u38 u39 u40 u41 u42 u43 u44 u45 u46 u47 u48 u49 u50 u51 u52 u53 u54 u55 u56 u57 u58 u59 u60 u61 u62 u63 u64 u65 u66 u67 u68 u69 u70 u71 u72 u73 u74 u75 u76 u77 u78 u79 u80 u81 u82 u83 u84 u85 u86 u87 u88 u89 u90 u91 u92 u93 u94 u95 u96 u97 u98 u99 u100 u101 u102 u103 u104 u105 u106 u107 u108 u109 u110 u111 u112 u113 u114 u115 u116 u117 u118 u119 u120 u121 u122 u123 u124 u125 u126 u127 u128 u129 u130 u131 u132 u133 u134 u135 u136 u137 u138 u139 u140 u141 u142 u143 u144 u145 u146 u147 u148 u149 u150 u151 u152 u153 u154 u155 u156 u157 u158 u159 u160 u161 u162 u163 u164 u165 u166 u167 u168 u169 u170 u171 u172 u173 u174 u175 u176 u177 u178 u179 u180 u181 u182 u183 u184 u185 u186 u187 u188 u189 u190 u191 u192 u193 u194 u195 u196 u197 u198 u199 u200 u201 u202 u203 u204 u205 u206 u207 u208 u209 u210 u211 u212 u213 u214 u215 u216 u217 u218 u219 u220 u221 u222 u223 u224 u225 : Value) (M qo pc : Nat) (pos : Int) (CB nc F : Nat) (tv : Value) (w : World) (Q : Exit → Act → World → Prop) (Sb Db nq nqc n : Nat) (hp0 : 0 < pc) (hpq : pc < nq) (hnq : nq ≤ 1000000) (hnn : n ≤ nq) (h0 : w.cell? ⟨M, qo, none⟩ = some (.slice (some ⟨Sb, 0, none⟩) nq nqc)) (h1 : w.cell? ⟨M, qo + 1, none⟩ = some (.slice (some ⟨Db, 0, none⟩) n nqc)) (j pc2 : Nat) (h2 : w.cell? ⟨Sb, pc, none⟩ = some (.int .u32 j)) (hj : j < n) (h3 : w.cell? ⟨Db, j * 2, none⟩ = some (.int .u32 pc2)) (hne : pc2 ≠ pc) (hgo : ∀ a, AF M qo pc pos CB nc F tv a → Ent addTail Q a w) : addTop1.wp Tryz.prog Q ⟨#[.pointer (some ⟨M, 0, none⟩), .pointer (some ⟨M, qo, none⟩), .int .u32 pc, .int .i64 pos, .slice (some ⟨CB, 0, none⟩) nc nc, .pointer (some ⟨F, 0, none⟩), tv, u7, u8, u9, u10, u11, u12, u13, u14, u15, u16, u17, u18, u19, u20, u21, u22, u23, u24, u25, u26, u27, u28, u29, u30, u31, u32, u33, u34, u35, u36, u37, u38, u39, u40, u41, u42, u43, u44, u45, u46, u47, u48, u49, u50, u51, u52, u53, u54, u55, u56, u57, u58, u59, u60, u61, u62, u63, u64, u65, u66, u67, u68, u69, u70, u71, u72, u73, u74, u75, u76, u77, u78, u79, u80, u81, u82, u83, u84, u85, u86, u87, u88, u89, u90, u91, u92, u93, u94, u95, u96, u97, u98, u99, u100, u101, u102, u103, u104, u105, u106, u107, u108, u109, u110, u111, u112, u113, u114, u115, u116, u117, u118, u119, u120, u121, u122, u123, u124, u125, u126, u127, u128, u129, u130, u131, u132, u133, u134, u135, u136, u137, u138, u139, u140, u141, u142, u143, u144, u145, u146, u147, u148, u149, u150, u151, u152, u153, u154, u155, u156, u157, u158, u159, u160, u161, u162, u163, u164, u165, u166, u167, u168, u169, u170, u171, u172, u173, u174, u175, u176, u177, u178, u179, u180, u181, u182, u183, u184, u185, u186, u187, u188, u189, u190, u191, u192, u193, u194, u195, u196, u197, u198, u199, u200, u201, u202, u203, u204, u205, u206, u207, u208, u209, u210, u211, u212, u213, u214, u215, u216, u217, u218, u219, u220, u221, u222, u223, u224, u225], []⟩ w := by
 conv => arg 2; whnf
 have hpq' : (pc : Int) < (nq : Int) := by omega
 have hpc0 : ¬ (pc : Int) = 0 := by omega
 have hj' : (j : Int) < (n : Int) := by omega
 have hnm : (n : Int) % 4294967296 = n := by omega
 have hne' : ¬ (pc2 : Int) = (pc : Int) := by omega
 have HG := Lib.hid hgo
 clear hgo
 go_upto_region 6 with (fail)
 exact HG.out _ (by constructor <;> rfl) _ (by assumption)

set_option maxRecDepth 1000000 in
set_option maxHeartbeats 4000000 in
theorem add_entry (u7 u8 u9 u10 u11 u12 u13 u14 u15 u16 u17 u18 u19 u20 u21 u22 u23 u24 u25 u26 u27 u28 u29 u30 u31 u32 u33 u34 u35 u36 u37 u38 u39 u40 u41 u42 u43 u44 u45 u46 u47 u48 u49 u50 u51 u52 u53 u54 u55 u56 u57 u58 u59 u60 u61 u62 u63 u64 u65 u66 u67 u68 u69 u70 u71 u72 u73 u74 u75 u76 u77 u78 u79 u80 u81 u82 u83 u84 u85 u86 u87 u88 u89 u90 u91 u92 u93 u94 u95 u96 u97 u98 u99 u100 u101 u102 u103 u104 u105 u106 u107 u108 u109 u110 u111 u112 u113 u114 u115 u116 u117 u118 u119 u120 u121 u122 u123 u124 u125 u126 u127 u128 u129 u130 u131 u132 u133 u134 u135 u136 u137 u138 u139 u140 u141 u142 u143 u144 u145 u146 u147 u148 u149 u150 u151 u152 u153 u154 u155 u156 u157 u158 u159 u160 u161 u162 u163 u164 u165 u166 u167 u168 u169 u170 u171 u172 u173 u174 u175 u176 u177 u178 u179 u180 u181 u182 u183 u184 u185 u186 u187 u188 u189 u190 u191 u192 u193 u194 u195 u196 u197 u198 u199 u200 u201 u202 u203 u204 u205 u206 u207 u208 u209 u210 u211 u212 u213 u214 u215 u216 u217 u218 u219 u220 u221 u222 u223 u224 u225 : Value) (M qo pc : Nat) (pos : Int) (CB nc F : Nat) (tv : Value) (w : World) (Q : Exit → Act → World → Prop) (Sb Db nq nqc n : Nat) (hp0 : 0 < pc) (hpq : pc < nq) (hnq : nq ≤ 1000000) (hnn : n ≤ nq) (h0 : w.cell? ⟨M, qo, none⟩ = some (.slice (some ⟨Sb, 0, none⟩) nq nqc)) (h1 : w.cell? ⟨M, qo + 1, none⟩ = some (.slice (some ⟨Db, 0, none⟩) n nqc)) (hnc : n < nqc) (hncb : nqc ≤ 1000000) (x2 x4 x5 : Value) (h2 : w.cell? ⟨Sb, pc, none⟩ = some x2) (h4 : w.cell? ⟨Db, n * 2, none⟩ = some x4) (h5 : w.cell? ⟨Db, n * 2 + 1, none⟩ = some x5)
  (f1 : w.frozen? ⟨M, qo + 1, none⟩ = false) (f2 : w.frozen? ⟨Db, n * 2, none⟩ = false) (f3 : w.frozen? ⟨Db, n * 2 + 1, none⟩ = false) (f4 : w.frozen? ⟨Sb, pc, none⟩ = false) (hM : M < w.heap.size) (hD : Db < w.heap.size) (hS : Sb < w.heap.size)
  (d1 : M ≠ Db) (d2 : M ≠ Sb) (d3 : Db ≠ Sb)
  (hgo : ∀ a w1, AG M qo pc pos CB nc F tv Db n a → w1 = (((w.setCell ⟨M, qo + 1, none⟩ (.slice (some ⟨Db, 0, none⟩) (n + 1) nqc)).setCell ⟨Db, n * 2 + 1, none⟩ (.pointer none)).setCell ⟨Db, n * 2, none⟩ (.int .u32 pc)).setCell ⟨Sb, pc, none⟩ (.int .u32 n) → Ent addSw Q a w1) : Ent addTail Q ⟨#[.pointer (some ⟨M, 0, none⟩), .pointer (some ⟨M, qo, none⟩), .int .u32 pc, .int .i64 pos, .slice (some ⟨CB, 0, none⟩) nc nc, .pointer (some ⟨F, 0, none⟩), tv, u7, u8, u9, u10, u11, u12, u13, u14, u15, u16, u17, u18, u19, u20, u21, u22, u23, u24, u25, u26, u27, u28, u29, u30, u31, u32, u33, u34, u35, u36, u37, u38, u39, u40, u41, u42, u43, u44, u45, u46, u47, u48, u49, u50, u51, u52, u53, u54, u55, u56, u57, u58, u59, u60, u61, u62, u63, u64, u65, u66, u67, u68, u69, u70, u71, u72, u73, u74, u75, u76, u77, u78, u79, u80, u81, u82, u83, u84, u85, u86, u87, u88, u89, u90, u91, u92, u93, u94, u95, u96, u97, u98, u99, u100, u101, u102, u103, u104, u105, u106, u107, u108, u109, u110, u111, u112, u113, u114, u115, u116, u117, u118, u119, u120, u121, u122, u123, u124, u125, u126, u127, u128, u129, u130, u131, u132, u133, u134, u135, u136, u137, u138, u139, u140, u141, u142, u143, u144, u145, u146, u147, u148, u149, u150, u151, u152, u153, u154, u155, u156, u157, u158, u159, u160, u161, u162, u163, u164, u165, u166, u167, u168, u169, u170, u171, u172, u173, u174, u175, u176, u177, u178, u179, u180, u181, u182, u183, u184, u185, u186, u187, u188, u189, u190, u191, u192, u193, u194, u195, u196, u197, u198, u199, u200, u201, u202, u203, u204, u205, u206, u207, u208, u209, u210, u211, u212, u213, u214, u215, u216, u217, u218, u219, u220, u221, u222, u223, u224, u225], []⟩ w := by
 intro K hK
 conv => arg 2; whnf
 have hpq' : (pc : Int) < (nq : Int) := by omega
 have hpc0 : ¬ (pc : Int) = 0 := by omega
 have hnm : (n : Int) % 4294967296 = n := by omega
 have d1' : Db ≠ M := Ne.symm d1
 have d2' : Sb ≠ M := Ne.symm d2
 have d3' : Sb ≠ Db := Ne.symm d3
 have hn1 : (n : Int) < ((n : Int) + 1) := by omega
 have HG := Lib.hid hgo
 clear hgo
 go_wp2_with fail
 conv => arg 2; whnf
 go_upto_region 12 with (fail)
 exact HG.out _ _ (by constructor <;> rfl) rfl _ (by assumption)

set_option maxRecDepth 1000000 in
set_option maxHeartbeats 4000000 in
theorem add_nop (u7 u8 u9 u10 u11 u12 u13 u14 u15 u16 u18 u19 u20 u21 u22 u23 u24 u25 u26 u27 u28 u29 u30 u31 u32 u33 u34 u35 u36 u37 u38 u39 u40 u41 u42 u43 u44 u45 u46 u47 u48 u49 u50 u51 u52 u53 u54 u55 u56 u57 u58 u59 u60 u61 u62 u63 u64 u65 u66 u67 u68 u69 u70 u71 u72 u73 u74 u75 u76 u77 u78 u79 u80 u81 u82 u83 u84 u85 u86 u87 u88 u89 u90 u91 u92 u93 u94 u95 u96 u97 u98 u99 u100 u101 u102 u103 u104 u105 u106 u107 u108 u109 u110 u111 u112 u113 u114 u115 u116 u117 u118 u119 u120 u121 u122 u123 u124 u125 u126 u127 u128 u129 u130 u131 u132 u133 u134 u135 u136 u137 u138 u139 u140 u141 u142 u143 u144 u145 u146 u147 u148 u149 u150 u151 u152 u153 u154 u155 u156 u157 u158 u159 u160 u161 u162 u163 u164 u165 u166 u167 u168 u169 u170 u171 u172 u173 u174 u175 u176 u177 u178 u179 u180 u181 u182 u183 u184 u185 u186 u187 u188 u189 u190 u191 u192 u193 u194 u195 u196 u197 u198 u199 u200 u201 u202 u203 u204 u205 u206 u207 u208 u209 u210 u211 u212 u213 u214 u215 u216 u217 u218 u219 u220 u221 u222 u223 u224 u225 : Value) (M qo pc : Nat) (pos : Int) (CB nc F : Nat) (tv : Value) (w : World) (Q : Exit → Act → World → Prop) (N R PR I np : Nat) (pg : Nat → Inst) (hP : ProgAt w N R PR I np pg) (hp0 : 0 < pc) (hpc : pc < np) (hnp : np ≤ 1000) (hm1 : w.cell? ⟨M, 1, none⟩ = some (.pointer (some ⟨PR, 0, none⟩))) (Db n : Nat) (hop : (pg pc).op = 6) (hgo : ∀ a, AF M qo (pg pc).out pos CB nc F tv a → Q (.goto 0) a w) : Ent addSw Q ⟨#[.pointer (some ⟨M, 0, none⟩), .pointer (some ⟨M, qo, none⟩), .int .u32 pc, .int .i64 pos, .slice (some ⟨CB, 0, none⟩) nc nc, .pointer (some ⟨F, 0, none⟩), tv, u7, u8, u9, u10, u11, u12, u13, u14, u15, u16, .pointer (some ⟨Db, n * 2, none⟩), u18, u19, u20, u21, u22, u23, u24, u25, u26, u27, u28, u29, u30, u31, u32, u33, u34, u35, u36, u37, u38, u39, u40, u41, u42, u43, u44, u45, u46, u47, u48, u49, u50, u51, u52, u53, u54, u55, u56, u57, u58, u59, u60, u61, u62, u63, u64, u65, u66, u67, u68, u69, u70, u71, u72, u73, u74, u75, u76, u77, u78, u79, u80, u81, u82, u83, u84, u85, u86, u87, u88, u89, u90, u91, u92, u93, u94, u95, u96, u97, u98, u99, u100, u101, u102, u103, u104, u105, u106, u107, u108, u109, u110, u111, u112, u113, u114, u115, u116, u117, u118, u119, u120, u121, u122, u123, u124, u125, u126, u127, u128, u129, u130, u131, u132, u133, u134, u135, u136, u137, u138, u139, u140, u141, u142, u143, u144, u145, u146, u147, u148, u149, u150, u151, u152, u153, u154, u155, u156, u157, u158, u159, u160, u161, u162, u163, u164, u165, u166, u167, u168, u169, u170, u171, u172, u173, u174, u175, u176, u177, u178, u179, u180, u181, u182, u183, u184, u185, u186, u187, u188, u189, u190, u191, u192, u193, u194, u195, u196, u197, u198, u199, u200, u201, u202, u203, u204, u205, u206, u207, u208, u209, u210, u211, u212, u213, u214, u215, u216, u217, u218, u219, u220, u221, u222, u223, u224, u225], []⟩ w := by
 intro K hK
 conv => arg 2; whnf
 obtain ⟨ci, hp2⟩ := hP.insts
 have hopi := hP.op pc hp0 hpc
 have hout := hP.out pc hp0 hpc
 have harg := hP.arg pc hp0 hpc
 rw [hop] at hopi
 have hpcn : (pc : Int) < (np : Int) := by omega
 have HG := Lib.hid hgo
 clear hgo hP
 go_wp2_with fail
 conv => arg 2; whnf
 go_wp2_with fail
 refine wp_goto ?_
 show Q (.goto 0) _ _
 exact HG.out _ (by constructor <;> rfl)

set_option maxRecDepth 1000000 in
set_option maxHeartbeats 4000000 in
theorem add_alt (u7 u8 u9 u10 u11 u12 u13 u14 u15 u16 u18 u19 u20 u21 u22 u23 u24 u25 u26 u27 u28 u29 u30 u31 u32 u33 u34 u35 u36 u37 u38 u39 u40 u41 u42 u43 u44 u45 u46 u47 u48 u49 u50 u51 u52 u53 u54 u55 u56 u57 u58 u59 u60 u61 u62 u63 u64 u65 u66 u67 u68 u69 u70 u71 u72 u73 u74 u75 u76 u77 u78 u79 u80 u81 u82 u83 u84 u85 u86 u87 u88 u89 u90 u91 u92 u93 u94 u95 u96 u97 u98 u99 u100 u101 u102 u103 u104 u105 u106 u107 u108 u109 u110 u111 u112 u113 u114 u115 u116 u117 u118 u119 u120 u121 u122 u123 u124 u125 u126 u127 u128 u129 u130 u131 u132 u133 u134 u135 u136 u137 u138 u139 u140 u141 u142 u143 u144 u145 u146 u147 u148 u149 u150 u151 u152 u153 u154 u155 u156 u157 u158 u159 u160 u161 u162 u163 u164 u165 u166 u167 u168 u169 u170 u171 u172 u173 u174 u175 u176 u177 u178 u179 u180 u181 u182 u183 u184 u185 u186 u187 u188 u189 u190 u191 u192 u193 u194 u195 u196 u197 u198 u199 u200 u201 u202 u203 u204 u205 u206 u207 u208 u209 u210 u211 u212 u213 u214 u215 u216 u217 u218 u219 u220 u221 u222 u223 u224 u225 : Value) (M qo pc : Nat) (pos : Int) (CB nc F : Nat) (tv : Value) (w : World) (Q : Exit → Act → World → Prop) (N R PR I np : Nat) (pg : Nat → Inst) (hP : ProgAt w N R PR I np pg) (hp0 : 0 < pc) (hpc : pc < np) (hnp : np ≤ 1000) (hm1 : w.cell? ⟨M, 1, none⟩ = some (.pointer (some ⟨PR, 0, none⟩))) (Db n : Nat) (hop : (pg pc).op = 0) (G : Value → World → Prop)
  (hcall : Calls Tryz.prog 108 #[.pointer (some ⟨M, 0, none⟩), .pointer (some ⟨M, qo, none⟩), .int .u32 (pg pc).out, .int .i64 pos, .slice (some ⟨CB, 0, none⟩) nc nc, .pointer (some ⟨F, 0, none⟩), tv] w fun e w' => ∃ t, e = .returned t ∧ G t w')
  (hG : ∀ t w', G t w' → ProgAt w' N R PR I np pg) (hgo : ∀ a t w', G t w' → AF M qo (pg pc).arg pos CB nc F t a → Q (.goto 0) a w') : Ent addSw Q ⟨#[.pointer (some ⟨M, 0, none⟩), .pointer (some ⟨M, qo, none⟩), .int .u32 pc, .int .i64 pos, .slice (some ⟨CB, 0, none⟩) nc nc, .pointer (some ⟨F, 0, none⟩), tv, u7, u8, u9, u10, u11, u12, u13, u14, u15, u16, .pointer (some ⟨Db, n * 2, none⟩), u18, u19, u20, u21, u22, u23, u24, u25, u26, u27, u28, u29, u30, u31, u32, u33, u34, u35, u36, u37, u38, u39, u40, u41, u42, u43, u44, u45, u46, u47, u48, u49, u50, u51, u52, u53, u54, u55, u56, u57, u58, u59, u60, u61, u62, u63, u64, u65, u66, u67, u68, u69, u70, u71, u72, u73, u74, u75, u76, u77, u78, u79, u80, u81, u82, u83, u84, u85, u86, u87, u88, u89, u90, u91, u92, u93, u94, u95, u96, u97, u98, u99, u100, u101, u102, u103, u104, u105, u106, u107, u108, u109, u110, u111, u112, u113, u114, u115, u116, u117, u118, u119, u120, u121, u122, u123, u124, u125, u126, u127, u128, u129, u130, u131, u132, u133, u134, u135, u136, u137, u138, u139, u140, u141, u142, u143, u144, u145, u146, u147, u148, u149, u150, u151, u152, u153, u154, u155, u156, u157, u158, u159, u160, u161, u162, u163, u164, u165, u166, u167, u168, u169, u170, u171, u172, u173, u174, u175, u176, u177, u178, u179, u180, u181, u182, u183, u184, u185, u186, u187, u188, u189, u190, u191, u192, u193, u194, u195, u196, u197, u198, u199, u200, u201, u202, u203, u204, u205, u206, u207, u208, u209, u210, u211, u212, u213, u214, u215, u216, u217, u218, u219, u220, u221, u222, u223, u224, u225], []⟩ w := by
 intro K hK
 conv => arg 2; whnf
 obtain ⟨ci, hp2⟩ := hP.insts
 have hopi := hP.op pc hp0 hpc
 have hout := hP.out pc hp0 hpc
 have harg := hP.arg pc hp0 hpc
 rw [hop] at hopi
 have hpcn : (pc : Int) < (np : Int) := by omega
 have HG := Lib.hid hgo
 have HK := Lib.hid hG
 clear hgo hP hG
 go_wp2_with fail
 conv => arg 2; whnf
 go_wp2_with (first | (go_at_call 108; (with_reducible refine hcall.mono ?_); rintro e w' ⟨t', rfl, hg⟩; have harg' := (HK.out _ _ hg).arg pc hp0 hpc; have HT := Lib.hid hg; clear hg))
 refine wp_goto ?_
 show Q (.goto 0) _ _
 exact HG.out _ _ _ HT.out (by constructor <;> rfl)

set_option maxRecDepth 1000000 in
set_option maxHeartbeats 4000000 in
theorem add_empty4t (u7 u8 u9 u10 u11 u12 u13 u14 u15 u16 u18 u19 u20 u21 u22 u23 u24 u25 u26 u27 u28 u29 u30 u31 u32 u33 u34 u35 u36 u37 u38 u39 u40 u41 u42 u43 u44 u45 u46 u47 u48 u49 u50 u51 u52 u53 u54 u55 u56 u57 u58 u59 u60 u61 u62 u63 u64 u65 u66 u67 u68 u69 u70 u71 u72 u73 u74 u75 u76 u77 u78 u79 u80 u81 u82 u83 u84 u85 u86 u87 u88 u89 u90 u91 u92 u93 u94 u95 u96 u97 u98 u99 u100 u101 u102 u103 u104 u105 u106 u107 u108 u109 u110 u111 u112 u113 u114 u115 u116 u117 u118 u119 u120 u121 u122 u123 u124 u125 u126 u127 u128 u129 u130 u131 u132 u133 u134 u135 u136 u137 u138 u139 u140 u141 u142 u143 u144 u145 u146 u147 u148 u149 u150 u151 u152 u153 u154 u155 u156 u157 u158 u159 u160 u161 u162 u163 u164 u165 u166 u167 u168 u169 u170 u171 u172 u173 u174 u175 u176 u177 u178 u179 u180 u181 u182 u183 u184 u185 u186 u187 u188 u189 u190 u191 u192 u193 u194 u195 u196 u197 u198 u199 u200 u201 u202 u203 u204 u205 u206 u207 u208 u209 u210 u211 u212 u213 u214 u215 u216 u217 u218 u219 u220 u221 u222 u223 u224 u225 : Value) (M qo pc : Nat) (pos : Int) (CB nc F : Nat) (tv : Value) (w : World) (Q : Exit → Act → World → Prop) (N R PR I np : Nat) (pg : Nat → Inst) (hP : ProgAt w N R PR I np pg) (hp0 : 0 < pc) (hpc : pc < np) (hnp : np ≤ 1000) (hm1 : w.cell? ⟨M, 1, none⟩ = some (.pointer (some ⟨PR, 0, none⟩))) (Db n : Nat) (hop : (pg pc).op = 3) (har : (pg pc).arg = 4) (fl : Int) (hF : w.cell? ⟨F, 0, none⟩ = some (.int .u64 fl)) (hFl : F < w.heap.size)
  (hmt2 : ∀ w, Calls Tryz.prog 121 #[.int .u64 fl, .int .u8 4] w fun e w' => e = .returned (.bool true) ∧ w' = w) (hgo : ∀ a, AF M qo (pg pc).out pos CB nc F tv a → ∀ y : Ext w, Q (.goto 0) a y.now) : Ent addSw Q ⟨#[.pointer (some ⟨M, 0, none⟩), .pointer (some ⟨M, qo, none⟩), .int .u32 pc, .int .i64 pos, .slice (some ⟨CB, 0, none⟩) nc nc, .pointer (some ⟨F, 0, none⟩), tv, u7, u8, u9, u10, u11, u12, u13, u14, u15, u16, .pointer (some ⟨Db, n * 2, none⟩), u18, u19, u20, u21, u22, u23, u24, u25, u26, u27, u28, u29, u30, u31, u32, u33, u34, u35, u36, u37, u38, u39, u40, u41, u42, u43, u44, u45, u46, u47, u48, u49, u50, u51, u52, u53, u54, u55, u56, u57, u58, u59, u60, u61, u62, u63, u64, u65, u66, u67, u68, u69, u70, u71, u72, u73, u74, u75, u76, u77, u78, u79, u80, u81, u82, u83, u84, u85, u86, u87, u88, u89, u90, u91, u92, u93, u94, u95, u96, u97, u98, u99, u100, u101, u102, u103, u104, u105, u106, u107, u108, u109, u110, u111, u112, u113, u114, u115, u116, u117, u118, u119, u120, u121, u122, u123, u124, u125, u126, u127, u128, u129, u130, u131, u132, u133, u134, u135, u136, u137, u138, u139, u140, u141, u142, u143, u144, u145, u146, u147, u148, u149, u150, u151, u152, u153, u154, u155, u156, u157, u158, u159, u160, u161, u162, u163, u164, u165, u166, u167, u168, u169, u170, u171, u172, u173, u174, u175, u176, u177, u178, u179, u180, u181, u182, u183, u184, u185, u186, u187, u188, u189, u190, u191, u192, u193, u194, u195, u196, u197, u198, u199, u200, u201, u202, u203, u204, u205, u206, u207, u208, u209, u210, u211, u212, u213, u214, u215, u216, u217, u218, u219, u220, u221, u222, u223, u224, u225], []⟩ w := by
 intro K hK
 conv => arg 2; whnf
 obtain ⟨ci, hp2⟩ := hP.insts
 have hopi := hP.op pc hp0 hpc
 have hout := hP.out pc hp0 hpc
 have harg := hP.arg pc hp0 hpc
 rw [hop] at hopi
 have hpcn : (pc : Int) < (np : Int) := by omega
 rw [har] at harg
 have hIl := hP.lt.2.2
 have hle := hP.le
 have hIl' : I < w.heap.size := by omega
 have HG := Lib.hid hgo
 clear hgo hP
 have hmx : ∀ x : Ext w, Calls Tryz.prog 121 #[.int .u64 fl, .int .u8 (IntKind.u8.wrap 4)] x.now fun e w' => e = .returned (.bool true) ∧ ∃ y : Ext x.now, w' = y.now := fun x => by
  rw [show IntKind.u8.wrap 4 = 4 from rfl]
  exact (hmt2 x.now).mono (by rintro e w' ⟨h1, rfl⟩; exact ⟨h1, Ext.refl _, rfl⟩)
 go_wp2_with fail
 conv => arg 2; whnf
 go_wp2_with fail
 refine wp_region_ext rfl (by kernel_rfl) ?_
 repeat (quiet_step (first | (go_at_call 121; with_reducible exact calls_ext (hmx _))))
 refine wpQuiet_nil ?_
 rintro w' ⟨y, rfl⟩
 go_wp2_with fail
 refine wp_goto ?_
 show Q (.goto 0) _ _
 exact HG.out _ (by constructor <;> rfl) _

set_option maxRecDepth 1000000 in
set_option maxHeartbeats 4000000 in
theorem add_empty4f (u7 u8 u9 u10 u11 u12 u13 u14 u15 u16 u18 u19 u20 u21 u22 u23 u24 u25 u26 u27 u28 u29 u30 u31 u32 u33 u34 u35 u36 u37 u38 u39 u40 u41 u42 u43 u44 u45 u46 u47 u48 u49 u50 u51 u52 u53 u54 u55 u56 u57 u58 u59 u60 u61 u62 u63 u64 u65 u66 u67 u68 u69 u70 u71 u72 u73 u74 u75 u76 u77 u78 u79 u80 u81 u82 u83 u84 u85 u86 u87 u88 u89 u90 u91 u92 u93 u94 u95 u96 u97 u98 u99 u100 u101 u102 u103 u104 u105 u106 u107 u108 u109 u110 u111 u112 u113 u114 u115 u116 u117 u118 u119 u120 u121 u122 u123 u124 u125 u126 u127 u128 u129 u130 u131 u132 u133 u134 u135 u136 u137 u138 u139 u140 u141 u142 u143 u144 u145 u146 u147 u148 u149 u150 u151 u152 u153 u154 u155 u156 u157 u158 u159 u160 u161 u162 u163 u164 u165 u166 u167 u168 u169 u170 u171 u172 u173 u174 u175 u176 u177 u178 u179 u180 u181 u182 u183 u184 u185 u186 u187 u188 u189 u190 u191 u192 u193 u194 u195 u196 u197 u198 u199 u200 u201 u202 u203 u204 u205 u206 u207 u208 u209 u210 u211 u212 u213 u214 u215 u216 u217 u218 u219 u220 u221 u222 u223 u224 u225 : Value) (M qo pc : Nat) (pos : Int) (CB nc F : Nat) (tv : Value) (w : World) (Q : Exit → Act → World → Prop) (N R PR I np : Nat) (pg : Nat → Inst) (hP : ProgAt w N R PR I np pg) (hp0 : 0 < pc) (hpc : pc < np) (hnp : np ≤ 1000) (hm1 : w.cell? ⟨M, 1, none⟩ = some (.pointer (some ⟨PR, 0, none⟩))) (Db n : Nat) (hop : (pg pc).op = 3) (har : (pg pc).arg = 4) (fl : Int) (hF : w.cell? ⟨F, 0, none⟩ = some (.int .u64 fl)) (hFl : F < w.heap.size)
  (hmt2 : ∀ w, Calls Tryz.prog 121 #[.int .u64 fl, .int .u8 4] w fun e w' => e = .returned (.bool false) ∧ w' = w) (hgo : ∀ a, a.tmps.size = 226 → a.defers = [] → a.tmps.getD 14 undef = tv → ∀ y : Ext w, Q .ret a y.now) : Ent addSw Q ⟨#[.pointer (some ⟨M, 0, none⟩), .pointer (some ⟨M, qo, none⟩), .int .u32 pc, .int .i64 pos, .slice (some ⟨CB, 0, none⟩) nc nc, .pointer (some ⟨F, 0, none⟩), tv, u7, u8, u9, u10, u11, u12, u13, u14, u15, u16, .pointer (some ⟨Db, n * 2, none⟩), u18, u19, u20, u21, u22, u23, u24, u25, u26, u27, u28, u29, u30, u31, u32, u33, u34, u35, u36, u37, u38, u39, u40, u41, u42, u43, u44, u45, u46, u47, u48, u49, u50, u51, u52, u53, u54, u55, u56, u57, u58, u59, u60, u61, u62, u63, u64, u65, u66, u67, u68, u69, u70, u71, u72, u73, u74, u75, u76, u77, u78, u79, u80, u81, u82, u83, u84, u85, u86, u87, u88, u89, u90, u91, u92, u93, u94, u95, u96, u97, u98, u99, u100, u101, u102, u103, u104, u105, u106, u107, u108, u109, u110, u111, u112, u113, u114, u115, u116, u117, u118, u119, u120, u121, u122, u123, u124, u125, u126, u127, u128, u129, u130, u131, u132, u133, u134, u135, u136, u137, u138, u139, u140, u141, u142, u143, u144, u145, u146, u147, u148, u149, u150, u151, u152, u153, u154, u155, u156, u157, u158, u159, u160, u161, u162, u163, u164, u165, u166, u167, u168, u169, u170, u171, u172, u173, u174, u175, u176, u177, u178, u179, u180, u181, u182, u183, u184, u185, u186, u187, u188, u189, u190, u191, u192, u193, u194, u195, u196, u197, u198, u199, u200, u201, u202, u203, u204, u205, u206, u207, u208, u209, u210, u211, u212, u213, u214, u215, u216, u217, u218, u219, u220, u221, u222, u223, u224, u225], []⟩ w := by
 intro K hK
 conv => arg 2; whnf
 obtain ⟨ci, hp2⟩ := hP.insts
 have hopi := hP.op pc hp0 hpc
 have hout := hP.out pc hp0 hpc
 have harg := hP.arg pc hp0 hpc
 rw [hop] at hopi
 have hpcn : (pc : Int) < (np : Int) := by omega
 rw [har] at harg
 have hIl := hP.lt.2.2
 have hle := hP.le
 have hIl' : I < w.heap.size := by omega
 have HG := Lib.hid hgo
 clear hgo hP
 have hmx : ∀ x : Ext w, Calls Tryz.prog 121 #[.int .u64 fl, .int .u8 (IntKind.u8.wrap 4)] x.now fun e w' => e = .returned (.bool false) ∧ ∃ y : Ext x.now, w' = y.now := fun x => by
  rw [show IntKind.u8.wrap 4 = 4 from rfl]
  exact (hmt2 x.now).mono (by rintro e w' ⟨h1, rfl⟩; exact ⟨h1, Ext.refl _, rfl⟩)
 go_wp2_with fail
 conv => arg 2; whnf
 go_wp2_with fail
 refine wp_region_ext rfl (by kernel_rfl) ?_
 repeat (quiet_step (first | (go_at_call 121; with_reducible exact calls_ext (hmx _))))
 refine wpQuiet_nil ?_
 rintro w' ⟨y, rfl⟩
 go_wp2_with fail
 exact HG.out _ rfl rfl rfl _

set_option maxRecDepth 1000000 in
set_option maxHeartbeats 4000000 in
theorem add_empty8t (u7 u8 u9 u10 u11 u12 u13 u14 u15 u16 u18 u19 u20 u21 u22 u23 u24 u25 u26 u27 u28 u29 u30 u31 u32 u33 u34 u35 u36 u37 u38 u39 u40 u41 u42 u43 u44 u45 u46 u47 u48 u49 u50 u51 u52 u53 u54 u55 u56 u57 u58 u59 u60 u61 u62 u63 u64 u65 u66 u67 u68 u69 u70 u71 u72 u73 u74 u75 u76 u77 u78 u79 u80 u81 u82 u83 u84 u85 u86 u87 u88 u89 u90 u91 u92 u93 u94 u95 u96 u97 u98 u99 u100 u101 u102 u103 u104 u105 u106 u107 u108 u109 u110 u111 u112 u113 u114 u115 u116 u117 u118 u119 u120 u121 u122 u123 u124 u125 u126 u127 u128 u129 u130 u131 u132 u133 u134 u135 u136 u137 u138 u139 u140 u141 u142 u143 u144 u145 u146 u147 u148 u149 u150 u151 u152 u153 u154 u155 u156 u157 u158 u159 u160 u161 u162 u163 u164 u165 u166 u167 u168 u169 u170 u171 u172 u173 u174 u175 u176 u177 u178 u179 u180 u181 u182 u183 u184 u185 u186 u187 u188 u189 u190 u191 u192 u193 u194 u195 u196 u197 u198 u199 u200 u201 u202 u203 u204 u205 u206 u207 u208 u209 u210 u211 u212 u213 u214 u215 u216 u217 u218 u219 u220 u221 u222 u223 u224 u225 : Value) (M qo pc : Nat) (pos : Int) (CB nc F : Nat) (tv : Value) (w : World) (Q : Exit → Act → World → Prop) (N R PR I np : Nat) (pg : Nat → Inst) (hP : ProgAt w N R PR I np pg) (hp0 : 0 < pc) (hpc : pc < np) (hnp : np ≤ 1000) (hm1 : w.cell? ⟨M, 1, none⟩ = some (.pointer (some ⟨PR, 0, none⟩))) (Db n : Nat) (hop : (pg pc).op = 3) (har : (pg pc).arg = 8) (fl : Int) (hF : w.cell? ⟨F, 0, none⟩ = some (.int .u64 fl)) (hFl : F < w.heap.size)
  (hmt2 : ∀ w, Calls Tryz.prog 121 #[.int .u64 fl, .int .u8 8] w fun e w' => e = .returned (.bool true) ∧ w' = w) (hgo : ∀ a, AF M qo (pg pc).out pos CB nc F tv a → ∀ y : Ext w, Q (.goto 0) a y.now) : Ent addSw Q ⟨#[.pointer (some ⟨M, 0, none⟩), .pointer (some ⟨M, qo, none⟩), .int .u32 pc, .int .i64 pos, .slice (some ⟨CB, 0, none⟩) nc nc, .pointer (some ⟨F, 0, none⟩), tv, u7, u8, u9, u10, u11, u12, u13, u14, u15, u16, .pointer (some ⟨Db, n * 2, none⟩), u18, u19, u20, u21, u22, u23, u24, u25, u26, u27, u28, u29, u30, u31, u32, u33, u34, u35, u36, u37, u38, u39, u40, u41, u42, u43, u44, u45, u46, u47, u48, u49, u50, u51, u52, u53, u54, u55, u56, u57, u58, u59, u60, u61, u62, u63, u64, u65, u66, u67, u68, u69, u70, u71, u72, u73, u74, u75, u76, u77, u78, u79, u80, u81, u82, u83, u84, u85, u86, u87, u88, u89, u90, u91, u92, u93, u94, u95, u96, u97, u98, u99, u100, u101, u102, u103, u104, u105, u106, u107, u108, u109, u110, u111, u112, u113, u114, u115, u116, u117, u118, u119, u120, u121, u122, u123, u124, u125, u126, u127, u128, u129, u130, u131, u132, u133, u134, u135, u136, u137, u138, u139, u140, u141, u142, u143, u144, u145, u146, u147, u148, u149, u150, u151, u152, u153, u154, u155, u156, u157, u158, u159, u160, u161, u162, u163, u164, u165, u166, u167, u168, u169, u170, u171, u172, u173, u174, u175, u176, u177, u178, u179, u180, u181, u182, u183, u184, u185, u186, u187, u188, u189, u190, u191, u192, u193, u194, u195, u196, u197, u198, u199, u200, u201, u202, u203, u204, u205, u206, u207, u208, u209, u210, u211, u212, u213, u214, u215, u216, u217, u218, u219, u220, u221, u222, u223, u224, u225], []⟩ w := by
 intro K hK
 conv => arg 2; whnf
 obtain ⟨ci, hp2⟩ := hP.insts
 have hopi := hP.op pc hp0 hpc
 have hout := hP.out pc hp0 hpc
 have harg := hP.arg pc hp0 hpc
 rw [hop] at hopi
 have hpcn : (pc : Int) < (np : Int) := by omega
 rw [har] at harg
 have hIl := hP.lt.2.2
 have hle := hP.le
 have hIl' : I < w.heap.size := by omega
 have HG := Lib.hid hgo
 clear hgo hP
 have hmx : ∀ x : Ext w, Calls Tryz.prog 121 #[.int .u64 fl, .int .u8 (IntKind.u8.wrap 8)] x.now fun e w' => e = .returned (.bool true) ∧ ∃ y : Ext x.now, w' = y.now := fun x => by
  rw [show IntKind.u8.wrap 8 = 8 from rfl]
  exact (hmt2 x.now).mono (by rintro e w' ⟨h1, rfl⟩; exact ⟨h1, Ext.refl _, rfl⟩)
 go_wp2_with fail
 conv => arg 2; whnf
 go_wp2_with fail
 refine wp_region_ext rfl (by kernel_rfl) ?_
 repeat (quiet_step (first | (go_at_call 121; with_reducible exact calls_ext (hmx _))))
 refine wpQuiet_nil ?_
 rintro w' ⟨y, rfl⟩
 go_wp2_with fail
 refine wp_goto ?_
 show Q (.goto 0) _ _
 exact HG.out _ (by constructor <;> rfl) _

set_option maxRecDepth 1000000 in
set_option maxHeartbeats 4000000 in
theorem add_empty8f (u7 u8 u9 u10 u11 u12 u13 u14 u15 u16 u18 u19 u20 u21 u22 u23 u24 u25 u26 u27 u28 u29 u30 u31 u32 u33 u34 u35 u36 u37 u38 u39 u40 u41 u42 u43 u44 u45 u46 u47 u48 u49 u50 u51 u52 u53 u54 u55 u56 u57 u58 u59 u60 u61 u62 u63 u64 u65 u66 u67 u68 u69 u70 u71 u72 u73 u74 u75 u76 u77 u78 u79 u80 u81 u82 u83 u84 u85 u86 u87 u88 u89 u90 u91 u92 u93 u94 u95 u96 u97 u98 u99 u100 u101 u102 u103 u104 u105 u106 u107 u108 u109 u110 u111 u112 u113 u114 u115 u116 u117 u118 u119 u120 u121 u122 u123 u124 u125 u126 u127 u128 u129 u130 u131 u132 u133 u134 u135 u136 u137 u138 u139 u140 u141 u142 u143 u144 u145 u146 u147 u148 u149 u150 u151 u152 u153 u154 u155 u156 u157 u158 u159 u160 u161 u162 u163 u164 u165 u166 u167 u168 u169 u170 u171 u172 u173 u174 u175 u176 u177 u178 u179 u180 u181 u182 u183 u184 u185 u186 u187 u188 u189 u190 u191 u192 u193 u194 u195 u196 u197 u198 u199 u200 u201 u202 u203 u204 u205 u206 u207 u208 u209 u210 u211 u212 u213 u214 u215 u216 u217 u218 u219 u220 u221 u222 u223 u224 u225 : Value) (M qo pc : Nat) (pos : Int) (CB nc F : Nat) (tv : Value) (w : World) (Q : Exit → Act → World → Prop) (N R PR I np : Nat) (pg : Nat → Inst) (hP : ProgAt w N R PR I np pg) (hp0 : 0 < pc) (hpc : pc < np) (hnp : np ≤ 1000) (hm1 : w.cell? ⟨M, 1, none⟩ = some (.pointer (some ⟨PR, 0, none⟩))) (Db n : Nat) (hop : (pg pc).op = 3) (har : (pg pc).arg = 8) (fl : Int) (hF : w.cell? ⟨F, 0, none⟩ = some (.int .u64 fl)) (hFl : F < w.heap.size)
  (hmt2 : ∀ w, Calls Tryz.prog 121 #[.int .u64 fl, .int .u8 8] w fun e w' => e = .returned (.bool false) ∧ w' = w) (hgo : ∀ a, a.tmps.size = 226 → a.defers = [] → a.tmps.getD 14 undef = tv → ∀ y : Ext w, Q .ret a y.now) : Ent addSw Q ⟨#[.pointer (some ⟨M, 0, none⟩), .pointer (some ⟨M, qo, none⟩), .int .u32 pc, .int .i64 pos, .slice (some ⟨CB, 0, none⟩) nc nc, .pointer (some ⟨F, 0, none⟩), tv, u7, u8, u9, u10, u11, u12, u13, u14, u15, u16, .pointer (some ⟨Db, n * 2, none⟩), u18, u19, u20, u21, u22, u23, u24, u25, u26, u27, u28, u29, u30, u31, u32, u33, u34, u35, u36, u37, u38, u39, u40, u41, u42, u43, u44, u45, u46, u47, u48, u49, u50, u51, u52, u53, u54, u55, u56, u57, u58, u59, u60, u61, u62, u63, u64, u65, u66, u67, u68, u69, u70, u71, u72, u73, u74, u75, u76, u77, u78, u79, u80, u81, u82, u83, u84, u85, u86, u87, u88, u89, u90, u91, u92, u93, u94, u95, u96, u97, u98, u99, u100, u101, u102, u103, u104, u105, u106, u107, u108, u109, u110, u111, u112, u113, u114, u115, u116, u117, u118, u119, u120, u121, u122, u123, u124, u125, u126, u127, u128, u129, u130, u131, u132, u133, u134, u135, u136, u137, u138, u139, u140, u141, u142, u143, u144, u145, u146, u147, u148, u149, u150, u151, u152, u153, u154, u155, u156, u157, u158, u159, u160, u161, u162, u163, u164, u165, u166, u167, u168, u169, u170, u171, u172, u173, u174, u175, u176, u177, u178, u179, u180, u181, u182, u183, u184, u185, u186, u187, u188, u189, u190, u191, u192, u193, u194, u195, u196, u197, u198, u199, u200, u201, u202, u203, u204, u205, u206, u207, u208, u209, u210, u211, u212, u213, u214, u215, u216, u217, u218, u219, u220, u221, u222, u223, u224, u225], []⟩ w := by
 intro K hK
 conv => arg 2; whnf
 obtain ⟨ci, hp2⟩ := hP.insts
 have hopi := hP.op pc hp0 hpc
 have hout := hP.out pc hp0 hpc
 have harg := hP.arg pc hp0 hpc
 rw [hop] at hopi
 have hpcn : (pc : Int) < (np : Int) := by omega
 rw [har] at harg
 have hIl := hP.lt.2.2
 have hle := hP.le
 have hIl' : I < w.heap.size := by omega
 have HG := Lib.hid hgo
 clear hgo hP
 have hmx : ∀ x : Ext w, Calls Tryz.prog 121 #[.int .u64 fl, .int .u8 (IntKind.u8.wrap 8)] x.now fun e w' => e = .returned (.bool false) ∧ ∃ y : Ext x.now, w' = y.now := fun x => by
  rw [show IntKind.u8.wrap 8 = 8 from rfl]
  exact (hmt2 x.now).mono (by rintro e w' ⟨h1, rfl⟩; exact ⟨h1, Ext.refl _, rfl⟩)
 go_wp2_with fail
 conv => arg 2; whnf
 go_wp2_with fail
 refine wp_region_ext rfl (by kernel_rfl) ?_
 repeat (quiet_step (first | (go_at_call 121; with_reducible exact calls_ext (hmx _))))
 refine wpQuiet_nil ?_
 rintro w' ⟨y, rfl⟩
 go_wp2_with fail
 exact HG.out _ rfl rfl rfl _

set_option maxRecDepth 1000000 in
set_option maxHeartbeats 4000000 in
theorem add_cap (u7 u8 u9 u10 u11 u12 u13 u14 u15 u16 u18 u19 u20 u21 u22 u23 u24 u25 u26 u27 u28 u29 u30 u31 u32 u33 u34 u35 u36 u37 u38 u39 u40 u41 u42 u43 u44 u45 u46 u47 u48 u49 u50 u51 u52 u53 u54 u55 u56 u57 u58 u59 u60 u61 u62 u63 u64 u65 u66 u67 u68 u69 u70 u71 u72 u73 u74 u75 u76 u77 u78 u79 u80 u81 u82 u83 u84 u85 u86 u87 u88 u89 u90 u91 u92 u93 u94 u95 u96 u97 u98 u99 u100 u101 u102 u103 u104 u105 u106 u107 u108 u109 u110 u111 u112 u113 u114 u115 u116 u117 u118 u119 u120 u121 u122 u123 u124 u125 u126 u127 u128 u129 u130 u131 u132 u133 u134 u135 u136 u137 u138 u139 u140 u141 u142 u143 u144 u145 u146 u147 u148 u149 u150 u151 u152 u153 u154 u155 u156 u157 u158 u159 u160 u161 u162 u163 u164 u165 u166 u167 u168 u169 u170 u171 u172 u173 u174 u175 u176 u177 u178 u179 u180 u181 u182 u183 u184 u185 u186 u187 u188 u189 u190 u191 u192 u193 u194 u195 u196 u197 u198 u199 u200 u201 u202 u203 u204 u205 u206 u207 u208 u209 u210 u211 u212 u213 u214 u215 u216 u217 u218 u219 u220 u221 u222 u223 u224 u225 : Value) (M qo pc : Nat) (pos : Int) (CB nc F : Nat) (tv : Value) (w : World) (Q : Exit → Act → World → Prop) (N R PR I np : Nat) (pg : Nat → Inst) (hP : ProgAt w N R PR I np pg) (hp0 : 0 < pc) (hpc : pc < np) (hnp : np ≤ 1000) (hm1 : w.cell? ⟨M, 1, none⟩ = some (.pointer (some ⟨PR, 0, none⟩))) (Db n : Nat) (hop : (pg pc).op = 2) (hK : (pg pc).arg < nc) (hnc : nc < 1000) (v : Int) (hv : w.cell? ⟨CB, (pg pc).arg, none⟩ = some (.int .i64 v)) (hvf : w.frozen? ⟨CB, (pg pc).arg, none⟩ = false) (hCl : CB < w.heap.size) (hIC : I ≠ CB)
  (G : World → Prop) (hcall : Calls Tryz.prog 108 #[.pointer (some ⟨M, 0, none⟩), .pointer (some ⟨M, qo, none⟩), .int .u32 (pg pc).out, .int .i64 pos, .slice (some ⟨CB, 0, none⟩) nc nc, .pointer (some ⟨F, 0, none⟩), .pointer none] (w.setCell ⟨CB, (pg pc).arg, none⟩ (.int .i64 pos)) fun e w' => ∃ t, e = .returned t ∧ G w')
  (hG : ∀ w', G w' → ProgAt w' N R PR I np pg ∧ (∃ v', w'.cell? ⟨CB, (pg pc).arg, none⟩ = some v') ∧ w'.frozen? ⟨CB, (pg pc).arg, none⟩ = false ∧ CB < w'.heap.size)
  (hgo : ∀ a w', G w' → a.tmps.size = 226 → a.defers = [] → a.tmps.getD 14 undef = tv → Q .ret a (w'.setCell ⟨CB, (pg pc).arg, none⟩ (.int .i64 v))) : Ent addSw Q ⟨#[.pointer (some ⟨M, 0, none⟩), .pointer (some ⟨M, qo, none⟩), .int .u32 pc, .int .i64 pos, .slice (some ⟨CB, 0, none⟩) nc nc, .pointer (some ⟨F, 0, none⟩), tv, u7, u8, u9, u10, u11, u12, u13, u14, u15, u16, .pointer (some ⟨Db, n * 2, none⟩), u18, u19, u20, u21, u22, u23, u24, u25, u26, u27, u28, u29, u30, u31, u32, u33, u34, u35, u36, u37, u38, u39, u40, u41, u42, u43, u44, u45, u46, u47, u48, u49, u50, u51, u52, u53, u54, u55, u56, u57, u58, u59, u60, u61, u62, u63, u64, u65, u66, u67, u68, u69, u70, u71, u72, u73, u74, u75, u76, u77, u78, u79, u80, u81, u82, u83, u84, u85, u86, u87, u88, u89, u90, u91, u92, u93, u94, u95, u96, u97, u98, u99, u100, u101, u102, u103, u104, u105, u106, u107, u108, u109, u110, u111, u112, u113, u114, u115, u116, u117, u118, u119, u120, u121, u122, u123, u124, u125, u126, u127, u128, u129, u130, u131, u132, u133, u134, u135, u136, u137, u138, u139, u140, u141, u142, u143, u144, u145, u146, u147, u148, u149, u150, u151, u152, u153, u154, u155, u156, u157, u158, u159, u160, u161, u162, u163, u164, u165, u166, u167, u168, u169, u170, u171, u172, u173, u174, u175, u176, u177, u178, u179, u180, u181, u182, u183, u184, u185, u186, u187, u188, u189, u190, u191, u192, u193, u194, u195, u196, u197, u198, u199, u200, u201, u202, u203, u204, u205, u206, u207, u208, u209, u210, u211, u212, u213, u214, u215, u216, u217, u218, u219, u220, u221, u222, u223, u224, u225], []⟩ w := by
 intro K hK
 conv => arg 2; whnf
 obtain ⟨ci, hp2⟩ := hP.insts
 have hopi := hP.op pc hp0 hpc
 have hout := hP.out pc hp0 hpc
 have harg := hP.arg pc hp0 hpc
 rw [hop] at hopi
 have hpcn : (pc : Int) < (np : Int) := by omega
 have hKi : ((pg pc).arg : Int) < (nc : Int) := by omega
 have hCI : CB ≠ I := Ne.symm hIC
 have HG := Lib.hid hgo
 have HK := Lib.hid hG
 clear hgo hP hG
 go_wp2_with fail
 conv => arg 2; whnf
 go_wp2_with (first | (go_at_call 108; (with_reducible refine hcall.mono ?_); rintro e w' ⟨t', rfl, hg⟩; have harg' := (HK.out _ hg).1.arg pc hp0 hpc; obtain ⟨v', hv'⟩ := (HK.out _ hg).2.1; have hvf' := (HK.out _ hg).2.2.1; have hCl' := (HK.out _ hg).2.2.2; have HT := Lib.hid hg; clear hg))
 exact HG.out _ _ HT.out rfl rfl rfl

end Go.Proofs.YtkbmigfkclnlaaaGreatDoor
namespace Go
theorem run_neq_ptr_same {P : Program} (w : World) {tp te : TypeId} {j : TypeInfo} (a : Addr) (hp : P.underlying tp = some (.pointer te)) (hte : P.info? te = some j) :
  (binOp .neq tp (.pointer (some a)) (.pointer (some a))).run P w = .ok (.bool false) w := by
 have h : ∀ d : Nat, (Op.equalIn (d + 1) tp (.pointer (some a)) (.pointer (some a))).run P w = .ok true w := fun d => by
  simp [Op.equalIn, run_underlying hp, sizeOf, typeInfo, hte, run_sameAddr_same]
 simp only [binOp]
 simp [Op.equal, Op.maxDepth, h 9999]

theorem run_neq_ptr_other {P : Program} (w : World) {tp te : TypeId} {j : TypeInfo} {a b : Addr} {ca cb : Array Value} {ta tb : TypeId} (hp : P.underlying tp = some (.pointer te)) (hte : P.info? te = some j) (hsz : j.size ≠ 0)
  (hne : a ≠ b) (ha : w.heap[a.block]? = some (.cells ca ta (0, 0))) (hb : w.heap[b.block]? = some (.cells cb tb (0, 0))) :
  (binOp .neq tp (.pointer (some a)) (.pointer (some b))).run P w = .ok (.bool true) w := by
 have h : ∀ d : Nat, (Op.equalIn (d + 1) tp (.pointer (some a)) (.pointer (some b))).run P w = .ok false w := fun d => by
  simp [Op.equalIn, run_underlying hp, sizeOf, typeInfo, hte, hsz, run_sameAddr_other w hne ha hb]
 simp only [binOp]
 simp [Op.equal, Op.maxDepth, h 9999]
end Go
namespace Go.Proofs.YtkbmigfkclnlaaaGreatDoor
open Go.RowKit Go.Rx
attribute [local go_sem] Ext.cell Ext.frozen Ext.lt Ext.lt_add Ext.cell2 Ext.frozen2

theorem neq_same (w : World) (a : Addr) : (binOp .neq 242 (.pointer (some a)) (.pointer (some a))).run Tryz.prog w = .ok (.bool false) w := by
 obtain ⟨i, hi, _⟩ := info_parts int_info
 exact run_neq_ptr_same w a Tryz.underlying242 hi

theorem neq_other (w : World) (a b : Nat) (l1 l2 : List Value) (t1 t2 : TypeId) (h1 : Blk w a l1 t1) (h2 : Blk w b l2 t2) (hne : a ≠ b) : (binOp .neq 242 (.pointer (some ⟨a, 0, none⟩)) (.pointer (some ⟨b, 0, none⟩))).run Tryz.prog w = .ok (.bool true) w := by
 obtain ⟨i, hi, _, hs, _⟩ := info_parts int_info
 exact run_neq_ptr_other w Tryz.underlying242 hi (by rw [hs]; decide) (by intro e; cases e; exact hne rfl) h1 h2

set_option maxRecDepth 1000000 in
set_option maxHeartbeats 4000000 in
theorem add_old4 (u7 u8 u9 u10 u11 u12 u13 u14 u15 u16 u18 u19 u20 u21 u22 u23 u24 u25 u26 u27 u28 u29 u30 u31 u32 u33 u34 u35 u36 u37 u38 u39 u40 u41 u42 u43 u44 u45 u46 u47 u48 u49 u50 u51 u52 u53 u54 u55 u56 u57 u58 u59 u60 u61 u62 u63 u64 u65 u66 u67 u68 u69 u70 u71 u72 u73 u74 u75 u76 u77 u78 u79 u80 u81 u82 u83 u84 u85 u86 u87 u88 u89 u90 u91 u92 u93 u94 u95 u96 u97 u98 u99 u100 u101 u102 u103 u104 u105 u106 u107 u108 u109 u110 u111 u112 u113 u114 u115 u116 u117 u118 u119 u120 u121 u122 u123 u124 u125 u126 u127 u128 u129 u130 u131 u132 u133 u134 u135 u136 u137 u138 u139 u140 u141 u142 u143 u144 u145 u146 u147 u148 u149 u150 u151 u152 u153 u154 u155 u156 u157 u158 u159 u160 u161 u162 u163 u164 u165 u166 u167 u168 u169 u170 u171 u172 u173 u174 u175 u176 u177 u178 u179 u180 u181 u182 u183 u184 u185 u186 u187 u188 u189 u190 u191 u192 u193 u194 u195 u196 u197 u198 u199 u200 u201 u202 u203 u204 u205 u206 u207 u208 u209 u210 u211 u212 u213 u214 u215 u216 u217 u218 u219 u220 u221 u222 u223 u224 u225 : Value) (M qo pc : Nat) (pos : Int) (CB nc F : Nat) (T : Nat) (w : World) (Q : Exit → Act → World → Prop) (N R PR I np : Nat) (pg : Nat → Inst) (hP : ProgAt w N R PR I np pg) (hp0 : 0 < pc) (hpc : pc < np) (hnp : np ≤ 1000) (hm1 : w.cell? ⟨M, 1, none⟩ = some (.pointer (some ⟨PR, 0, none⟩))) (Db n : Nat) (hop : (pg pc).op = 4) (hnc : 0 < nc) (hnc2 : nc < 1000) (v0 : Value) (hT0 : w.cell? ⟨T, 0, none⟩ = some v0) (hT1 : w.cell? ⟨T, 1, none⟩ = some (.slice (some ⟨CB, 0, none⟩) nc nc)) (hTf : w.frozen? ⟨T, 0, none⟩ = false) (hTl : T < w.heap.size)
  (v1 : Value) (hD : w.cell? ⟨Db, n * 2 + 1, none⟩ = some v1) (hDf : w.frozen? ⟨Db, n * 2 + 1, none⟩ = false) (hDl : Db < w.heap.size) (hTD : T ≠ Db)
  (hgo : ∀ a, a.tmps.size = 226 → a.defers = [] → a.tmps.getD 14 undef = .pointer none → ∀ w2, w2 = (w.setCell ⟨T, 0, none⟩ (.pointer (some ⟨I, pc * 4, none⟩))) → ∀ y : Ext w2, Q .ret a (y.now.setCell ⟨Db, n * 2 + 1, none⟩ (.pointer (some ⟨T, 0, none⟩)))) : Ent addSw Q ⟨#[.pointer (some ⟨M, 0, none⟩), .pointer (some ⟨M, qo, none⟩), .int .u32 pc, .int .i64 pos, .slice (some ⟨CB, 0, none⟩) nc nc, .pointer (some ⟨F, 0, none⟩), .pointer (some ⟨T, 0, none⟩), u7, u8, u9, u10, u11, u12, u13, u14, u15, u16, .pointer (some ⟨Db, n * 2, none⟩), u18, u19, u20, u21, u22, u23, u24, u25, u26, u27, u28, u29, u30, u31, u32, u33, u34, u35, u36, u37, u38, u39, u40, u41, u42, u43, u44, u45, u46, u47, u48, u49, u50, u51, u52, u53, u54, u55, u56, u57, u58, u59, u60, u61, u62, u63, u64, u65, u66, u67, u68, u69, u70, u71, u72, u73, u74, u75, u76, u77, u78, u79, u80, u81, u82, u83, u84, u85, u86, u87, u88, u89, u90, u91, u92, u93, u94, u95, u96, u97, u98, u99, u100, u101, u102, u103, u104, u105, u106, u107, u108, u109, u110, u111, u112, u113, u114, u115, u116, u117, u118, u119, u120, u121, u122, u123, u124, u125, u126, u127, u128, u129, u130, u131, u132, u133, u134, u135, u136, u137, u138, u139, u140, u141, u142, u143, u144, u145, u146, u147, u148, u149, u150, u151, u152, u153, u154, u155, u156, u157, u158, u159, u160, u161, u162, u163, u164, u165, u166, u167, u168, u169, u170, u171, u172, u173, u174, u175, u176, u177, u178, u179, u180, u181, u182, u183, u184, u185, u186, u187, u188, u189, u190, u191, u192, u193, u194, u195, u196, u197, u198, u199, u200, u201, u202, u203, u204, u205, u206, u207, u208, u209, u210, u211, u212, u213, u214, u215, u216, u217, u218, u219, u220, u221, u222, u223, u224, u225], []⟩ w := by
 intro K hK
 conv => arg 2; whnf
 obtain ⟨ci, hp2⟩ := hP.insts
 have hopi := hP.op pc hp0 hpc
 have hout := hP.out pc hp0 hpc
 have harg := hP.arg pc hp0 hpc
 rw [hop] at hopi
 have hpcn : (pc : Int) < (np : Int) := by omega
 have hncp : (0 : Int) < (nc : Int) := by omega
 have hDT : Db ≠ T := Ne.symm hTD
 have HG := Lib.hid hgo
 clear hgo hP
 go_wp2_with fail
 conv => arg 2; whnf
 go_wp2_with fail
 obtain ⟨w2, hw2⟩ : ∃ w2, w2 = w.setCell ⟨T, 0, none⟩ (.pointer (some ⟨I, pc * 4, none⟩)) := ⟨_, rfl⟩
 rw [← hw2]
 have q1 : w2.cell? ⟨T, 1, none⟩ = some (.slice (some ⟨CB, 0, none⟩) nc nc) := by rw [hw2, ← hT1]; simp [go_sem]
 have q2 : w2.cell? ⟨Db, n * 2 + 1, none⟩ = some v1 := by rw [hw2, ← hD]; exact World.cell?_of_block (Below.heap_setCell _ _ _ _ (Ne.symm hTD))
 have q3 : w2.frozen? ⟨Db, n * 2 + 1, none⟩ = false := by rw [hw2, ← hDf]; exact World.frozen?_of_block (Below.heap_setCell _ _ _ _ (Ne.symm hTD))
 have q4 : T < w2.heap.size := by rw [hw2]; simpa [World.setCell] using hTl
 have q5 : Db < w2.heap.size := by rw [hw2]; simpa [World.setCell] using hDl
 have HW := Lib.hid hw2
 clear hw2
 have hneq : ∀ y : Ext w2, (binOp .neq 242 (.pointer (some ⟨CB, 0, none⟩)) (.pointer (some ⟨CB, 0, none⟩))).run Tryz.prog y.now = .ok (.bool false) y.now := fun y => neq_same _ _
 refine wp_region_ext rfl (by kernel_rfl) ?_
 repeat (quiet_step (fail))
 refine wpQuiet_nil ?_
 rintro w' ⟨y, rfl⟩
 go_wp2_with fail
 exact HG.out _ rfl rfl rfl w2 HW.out y

set_option maxRecDepth 1000000 in
set_option maxHeartbeats 4000000 in
theorem add_old7 (u7 u8 u9 u10 u11 u12 u13 u14 u15 u16 u18 u19 u20 u21 u22 u23 u24 u25 u26 u27 u28 u29 u30 u31 u32 u33 u34 u35 u36 u37 u38 u39 u40 u41 u42 u43 u44 u45 u46 u47 u48 u49 u50 u51 u52 u53 u54 u55 u56 u57 u58 u59 u60 u61 u62 u63 u64 u65 u66 u67 u68 u69 u70 u71 u72 u73 u74 u75 u76 u77 u78 u79 u80 u81 u82 u83 u84 u85 u86 u87 u88 u89 u90 u91 u92 u93 u94 u95 u96 u97 u98 u99 u100 u101 u102 u103 u104 u105 u106 u107 u108 u109 u110 u111 u112 u113 u114 u115 u116 u117 u118 u119 u120 u121 u122 u123 u124 u125 u126 u127 u128 u129 u130 u131 u132 u133 u134 u135 u136 u137 u138 u139 u140 u141 u142 u143 u144 u145 u146 u147 u148 u149 u150 u151 u152 u153 u154 u155 u156 u157 u158 u159 u160 u161 u162 u163 u164 u165 u166 u167 u168 u169 u170 u171 u172 u173 u174 u175 u176 u177 u178 u179 u180 u181 u182 u183 u184 u185 u186 u187 u188 u189 u190 u191 u192 u193 u194 u195 u196 u197 u198 u199 u200 u201 u202 u203 u204 u205 u206 u207 u208 u209 u210 u211 u212 u213 u214 u215 u216 u217 u218 u219 u220 u221 u222 u223 u224 u225 : Value) (M qo pc : Nat) (pos : Int) (CB nc F : Nat) (T : Nat) (w : World) (Q : Exit → Act → World → Prop) (N R PR I np : Nat) (pg : Nat → Inst) (hP : ProgAt w N R PR I np pg) (hp0 : 0 < pc) (hpc : pc < np) (hnp : np ≤ 1000) (hm1 : w.cell? ⟨M, 1, none⟩ = some (.pointer (some ⟨PR, 0, none⟩))) (Db n : Nat) (hop : (pg pc).op = 7) (hnc : 0 < nc) (hnc2 : nc < 1000) (v0 : Value) (hT0 : w.cell? ⟨T, 0, none⟩ = some v0) (hT1 : w.cell? ⟨T, 1, none⟩ = some (.slice (some ⟨CB, 0, none⟩) nc nc)) (hTf : w.frozen? ⟨T, 0, none⟩ = false) (hTl : T < w.heap.size)
  (v1 : Value) (hD : w.cell? ⟨Db, n * 2 + 1, none⟩ = some v1) (hDf : w.frozen? ⟨Db, n * 2 + 1, none⟩ = false) (hDl : Db < w.heap.size) (hTD : T ≠ Db)
  (hgo : ∀ a, a.tmps.size = 226 → a.defers = [] → a.tmps.getD 14 undef = .pointer none → ∀ w2, w2 = (w.setCell ⟨T, 0, none⟩ (.pointer (some ⟨I, pc * 4, none⟩))) → ∀ y : Ext w2, Q .ret a (y.now.setCell ⟨Db, n * 2 + 1, none⟩ (.pointer (some ⟨T, 0, none⟩)))) : Ent addSw Q ⟨#[.pointer (some ⟨M, 0, none⟩), .pointer (some ⟨M, qo, none⟩), .int .u32 pc, .int .i64 pos, .slice (some ⟨CB, 0, none⟩) nc nc, .pointer (some ⟨F, 0, none⟩), .pointer (some ⟨T, 0, none⟩), u7, u8, u9, u10, u11, u12, u13, u14, u15, u16, .pointer (some ⟨Db, n * 2, none⟩), u18, u19, u20, u21, u22, u23, u24, u25, u26, u27, u28, u29, u30, u31, u32, u33, u34, u35, u36, u37, u38, u39, u40, u41, u42, u43, u44, u45, u46, u47, u48, u49, u50, u51, u52, u53, u54, u55, u56, u57, u58, u59, u60, u61, u62, u63, u64, u65, u66, u67, u68, u69, u70, u71, u72, u73, u74, u75, u76, u77, u78, u79, u80, u81, u82, u83, u84, u85, u86, u87, u88, u89, u90, u91, u92, u93, u94, u95, u96, u97, u98, u99, u100, u101, u102, u103, u104, u105, u106, u107, u108, u109, u110, u111, u112, u113, u114, u115, u116, u117, u118, u119, u120, u121, u122, u123, u124, u125, u126, u127, u128, u129, u130, u131, u132, u133, u134, u135, u136, u137, u138, u139, u140, u141, u142, u143, u144, u145, u146, u147, u148, u149, u150, u151, u152, u153, u154, u155, u156, u157, u158, u159, u160, u161, u162, u163, u164, u165, u166, u167, u168, u169, u170, u171, u172, u173, u174, u175, u176, u177, u178, u179, u180, u181, u182, u183, u184, u185, u186, u187, u188, u189, u190, u191, u192, u193, u194, u195, u196, u197, u198, u199, u200, u201, u202, u203, u204, u205, u206, u207, u208, u209, u210, u211, u212, u213, u214, u215, u216, u217, u218, u219, u220, u221, u222, u223, u224, u225], []⟩ w := by
 intro K hK
 conv => arg 2; whnf
 obtain ⟨ci, hp2⟩ := hP.insts
 have hopi := hP.op pc hp0 hpc
 have hout := hP.out pc hp0 hpc
 have harg := hP.arg pc hp0 hpc
 rw [hop] at hopi
 have hpcn : (pc : Int) < (np : Int) := by omega
 have hncp : (0 : Int) < (nc : Int) := by omega
 have hDT : Db ≠ T := Ne.symm hTD
 have HG := Lib.hid hgo
 clear hgo hP
 go_wp2_with fail
 conv => arg 2; whnf
 go_wp2_with fail
 obtain ⟨w2, hw2⟩ : ∃ w2, w2 = w.setCell ⟨T, 0, none⟩ (.pointer (some ⟨I, pc * 4, none⟩)) := ⟨_, rfl⟩
 rw [← hw2]
 have q1 : w2.cell? ⟨T, 1, none⟩ = some (.slice (some ⟨CB, 0, none⟩) nc nc) := by rw [hw2, ← hT1]; simp [go_sem]
 have q2 : w2.cell? ⟨Db, n * 2 + 1, none⟩ = some v1 := by rw [hw2, ← hD]; exact World.cell?_of_block (Below.heap_setCell _ _ _ _ (Ne.symm hTD))
 have q3 : w2.frozen? ⟨Db, n * 2 + 1, none⟩ = false := by rw [hw2, ← hDf]; exact World.frozen?_of_block (Below.heap_setCell _ _ _ _ (Ne.symm hTD))
 have q4 : T < w2.heap.size := by rw [hw2]; simpa [World.setCell] using hTl
 have q5 : Db < w2.heap.size := by rw [hw2]; simpa [World.setCell] using hDl
 have HW := Lib.hid hw2
 clear hw2
 have hneq : ∀ y : Ext w2, (binOp .neq 242 (.pointer (some ⟨CB, 0, none⟩)) (.pointer (some ⟨CB, 0, none⟩))).run Tryz.prog y.now = .ok (.bool false) y.now := fun y => neq_same _ _
 refine wp_region_ext rfl (by kernel_rfl) ?_
 repeat (quiet_step (fail))
 refine wpQuiet_nil ?_
 rintro w' ⟨y, rfl⟩
 go_wp2_with fail
 exact HG.out _ rfl rfl rfl w2 HW.out y

set_option maxRecDepth 1000000 in
set_option maxHeartbeats 4000000 in
theorem add_old8 (u7 u8 u9 u10 u11 u12 u13 u14 u15 u16 u18 u19 u20 u21 u22 u23 u24 u25 u26 u27 u28 u29 u30 u31 u32 u33 u34 u35 u36 u37 u38 u39 u40 u41 u42 u43 u44 u45 u46 u47 u48 u49 u50 u51 u52 u53 u54 u55 u56 u57 u58 u59 u60 u61 u62 u63 u64 u65 u66 u67 u68 u69 u70 u71 u72 u73 u74 u75 u76 u77 u78 u79 u80 u81 u82 u83 u84 u85 u86 u87 u88 u89 u90 u91 u92 u93 u94 u95 u96 u97 u98 u99 u100 u101 u102 u103 u104 u105 u106 u107 u108 u109 u110 u111 u112 u113 u114 u115 u116 u117 u118 u119 u120 u121 u122 u123 u124 u125 u126 u127 u128 u129 u130 u131 u132 u133 u134 u135 u136 u137 u138 u139 u140 u141 u142 u143 u144 u145 u146 u147 u148 u149 u150 u151 u152 u153 u154 u155 u156 u157 u158 u159 u160 u161 u162 u163 u164 u165 u166 u167 u168 u169 u170 u171 u172 u173 u174 u175 u176 u177 u178 u179 u180 u181 u182 u183 u184 u185 u186 u187 u188 u189 u190 u191 u192 u193 u194 u195 u196 u197 u198 u199 u200 u201 u202 u203 u204 u205 u206 u207 u208 u209 u210 u211 u212 u213 u214 u215 u216 u217 u218 u219 u220 u221 u222 u223 u224 u225 : Value) (M qo pc : Nat) (pos : Int) (CB nc F : Nat) (T : Nat) (w : World) (Q : Exit → Act → World → Prop) (N R PR I np : Nat) (pg : Nat → Inst) (hP : ProgAt w N R PR I np pg) (hp0 : 0 < pc) (hpc : pc < np) (hnp : np ≤ 1000) (hm1 : w.cell? ⟨M, 1, none⟩ = some (.pointer (some ⟨PR, 0, none⟩))) (Db n : Nat) (hop : (pg pc).op = 8) (hnc : 0 < nc) (hnc2 : nc < 1000) (v0 : Value) (hT0 : w.cell? ⟨T, 0, none⟩ = some v0) (hT1 : w.cell? ⟨T, 1, none⟩ = some (.slice (some ⟨CB, 0, none⟩) nc nc)) (hTf : w.frozen? ⟨T, 0, none⟩ = false) (hTl : T < w.heap.size)
  (v1 : Value) (hD : w.cell? ⟨Db, n * 2 + 1, none⟩ = some v1) (hDf : w.frozen? ⟨Db, n * 2 + 1, none⟩ = false) (hDl : Db < w.heap.size) (hTD : T ≠ Db)
  (hgo : ∀ a, a.tmps.size = 226 → a.defers = [] → a.tmps.getD 14 undef = .pointer none → ∀ w2, w2 = (w.setCell ⟨T, 0, none⟩ (.pointer (some ⟨I, pc * 4, none⟩))) → ∀ y : Ext w2, Q .ret a (y.now.setCell ⟨Db, n * 2 + 1, none⟩ (.pointer (some ⟨T, 0, none⟩)))) : Ent addSw Q ⟨#[.pointer (some ⟨M, 0, none⟩), .pointer (some ⟨M, qo, none⟩), .int .u32 pc, .int .i64 pos, .slice (some ⟨CB, 0, none⟩) nc nc, .pointer (some ⟨F, 0, none⟩), .pointer (some ⟨T, 0, none⟩), u7, u8, u9, u10, u11, u12, u13, u14, u15, u16, .pointer (some ⟨Db, n * 2, none⟩), u18, u19, u20, u21, u22, u23, u24, u25, u26, u27, u28, u29, u30, u31, u32, u33, u34, u35, u36, u37, u38, u39, u40, u41, u42, u43, u44, u45, u46, u47, u48, u49, u50, u51, u52, u53, u54, u55, u56, u57, u58, u59, u60, u61, u62, u63, u64, u65, u66, u67, u68, u69, u70, u71, u72, u73, u74, u75, u76, u77, u78, u79, u80, u81, u82, u83, u84, u85, u86, u87, u88, u89, u90, u91, u92, u93, u94, u95, u96, u97, u98, u99, u100, u101, u102, u103, u104, u105, u106, u107, u108, u109, u110, u111, u112, u113, u114, u115, u116, u117, u118, u119, u120, u121, u122, u123, u124, u125, u126, u127, u128, u129, u130, u131, u132, u133, u134, u135, u136, u137, u138, u139, u140, u141, u142, u143, u144, u145, u146, u147, u148, u149, u150, u151, u152, u153, u154, u155, u156, u157, u158, u159, u160, u161, u162, u163, u164, u165, u166, u167, u168, u169, u170, u171, u172, u173, u174, u175, u176, u177, u178, u179, u180, u181, u182, u183, u184, u185, u186, u187, u188, u189, u190, u191, u192, u193, u194, u195, u196, u197, u198, u199, u200, u201, u202, u203, u204, u205, u206, u207, u208, u209, u210, u211, u212, u213, u214, u215, u216, u217, u218, u219, u220, u221, u222, u223, u224, u225], []⟩ w := by
 intro K hK
 conv => arg 2; whnf
 obtain ⟨ci, hp2⟩ := hP.insts
 have hopi := hP.op pc hp0 hpc
 have hout := hP.out pc hp0 hpc
 have harg := hP.arg pc hp0 hpc
 rw [hop] at hopi
 have hpcn : (pc : Int) < (np : Int) := by omega
 have hncp : (0 : Int) < (nc : Int) := by omega
 have hDT : Db ≠ T := Ne.symm hTD
 have HG := Lib.hid hgo
 clear hgo hP
 go_wp2_with fail
 conv => arg 2; whnf
 go_wp2_with fail
 obtain ⟨w2, hw2⟩ : ∃ w2, w2 = w.setCell ⟨T, 0, none⟩ (.pointer (some ⟨I, pc * 4, none⟩)) := ⟨_, rfl⟩
 rw [← hw2]
 have q1 : w2.cell? ⟨T, 1, none⟩ = some (.slice (some ⟨CB, 0, none⟩) nc nc) := by rw [hw2, ← hT1]; simp [go_sem]
 have q2 : w2.cell? ⟨Db, n * 2 + 1, none⟩ = some v1 := by rw [hw2, ← hD]; exact World.cell?_of_block (Below.heap_setCell _ _ _ _ (Ne.symm hTD))
 have q3 : w2.frozen? ⟨Db, n * 2 + 1, none⟩ = false := by rw [hw2, ← hDf]; exact World.frozen?_of_block (Below.heap_setCell _ _ _ _ (Ne.symm hTD))
 have q4 : T < w2.heap.size := by rw [hw2]; simpa [World.setCell] using hTl
 have q5 : Db < w2.heap.size := by rw [hw2]; simpa [World.setCell] using hDl
 have HW := Lib.hid hw2
 clear hw2
 have hneq : ∀ y : Ext w2, (binOp .neq 242 (.pointer (some ⟨CB, 0, none⟩)) (.pointer (some ⟨CB, 0, none⟩))).run Tryz.prog y.now = .ok (.bool false) y.now := fun y => neq_same _ _
 refine wp_region_ext rfl (by kernel_rfl) ?_
 repeat (quiet_step (fail))
 refine wpQuiet_nil ?_
 rintro w' ⟨y, rfl⟩
 go_wp2_with fail
 exact HG.out _ rfl rfl rfl w2 HW.out y

end Go.Proofs.YtkbmigfkclnlaaaGreatDoor
