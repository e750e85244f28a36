/-
FnRefNormalSelf: the regular expressions, the digest and the reference, part 10 of 26.
-/
import Derived.Test.YtkbmigfkclnlaaaGreatDoorV09
import Derived.Test.YtkbmigfkclnlaaaGreatDoorV04
import Derived.Lib.Hide
import Derived.Test.YtkbmigfkclnlaaaGreatDoorV03
import Derived.Test.YtkbmigfkclnlaaaGreatDoorV02
import Derived.Test.YtkbmigfkclnlaaaGreatDoorV01
set_option linter.all false
namespace Go.Proofs.YtkbmigfkclnlaaaGreatDoor
open Go.RowKit Go.Rx
attribute [local go_sem] Ext.cell Ext.frozen Ext.lt Ext.lt_add Ext.cell2 Ext.frozen2

set_option maxRecDepth 1000000 in
set_option maxHeartbeats 4000000 in
theorem add_new4 (u7 u8 u9 u10 u11 u12 u13 u14 u15 u16 u18 u19 u20 u21 u22 u23 u24 u25 u26 u27 u28 u29 u30 u31 u32 u33 u34 u35 u36 u37 u38 u39 u40 u41 u42 u43 u44 u45 u46 u47 u48 u49 u50 u51 u52 u53 u54 u55 u56 u57 u58 u59 u60 u61 u62 u63 u64 u65 u66 u67 u68 u69 u70 u71 u72 u73 u74 u75 u76 u77 u78 u79 u80 u81 u82 u83 u84 u85 u86 u87 u88 u89 u90 u91 u92 u93 u94 u95 u96 u97 u98 u99 u100 u101 u102 u103 u104 u105 u106 u107 u108 u109 u110 u111 u112 u113 u114 u115 u116 u117 u118 u119 u120 u121 u122 u123 u124 u125 u126 u127 u128 u129 u130 u131 u132 u133 u134 u135 u136 u137 u138 u139 u140 u141 u142 u143 u144 u145 u146 u147 u148 u149 u150 u151 u152 u153 u154 u155 u156 u157 u158 u159 u160 u161 u162 u163 u164 u165 u166 u167 u168 u169 u170 u171 u172 u173 u174 u175 u176 u177 u178 u179 u180 u181 u182 u183 u184 u185 u186 u187 u188 u189 u190 u191 u192 u193 u194 u195 u196 u197 u198 u199 u200 u201 u202 u203 u204 u205 u206 u207 u208 u209 u210 u211 u212 u213 u214 u215 u216 u217 u218 u219 u220 u221 u222 u223 u224 u225 : Value) (M qo pc : Nat) (pos : Int) (CB nc F : Nat) (w : World) (Q : Exit → Act → World → Prop) (N R PR I np : Nat) (pg : Nat → Inst) (hP : ProgAt w N R PR I np pg) (hp0 : 0 < pc) (hpc : pc < np) (hnp : np ≤ 1000) (hm1 : w.cell? ⟨M, 1, none⟩ = some (.pointer (some ⟨PR, 0, none⟩))) (Db n : Nat) (hop : (pg pc).op = 4) (hnc : 0 < nc) (hnc2 : nc < 1000) (lc : List Value) (tC : TypeId) (hlc : lc.length = nc) (hone : ∀ v ∈ lc, v.oneCell' = true) (G : Nat → World → Prop)
  (hall : Calls Tryz.prog 122 #[.pointer (some ⟨M, 0, none⟩), .pointer (some ⟨I, pc * 4, none⟩)] w fun e w' => ∃ T, e = .returned (.pointer (some ⟨T, 0, none⟩)) ∧ G T w')
  (hG : ∀ T w', G T w' → ∃ CT lT v, w'.cell? ⟨T, 1, none⟩ = some (.slice (some ⟨CT, 0, none⟩) nc nc) ∧ T < w'.heap.size ∧ CT ≠ CB ∧ CT ≠ Db ∧ Blk w' CT lT 3 ∧ lT.length = nc ∧ Blk w' CB lc tC ∧ w'.cell? ⟨Db, n * 2 + 1, none⟩ = some v ∧ w'.frozen? ⟨Db, n * 2 + 1, none⟩ = false ∧ Db < w'.heap.size)
  (hgo : ∀ a T CT w' w2, a.tmps.size = 226 → a.defers = [] → a.tmps.getD 14 undef = .pointer none → G T w' → w'.cell? ⟨T, 1, none⟩ = some (.slice (some ⟨CT, 0, none⟩) nc nc) → Blk w2 CT lc 3 → Chg [CT] w' w2 → Q .ret a (w2.setCell ⟨Db, n * 2 + 1, none⟩ (.pointer (some ⟨T, 0, none⟩)))) : Ent addSw Q ⟨#[.pointer (some ⟨M, 0, none⟩), .pointer (some ⟨M, qo, none⟩), .int .u32 pc, .int .i64 pos, .slice (some ⟨CB, 0, none⟩) nc nc, .pointer (some ⟨F, 0, none⟩), .pointer none, u7, u8, u9, u10, u11, u12, u13, u14, u15, u16, .pointer (some ⟨Db, n * 2, none⟩), u18, u19, u20, u21, u22, u23, u24, u25, u26, u27, u28, u29, u30, u31, u32, u33, u34, u35, u36, u37, u38, u39, u40, u41, u42, u43, u44, u45, u46, u47, u48, u49, u50, u51, u52, u53, u54, u55, u56, u57, u58, u59, u60, u61, u62, u63, u64, u65, u66, u67, u68, u69, u70, u71, u72, u73, u74, u75, u76, u77, u78, u79, u80, u81, u82, u83, u84, u85, u86, u87, u88, u89, u90, u91, u92, u93, u94, u95, u96, u97, u98, u99, u100, u101, u102, u103, u104, u105, u106, u107, u108, u109, u110, u111, u112, u113, u114, u115, u116, u117, u118, u119, u120, u121, u122, u123, u124, u125, u126, u127, u128, u129, u130, u131, u132, u133, u134, u135, u136, u137, u138, u139, u140, u141, u142, u143, u144, u145, u146, u147, u148, u149, u150, u151, u152, u153, u154, u155, u156, u157, u158, u159, u160, u161, u162, u163, u164, u165, u166, u167, u168, u169, u170, u171, u172, u173, u174, u175, u176, u177, u178, u179, u180, u181, u182, u183, u184, u185, u186, u187, u188, u189, u190, u191, u192, u193, u194, u195, u196, u197, u198, u199, u200, u201, u202, u203, u204, u205, u206, u207, u208, u209, u210, u211, u212, u213, u214, u215, u216, u217, u218, u219, u220, u221, u222, u223, u224, u225], []⟩ w := by
 intro K hK
 conv => arg 2; whnf
 obtain ⟨ci, hp2⟩ := hP.insts
 have hopi := hP.op pc hp0 hpc
 have hout := hP.out pc hp0 hpc
 have harg := hP.arg pc hp0 hpc
 rw [hop] at hopi
 have hpcn : (pc : Int) < (np : Int) := by omega
 have hncp : (0 : Int) < (nc : Int) := by omega
 have HG := Lib.hid hgo
 have HK := Lib.hid hG
 have HO := Lib.hid hone
 have HL := Lib.hid hlc
 clear hgo hP hG hone hlc
 go_wp2_with fail
 conv => arg 2; whnf
 go_wp2_with (first | (go_at_call 122; (with_reducible refine hall.mono ?_); rintro e w' ⟨T, rfl, hg⟩; obtain ⟨CT, lT, vD, g1, g2, g3, g4, g5, g6, g7, g8, g9, g10⟩ := HK.out _ _ hg; have HT := Lib.hid hg; have H5 := Lib.hid g5; have H6 := Lib.hid g6; have H7 := Lib.hid g7; clear hg g5 g6 g7))
 have hneq : ∀ y : Ext w', (binOp .neq 242 (.pointer (some ⟨CT, 0, none⟩)) (.pointer (some ⟨CB, 0, none⟩))).run Tryz.prog y.now = .ok (.bool true) y.now := fun y =>
  neq_other _ _ _ _ _ _ _ (H5.out.chg (Chg.of_below y.below) (by simp)) (H7.out.chg (Chg.of_below y.below) (by simp)) g3
 refine wp_region_ext rfl (by kernel_rfl) ?_
 repeat (quiet_step (fail))
 refine wpQuiet_nil ?_
 rintro w1 ⟨y, rfl⟩
 have k1 := H5.out.chg (Chg.of_below y.below) (by simp)
 have k2 := H7.out.chg (Chg.of_below y.below) (by simp)
 have q1 : y.now.cell? ⟨Db, n * 2 + 1, none⟩ = some vD := (y.cell _ _ g10).trans g8
 have q2 : y.now.frozen? ⟨Db, n * 2 + 1, none⟩ = false := (y.frozen _ _ g10).trans g9
 have q3 := y.lt _ g10
 go_wp2_with (refine copy_blk rfl (.tmp 218) (.tmp 219) rfl CT CB nc nc nc rfl rfl lT lc 3 tC k1 k2 H6.out HL.out HO.out ?_)
 intro w2 m1 m2
 have r1 : w2.cell? ⟨Db, n * 2 + 1, none⟩ = some vD := by rw [← q1]; exact World.cell?_of_block (m2.block _ q3 (by simpa using Ne.symm g4))
 have r2 : w2.frozen? ⟨Db, n * 2 + 1, none⟩ = false := by rw [← q2]; exact World.frozen?_of_block (m2.block _ q3 (by simpa using Ne.symm g4))
 have r3 : Db < w2.heap.size := Nat.lt_of_lt_of_le q3 m2.size
 have K1 := Lib.hid m1
 have K2 := Lib.hid m2
 clear k1 k2 m1 m2 q1 q2 q3
 go_wp2_with fail
 exact HG.out _ T CT w' w2 rfl rfl rfl HT.out g1 K1.out (((Chg.of_below y.below).trans K2.out).mono (fun b hb _ => by simpa using hb))

set_option maxRecDepth 1000000 in
set_option maxHeartbeats 4000000 in
theorem add_new7 (u7 u8 u9 u10 u11 u12 u13 u14 u15 u16 u18 u19 u20 u21 u22 u23 u24 u25 u26 u27 u28 u29 u30 u31 u32 u33 u34 u35 u36 u37 u38 u39 u40 u41 u42 u43 u44 u45 u46 u47 u48 u49 u50 u51 u52 u53 u54 u55 u56 u57 u58 u59 u60 u61 u62 u63 u64 u65 u66 u67 u68 u69 u70 u71 u72 u73 u74 u75 u76 u77 u78 u79 u80 u81 u82 u83 u84 u85 u86 u87 u88 u89 u90 u91 u92 u93 u94 u95 u96 u97 u98 u99 u100 u101 u102 u103 u104 u105 u106 u107 u108 u109 u110 u111 u112 u113 u114 u115 u116 u117 u118 u119 u120 u121 u122 u123 u124 u125 u126 u127 u128 u129 u130 u131 u132 u133 u134 u135 u136 u137 u138 u139 u140 u141 u142 u143 u144 u145 u146 u147 u148 u149 u150 u151 u152 u153 u154 u155 u156 u157 u158 u159 u160 u161 u162 u163 u164 u165 u166 u167 u168 u169 u170 u171 u172 u173 u174 u175 u176 u177 u178 u179 u180 u181 u182 u183 u184 u185 u186 u187 u188 u189 u190 u191 u192 u193 u194 u195 u196 u197 u198 u199 u200 u201 u202 u203 u204 u205 u206 u207 u208 u209 u210 u211 u212 u213 u214 u215 u216 u217 u218 u219 u220 u221 u222 u223 u224 u225 : Value) (M qo pc : Nat) (pos : Int) (CB nc F : Nat) (w : World) (Q : Exit → Act → World → Prop) (N R PR I np : Nat) (pg : Nat → Inst) (hP : ProgAt w N R PR I np pg) (hp0 : 0 < pc) (hpc : pc < np) (hnp : np ≤ 1000) (hm1 : w.cell? ⟨M, 1, none⟩ = some (.pointer (some ⟨PR, 0, none⟩))) (Db n : Nat) (hop : (pg pc).op = 7) (hnc : 0 < nc) (hnc2 : nc < 1000) (lc : List Value) (tC : TypeId) (hlc : lc.length = nc) (hone : ∀ v ∈ lc, v.oneCell' = true) (G : Nat → World → Prop)
  (hall : Calls Tryz.prog 122 #[.pointer (some ⟨M, 0, none⟩), .pointer (some ⟨I, pc * 4, none⟩)] w fun e w' => ∃ T, e = .returned (.pointer (some ⟨T, 0, none⟩)) ∧ G T w')
  (hG : ∀ T w', G T w' → ∃ CT lT v, w'.cell? ⟨T, 1, none⟩ = some (.slice (some ⟨CT, 0, none⟩) nc nc) ∧ T < w'.heap.size ∧ CT ≠ CB ∧ CT ≠ Db ∧ Blk w' CT lT 3 ∧ lT.length = nc ∧ Blk w' CB lc tC ∧ w'.cell? ⟨Db, n * 2 + 1, none⟩ = some v ∧ w'.frozen? ⟨Db, n * 2 + 1, none⟩ = false ∧ Db < w'.heap.size)
  (hgo : ∀ a T CT w' w2, a.tmps.size = 226 → a.defers = [] → a.tmps.getD 14 undef = .pointer none → G T w' → w'.cell? ⟨T, 1, none⟩ = some (.slice (some ⟨CT, 0, none⟩) nc nc) → Blk w2 CT lc 3 → Chg [CT] w' w2 → Q .ret a (w2.setCell ⟨Db, n * 2 + 1, none⟩ (.pointer (some ⟨T, 0, none⟩)))) : Ent addSw Q ⟨#[.pointer (some ⟨M, 0, none⟩), .pointer (some ⟨M, qo, none⟩), .int .u32 pc, .int .i64 pos, .slice (some ⟨CB, 0, none⟩) nc nc, .pointer (some ⟨F, 0, none⟩), .pointer none, u7, u8, u9, u10, u11, u12, u13, u14, u15, u16, .pointer (some ⟨Db, n * 2, none⟩), u18, u19, u20, u21, u22, u23, u24, u25, u26, u27, u28, u29, u30, u31, u32, u33, u34, u35, u36, u37, u38, u39, u40, u41, u42, u43, u44, u45, u46, u47, u48, u49, u50, u51, u52, u53, u54, u55, u56, u57, u58, u59, u60, u61, u62, u63, u64, u65, u66, u67, u68, u69, u70, u71, u72, u73, u74, u75, u76, u77, u78, u79, u80, u81, u82, u83, u84, u85, u86, u87, u88, u89, u90, u91, u92, u93, u94, u95, u96, u97, u98, u99, u100, u101, u102, u103, u104, u105, u106, u107, u108, u109, u110, u111, u112, u113, u114, u115, u116, u117, u118, u119, u120, u121, u122, u123, u124, u125, u126, u127, u128, u129, u130, u131, u132, u133, u134, u135, u136, u137, u138, u139, u140, u141, u142, u143, u144, u145, u146, u147, u148, u149, u150, u151, u152, u153, u154, u155, u156, u157, u158, u159, u160, u161, u162, u163, u164, u165, u166, u167, u168, u169, u170, u171, u172, u173, u174, u175, u176, u177, u178, u179, u180, u181, u182, u183, u184, u185, u186, u187, u188, u189, u190, u191, u192, u193, u194, u195, u196, u197, u198, u199, u200, u201, u202, u203, u204, u205, u206, u207, u208, u209, u210, u211, u212, u213, u214, u215, u216, u217, u218, u219, u220, u221, u222, u223, u224, u225], []⟩ w := by
 intro K hK
 conv => arg 2; whnf
 obtain ⟨ci, hp2⟩ := hP.insts
 have hopi := hP.op pc hp0 hpc
 have hout := hP.out pc hp0 hpc
 have harg := hP.arg pc hp0 hpc
 rw [hop] at hopi
 have hpcn : (pc : Int) < (np : Int) := by omega
 have hncp : (0 : Int) < (nc : Int) := by omega
 have HG := Lib.hid hgo
 have HK := Lib.hid hG
 have HO := Lib.hid hone
 have HL := Lib.hid hlc
 clear hgo hP hG hone hlc
 go_wp2_with fail
 conv => arg 2; whnf
 go_wp2_with (first | (go_at_call 122; (with_reducible refine hall.mono ?_); rintro e w' ⟨T, rfl, hg⟩; obtain ⟨CT, lT, vD, g1, g2, g3, g4, g5, g6, g7, g8, g9, g10⟩ := HK.out _ _ hg; have HT := Lib.hid hg; have H5 := Lib.hid g5; have H6 := Lib.hid g6; have H7 := Lib.hid g7; clear hg g5 g6 g7))
 have hneq : ∀ y : Ext w', (binOp .neq 242 (.pointer (some ⟨CT, 0, none⟩)) (.pointer (some ⟨CB, 0, none⟩))).run Tryz.prog y.now = .ok (.bool true) y.now := fun y =>
  neq_other _ _ _ _ _ _ _ (H5.out.chg (Chg.of_below y.below) (by simp)) (H7.out.chg (Chg.of_below y.below) (by simp)) g3
 refine wp_region_ext rfl (by kernel_rfl) ?_
 repeat (quiet_step (fail))
 refine wpQuiet_nil ?_
 rintro w1 ⟨y, rfl⟩
 have k1 := H5.out.chg (Chg.of_below y.below) (by simp)
 have k2 := H7.out.chg (Chg.of_below y.below) (by simp)
 have q1 : y.now.cell? ⟨Db, n * 2 + 1, none⟩ = some vD := (y.cell _ _ g10).trans g8
 have q2 : y.now.frozen? ⟨Db, n * 2 + 1, none⟩ = false := (y.frozen _ _ g10).trans g9
 have q3 := y.lt _ g10
 go_wp2_with (refine copy_blk rfl (.tmp 218) (.tmp 219) rfl CT CB nc nc nc rfl rfl lT lc 3 tC k1 k2 H6.out HL.out HO.out ?_)
 intro w2 m1 m2
 have r1 : w2.cell? ⟨Db, n * 2 + 1, none⟩ = some vD := by rw [← q1]; exact World.cell?_of_block (m2.block _ q3 (by simpa using Ne.symm g4))
 have r2 : w2.frozen? ⟨Db, n * 2 + 1, none⟩ = false := by rw [← q2]; exact World.frozen?_of_block (m2.block _ q3 (by simpa using Ne.symm g4))
 have r3 : Db < w2.heap.size := Nat.lt_of_lt_of_le q3 m2.size
 have K1 := Lib.hid m1
 have K2 := Lib.hid m2
 clear k1 k2 m1 m2 q1 q2 q3
 go_wp2_with fail
 exact HG.out _ T CT w' w2 rfl rfl rfl HT.out g1 K1.out (((Chg.of_below y.below).trans K2.out).mono (fun b hb _ => by simpa using hb))

set_option maxRecDepth 1000000 in
set_option maxHeartbeats 4000000 in
theorem add_new8 (u7 u8 u9 u10 u11 u12 u13 u14 u15 u16 u18 u19 u20 u21 u22 u23 u24 u25 u26 u27 u28 u29 u30 u31 u32 u33 u34 u35 u36 u37 u38 u39 u40 u41 u42 u43 u44 u45 u46 u47 u48 u49 u50 u51 u52 u53 u54 u55 u56 u57 u58 u59 u60 u61 u62 u63 u64 u65 u66 u67 u68 u69 u70 u71 u72 u73 u74 u75 u76 u77 u78 u79 u80 u81 u82 u83 u84 u85 u86 u87 u88 u89 u90 u91 u92 u93 u94 u95 u96 u97 u98 u99 u100 u101 u102 u103 u104 u105 u106 u107 u108 u109 u110 u111 u112 u113 u114 u115 u116 u117 u118 u119 u120 u121 u122 u123 u124 u125 u126 u127 u128 u129 u130 u131 u132 u133 u134 u135 u136 u137 u138 u139 u140 u141 u142 u143 u144 u145 u146 u147 u148 u149 u150 u151 u152 u153 u154 u155 u156 u157 u158 u159 u160 u161 u162 u163 u164 u165 u166 u167 u168 u169 u170 u171 u172 u173 u174 u175 u176 u177 u178 u179 u180 u181 u182 u183 u184 u185 u186 u187 u188 u189 u190 u191 u192 u193 u194 u195 u196 u197 u198 u199 u200 u201 u202 u203 u204 u205 u206 u207 u208 u209 u210 u211 u212 u213 u214 u215 u216 u217 u218 u219 u220 u221 u222 u223 u224 u225 : Value) (M qo pc : Nat) (pos : Int) (CB nc F : Nat) (w : World) (Q : Exit → Act → World → Prop) (N R PR I np : Nat) (pg : Nat → Inst) (hP : ProgAt w N R PR I np pg) (hp0 : 0 < pc) (hpc : pc < np) (hnp : np ≤ 1000) (hm1 : w.cell? ⟨M, 1, none⟩ = some (.pointer (some ⟨PR, 0, none⟩))) (Db n : Nat) (hop : (pg pc).op = 8) (hnc : 0 < nc) (hnc2 : nc < 1000) (lc : List Value) (tC : TypeId) (hlc : lc.length = nc) (hone : ∀ v ∈ lc, v.oneCell' = true) (G : Nat → World → Prop)
  (hall : Calls Tryz.prog 122 #[.pointer (some ⟨M, 0, none⟩), .pointer (some ⟨I, pc * 4, none⟩)] w fun e w' => ∃ T, e = .returned (.pointer (some ⟨T, 0, none⟩)) ∧ G T w')
  (hG : ∀ T w', G T w' → ∃ CT lT v, w'.cell? ⟨T, 1, none⟩ = some (.slice (some ⟨CT, 0, none⟩) nc nc) ∧ T < w'.heap.size ∧ CT ≠ CB ∧ CT ≠ Db ∧ Blk w' CT lT 3 ∧ lT.length = nc ∧ Blk w' CB lc tC ∧ w'.cell? ⟨Db, n * 2 + 1, none⟩ = some v ∧ w'.frozen? ⟨Db, n * 2 + 1, none⟩ = false ∧ Db < w'.heap.size)
  (hgo : ∀ a T CT w' w2, a.tmps.size = 226 → a.defers = [] → a.tmps.getD 14 undef = .pointer none → G T w' → w'.cell? ⟨T, 1, none⟩ = some (.slice (some ⟨CT, 0, none⟩) nc nc) → Blk w2 CT lc 3 → Chg [CT] w' w2 → Q .ret a (w2.setCell ⟨Db, n * 2 + 1, none⟩ (.pointer (some ⟨T, 0, none⟩)))) : Ent addSw Q ⟨#[.pointer (some ⟨M, 0, none⟩), .pointer (some ⟨M, qo, none⟩), .int .u32 pc, .int .i64 pos, .slice (some ⟨CB, 0, none⟩) nc nc, .pointer (some ⟨F, 0, none⟩), .pointer none, u7, u8, u9, u10, u11, u12, u13, u14, u15, u16, .pointer (some ⟨Db, n * 2, none⟩), u18, u19, u20, u21, u22, u23, u24, u25, u26, u27, u28, u29, u30, u31, u32, u33, u34, u35, u36, u37, u38, u39, u40, u41, u42, u43, u44, u45, u46, u47, u48, u49, u50, u51, u52, u53, u54, u55, u56, u57, u58, u59, u60, u61, u62, u63, u64, u65, u66, u67, u68, u69, u70, u71, u72, u73, u74, u75, u76, u77, u78, u79, u80, u81, u82, u83, u84, u85, u86, u87, u88, u89, u90, u91, u92, u93, u94, u95, u96, u97, u98, u99, u100, u101, u102, u103, u104, u105, u106, u107, u108, u109, u110, u111, u112, u113, u114, u115, u116, u117, u118, u119, u120, u121, u122, u123, u124, u125, u126, u127, u128, u129, u130, u131, u132, u133, u134, u135, u136, u137, u138, u139, u140, u141, u142, u143, u144, u145, u146, u147, u148, u149, u150, u151, u152, u153, u154, u155, u156, u157, u158, u159, u160, u161, u162, u163, u164, u165, u166, u167, u168, u169, u170, u171, u172, u173, u174, u175, u176, u177, u178, u179, u180, u181, u182, u183, u184, u185, u186, u187, u188, u189, u190, u191, u192, u193, u194, u195, u196, u197, u198, u199, u200, u201, u202, u203, u204, u205, u206, u207, u208, u209, u210, u211, u212, u213, u214, u215, u216, u217, u218, u219, u220, u221, u222, u223, u224, u225], []⟩ w := by
 intro K hK
 conv => arg 2; whnf
 obtain ⟨ci, hp2⟩ := hP.insts
 have hopi := hP.op pc hp0 hpc
 have hout := hP.out pc hp0 hpc
 have harg := hP.arg pc hp0 hpc
 rw [hop] at hopi
 have hpcn : (pc : Int) < (np : Int) := by omega
 have hncp : (0 : Int) < (nc : Int) := by omega
 have HG := Lib.hid hgo
 have HK := Lib.hid hG
 have HO := Lib.hid hone
 have HL := Lib.hid hlc
 clear hgo hP hG hone hlc
 go_wp2_with fail
 conv => arg 2; whnf
 go_wp2_with (first | (go_at_call 122; (with_reducible refine hall.mono ?_); rintro e w' ⟨T, rfl, hg⟩; obtain ⟨CT, lT, vD, g1, g2, g3, g4, g5, g6, g7, g8, g9, g10⟩ := HK.out _ _ hg; have HT := Lib.hid hg; have H5 := Lib.hid g5; have H6 := Lib.hid g6; have H7 := Lib.hid g7; clear hg g5 g6 g7))
 have hneq : ∀ y : Ext w', (binOp .neq 242 (.pointer (some ⟨CT, 0, none⟩)) (.pointer (some ⟨CB, 0, none⟩))).run Tryz.prog y.now = .ok (.bool true) y.now := fun y =>
  neq_other _ _ _ _ _ _ _ (H5.out.chg (Chg.of_below y.below) (by simp)) (H7.out.chg (Chg.of_below y.below) (by simp)) g3
 refine wp_region_ext rfl (by kernel_rfl) ?_
 repeat (quiet_step (fail))
 refine wpQuiet_nil ?_
 rintro w1 ⟨y, rfl⟩
 have k1 := H5.out.chg (Chg.of_below y.below) (by simp)
 have k2 := H7.out.chg (Chg.of_below y.below) (by simp)
 have q1 : y.now.cell? ⟨Db, n * 2 + 1, none⟩ = some vD := (y.cell _ _ g10).trans g8
 have q2 : y.now.frozen? ⟨Db, n * 2 + 1, none⟩ = false := (y.frozen _ _ g10).trans g9
 have q3 := y.lt _ g10
 go_wp2_with (refine copy_blk rfl (.tmp 218) (.tmp 219) rfl CT CB nc nc nc rfl rfl lT lc 3 tC k1 k2 H6.out HL.out HO.out ?_)
 intro w2 m1 m2
 have r1 : w2.cell? ⟨Db, n * 2 + 1, none⟩ = some vD := by rw [← q1]; exact World.cell?_of_block (m2.block _ q3 (by simpa using Ne.symm g4))
 have r2 : w2.frozen? ⟨Db, n * 2 + 1, none⟩ = false := by rw [← q2]; exact World.frozen?_of_block (m2.block _ q3 (by simpa using Ne.symm g4))
 have r3 : Db < w2.heap.size := Nat.lt_of_lt_of_le q3 m2.size
 have K1 := Lib.hid m1
 have K2 := Lib.hid m2
 clear k1 k2 m1 m2 q1 q2 q3
 go_wp2_with fail
 exact HG.out _ T CT w' w2 rfl rfl rfl HT.out g1 K1.out (((Chg.of_below y.below).trans K2.out).mono (fun b hb _ => by simpa using hb))

end Go.Proofs.YtkbmigfkclnlaaaGreatDoor
namespace Go.Proofs.YtkbmigfkclnlaaaGreatDoor
open Go.RowKit Go.Rx

set_option maxRecDepth 1000000 in
theorem add_in_f {a : Act} (M qo pc : Nat) (pos : Int) (CB nc F : Nat) (tv : Value) (w : World) (Q : Exit → Act → World → Prop) (Sb Db nq nqc n : Nat) (hp0 : 0 < pc) (hpq : pc < nq) (hnq : nq ≤ 1000000) (hnn : n ≤ nq) (h0 : w.cell? ⟨M, qo, none⟩ = some (.slice (some ⟨Sb, 0, none⟩) nq nqc)) (h1 : w.cell? ⟨M, qo + 1, none⟩ = some (.slice (some ⟨Db, 0, none⟩) n nqc)) (j : Nat) (h2 : w.cell? ⟨Sb, pc, none⟩ = some (.int .u32 j)) (hj : j < n) (h3 : w.cell? ⟨Db, j * 2, none⟩ = some (.int .u32 pc)) (hgo : ∀ a, a.tmps.size = 226 → a.defers = [] → a.tmps.getD 14 undef = tv → Q .ret a w)
  (hfr : AF M qo pc pos CB nc F tv a) : addTop1.wp Tryz.prog Q a w := by
 have e := af_lit hfr
 exact Eq.mpr (congrArg (fun x => addTop1.wp Tryz.prog Q x w) e) (add_in _ _ _ _ _ _ _ _ _ _ _ _ _ _ _ _ _ _ _ _ _ _ _ _ _ _ _ _ _ _ _ _ _ _ _ _ _ _ _ _ _ _ _ _ _ _ _ _ _ _ _ _ _ _ _ _ _ _ _ _ _ _ _ _ _ _ _ _ _ _ _ _ _ _ _ _ _ _ _ _ _ _ _ _ _ _ _ _ _ _ _ _ _ _ _ _ _ _ _ _ _ _ _ _ _ _ _ _ _ _ _ _ _ _ _ _ _ _ _ _ _ _ _ _ _ _ _ _ _ _ _ _ _ _ _ _ _ _ _ _ _ _ _ _ _ _ _ _ _ _ _ _ _ _ _ _ _ _ _ _ _ _ _ _ _ _ _ _ _ _ _ _ _ _ _ _ _ _ _ _ _ _ _ _ _ _ _ _ _ _ _ _ _ _ _ _ _ _ _ _ _ _ _ _ _ _ _ _ _ _ _ _ _ _ _ _ _ _ _ M qo pc pos CB nc F tv w Q Sb Db nq nqc n hp0 hpq hnq hnn h0 h1 j h2 hj h3 hgo)

set_option maxRecDepth 1000000 in
theorem add_out_f {a : Act} (M qo pc : Nat) (pos : Int) (CB nc F : Nat) (tv : Value) (w : World) (Q : Exit → Act → World → Prop) (Sb Db nq nqc n : Nat) (hp0 : 0 < pc) (hpq : pc < nq) (hnq : nq ≤ 1000000) (hnn : n ≤ nq) (h0 : w.cell? ⟨M, qo, none⟩ = some (.slice (some ⟨Sb, 0, none⟩) nq nqc)) (h1 : w.cell? ⟨M, qo + 1, none⟩ = some (.slice (some ⟨Db, 0, none⟩) n nqc)) (j : Nat) (h2 : w.cell? ⟨Sb, pc, none⟩ = some (.int .u32 j)) (hj : n ≤ j) (hgo : ∀ a, AF M qo pc pos CB nc F tv a → Ent addTail Q a w)
  (hfr : AF M qo pc pos CB nc F tv a) : addTop1.wp Tryz.prog Q a w := by
 have e := af_lit hfr
 exact Eq.mpr (congrArg (fun x => addTop1.wp Tryz.prog Q x w) e) (add_out _ _ _ _ _ _ _ _ _ _ _ _ _ _ _ _ _ _ _ _ _ _ _ _ _ _ _ _ _ _ _ _ _ _ _ _ _ _ _ _ _ _ _ _ _ _ _ _ _ _ _ _ _ _ _ _ _ _ _ _ _ _ _ _ _ _ _ _ _ _ _ _ _ _ _ _ _ _ _ _ _ _ _ _ _ _ _ _ _ _ _ _ _ _ _ _ _ _ _ _ _ _ _ _ _ _ _ _ _ _ _ _ _ _ _ _ _ _ _ _ _ _ _ _ _ _ _ _ _ _ _ _ _ _ _ _ _ _ _ _ _ _ _ _ _ _ _ _ _ _ _ _ _ _ _ _ _ _ _ _ _ _ _ _ _ _ _ _ _ _ _ _ _ _ _ _ _ _ _ _ _ _ _ _ _ _ _ _ _ _ _ _ _ _ _ _ _ _ _ _ _ _ _ _ _ _ _ _ _ _ _ _ _ _ _ _ _ _ _ M qo pc pos CB nc F tv w Q Sb Db nq nqc n hp0 hpq hnq hnn h0 h1 j h2 hj hgo)

set_option maxRecDepth 1000000 in
theorem add_other_f {a : Act} (M qo pc : Nat) (pos : Int) (CB nc F : Nat) (tv : Value) (w : World) (Q : Exit → Act → World → Prop) (Sb Db nq nqc n : Nat) (hp0 : 0 < pc) (hpq : pc < nq) (hnq : nq ≤ 1000000) (hnn : n ≤ nq) (h0 : w.cell? ⟨M, qo, none⟩ = some (.slice (some ⟨Sb, 0, none⟩) nq nqc)) (h1 : w.cell? ⟨M, qo + 1, none⟩ = some (.slice (some ⟨Db, 0, none⟩) n nqc)) (j pc2 : Nat) (h2 : w.cell? ⟨Sb, pc, none⟩ = some (.int .u32 j)) (hj : j < n) (h3 : w.cell? ⟨Db, j * 2, none⟩ = some (.int .u32 pc2)) (hne : pc2 ≠ pc) (hgo : ∀ a, AF M qo pc pos CB nc F tv a → Ent addTail Q a w)
  (hfr : AF M qo pc pos CB nc F tv a) : addTop1.wp Tryz.prog Q a w := by
 have e := af_lit hfr
 exact Eq.mpr (congrArg (fun x => addTop1.wp Tryz.prog Q x w) e) (add_other _ _ _ _ _ _ _ _ _ _ _ _ _ _ _ _ _ _ _ _ _ _ _ _ _ _ _ _ _ _ _ _ _ _ _ _ _ _ _ _ _ _ _ _ _ _ _ _ _ _ _ _ _ _ _ _ _ _ _ _ _ _ _ _ _ _ _ _ _ _ _ _ _ _ _ _ _ _ _ _ _ _ _ _ _ _ _ _ _ _ _ _ _ _ _ _ _ _ _ _ _ _ _ _ _ _ _ _ _ _ _ _ _ _ _ _ _ _ _ _ _ _ _ _ _ _ _ _ _ _ _ _ _ _ _ _ _ _ _ _ _ _ _ _ _ _ _ _ _ _ _ _ _ _ _ _ _ _ _ _ _ _ _ _ _ _ _ _ _ _ _ _ _ _ _ _ _ _ _ _ _ _ _ _ _ _ _ _ _ _ _ _ _ _ _ _ _ _ _ _ _ _ _ _ _ _ _ _ _ _ _ _ _ _ _ _ _ _ _ M qo pc pos CB nc F tv w Q Sb Db nq nqc n hp0 hpq hnq hnn h0 h1 j pc2 h2 hj h3 hne hgo)

set_option maxRecDepth 1000000 in
theorem add_entry_f {a : Act} (M qo pc : Nat) (pos : Int) (CB nc F : Nat) (tv : Value) (w : World) (Q : Exit → Act → World → Prop) (Sb Db nq nqc n : Nat) (hp0 : 0 < pc) (hpq : pc < nq) (hnq : nq ≤ 1000000) (hnn : n ≤ nq) (h0 : w.cell? ⟨M, qo, none⟩ = some (.slice (some ⟨Sb, 0, none⟩) nq nqc)) (h1 : w.cell? ⟨M, qo + 1, none⟩ = some (.slice (some ⟨Db, 0, none⟩) n nqc)) (hnc : n < nqc) (hncb : nqc ≤ 1000000) (x2 x4 x5 : Value) (h2 : w.cell? ⟨Sb, pc, none⟩ = some x2) (h4 : w.cell? ⟨Db, n * 2, none⟩ = some x4) (h5 : w.cell? ⟨Db, n * 2 + 1, none⟩ = some x5)
  (f1 : w.frozen? ⟨M, qo + 1, none⟩ = false) (f2 : w.frozen? ⟨Db, n * 2, none⟩ = false) (f3 : w.frozen? ⟨Db, n * 2 + 1, none⟩ = false) (f4 : w.frozen? ⟨Sb, pc, none⟩ = false) (hM : M < w.heap.size) (hD : Db < w.heap.size) (hS : Sb < w.heap.size)
  (d1 : M ≠ Db) (d2 : M ≠ Sb) (d3 : Db ≠ Sb)
  (hgo : ∀ a w1, AG M qo pc pos CB nc F tv Db n a → w1 = (((w.setCell ⟨M, qo + 1, none⟩ (.slice (some ⟨Db, 0, none⟩) (n + 1) nqc)).setCell ⟨Db, n * 2 + 1, none⟩ (.pointer none)).setCell ⟨Db, n * 2, none⟩ (.int .u32 pc)).setCell ⟨Sb, pc, none⟩ (.int .u32 n) → Ent addSw Q a w1)
  (hfr : AF M qo pc pos CB nc F tv a) : Ent addTail Q a w := by
 have e := af_lit hfr
 exact Eq.mpr (congrArg (fun x => Ent addTail Q x w) e) (add_entry _ _ _ _ _ _ _ _ _ _ _ _ _ _ _ _ _ _ _ _ _ _ _ _ _ _ _ _ _ _ _ _ _ _ _ _ _ _ _ _ _ _ _ _ _ _ _ _ _ _ _ _ _ _ _ _ _ _ _ _ _ _ _ _ _ _ _ _ _ _ _ _ _ _ _ _ _ _ _ _ _ _ _ _ _ _ _ _ _ _ _ _ _ _ _ _ _ _ _ _ _ _ _ _ _ _ _ _ _ _ _ _ _ _ _ _ _ _ _ _ _ _ _ _ _ _ _ _ _ _ _ _ _ _ _ _ _ _ _ _ _ _ _ _ _ _ _ _ _ _ _ _ _ _ _ _ _ _ _ _ _ _ _ _ _ _ _ _ _ _ _ _ _ _ _ _ _ _ _ _ _ _ _ _ _ _ _ _ _ _ _ _ _ _ _ _ _ _ _ _ _ _ _ _ _ _ _ _ _ _ _ _ _ _ _ _ _ _ _ M qo pc pos CB nc F tv w Q Sb Db nq nqc n hp0 hpq hnq hnn h0 h1 hnc hncb x2 x4 x5 h2 h4 h5 f1 f2 f3 f4 hM hD hS d1 d2 d3 hgo)

set_option maxRecDepth 1000000 in
theorem add_nop_f {a : Act} (M qo pc : Nat) (pos : Int) (CB nc F : Nat) (tv : Value) (w : World) (Q : Exit → Act → World → Prop) (N R PR I np : Nat) (pg : Nat → Inst) (hP : ProgAt w N R PR I np pg) (hp0 : 0 < pc) (hpc : pc < np) (hnp : np ≤ 1000) (hm1 : w.cell? ⟨M, 1, none⟩ = some (.pointer (some ⟨PR, 0, none⟩))) (Db n : Nat) (hop : (pg pc).op = 6) (hgo : ∀ a, AF M qo (pg pc).out pos CB nc F tv a → Q (.goto 0) a w)
  (hfr : AG M qo pc pos CB nc F tv Db n a) : Ent addSw Q a w := by
 have e := ag_lit hfr
 exact Eq.mpr (congrArg (fun x => Ent addSw Q x w) e) (add_nop _ _ _ _ _ _ _ _ _ _ _ _ _ _ _ _ _ _ _ _ _ _ _ _ _ _ _ _ _ _ _ _ _ _ _ _ _ _ _ _ _ _ _ _ _ _ _ _ _ _ _ _ _ _ _ _ _ _ _ _ _ _ _ _ _ _ _ _ _ _ _ _ _ _ _ _ _ _ _ _ _ _ _ _ _ _ _ _ _ _ _ _ _ _ _ _ _ _ _ _ _ _ _ _ _ _ _ _ _ _ _ _ _ _ _ _ _ _ _ _ _ _ _ _ _ _ _ _ _ _ _ _ _ _ _ _ _ _ _ _ _ _ _ _ _ _ _ _ _ _ _ _ _ _ _ _ _ _ _ _ _ _ _ _ _ _ _ _ _ _ _ _ _ _ _ _ _ _ _ _ _ _ _ _ _ _ _ _ _ _ _ _ _ _ _ _ _ _ _ _ _ _ _ _ _ _ _ _ _ _ _ _ _ _ _ _ _ _ M qo pc pos CB nc F tv w Q N R PR I np pg hP hp0 hpc hnp hm1 Db n hop hgo)

set_option maxRecDepth 1000000 in
theorem add_alt_f {a : Act} (M qo pc : Nat) (pos : Int) (CB nc F : Nat) (tv : Value) (w : World) (Q : Exit → Act → World → Prop) (N R PR I np : Nat) (pg : Nat → Inst) (hP : ProgAt w N R PR I np pg) (hp0 : 0 < pc) (hpc : pc < np) (hnp : np ≤ 1000) (hm1 : w.cell? ⟨M, 1, none⟩ = some (.pointer (some ⟨PR, 0, none⟩))) (Db n : Nat) (hop : (pg pc).op = 0) (G : Value → World → Prop)
  (hcall : Calls Tryz.prog 108 #[.pointer (some ⟨M, 0, none⟩), .pointer (some ⟨M, qo, none⟩), .int .u32 (pg pc).out, .int .i64 pos, .slice (some ⟨CB, 0, none⟩) nc nc, .pointer (some ⟨F, 0, none⟩), tv] w fun e w' => ∃ t, e = .returned t ∧ G t w')
  (hG : ∀ t w', G t w' → ProgAt w' N R PR I np pg) (hgo : ∀ a t w', G t w' → AF M qo (pg pc).arg pos CB nc F t a → Q (.goto 0) a w')
  (hfr : AG M qo pc pos CB nc F tv Db n a) : Ent addSw Q a w := by
 have e := ag_lit hfr
 exact Eq.mpr (congrArg (fun x => Ent addSw Q x w) e) (add_alt _ _ _ _ _ _ _ _ _ _ _ _ _ _ _ _ _ _ _ _ _ _ _ _ _ _ _ _ _ _ _ _ _ _ _ _ _ _ _ _ _ _ _ _ _ _ _ _ _ _ _ _ _ _ _ _ _ _ _ _ _ _ _ _ _ _ _ _ _ _ _ _ _ _ _ _ _ _ _ _ _ _ _ _ _ _ _ _ _ _ _ _ _ _ _ _ _ _ _ _ _ _ _ _ _ _ _ _ _ _ _ _ _ _ _ _ _ _ _ _ _ _ _ _ _ _ _ _ _ _ _ _ _ _ _ _ _ _ _ _ _ _ _ _ _ _ _ _ _ _ _ _ _ _ _ _ _ _ _ _ _ _ _ _ _ _ _ _ _ _ _ _ _ _ _ _ _ _ _ _ _ _ _ _ _ _ _ _ _ _ _ _ _ _ _ _ _ _ _ _ _ _ _ _ _ _ _ _ _ _ _ _ _ _ _ _ _ _ M qo pc pos CB nc F tv w Q N R PR I np pg hP hp0 hpc hnp hm1 Db n hop G hcall hG hgo)

set_option maxRecDepth 1000000 in
theorem add_empty4t_f {a : Act} (M qo pc : Nat) (pos : Int) (CB nc F : Nat) (tv : Value) (w : World) (Q : Exit → Act → World → Prop) (N R PR I np : Nat) (pg : Nat → Inst) (hP : ProgAt w N R PR I np pg) (hp0 : 0 < pc) (hpc : pc < np) (hnp : np ≤ 1000) (hm1 : w.cell? ⟨M, 1, none⟩ = some (.pointer (some ⟨PR, 0, none⟩))) (Db n : Nat) (hop : (pg pc).op = 3) (har : (pg pc).arg = 4) (fl : Int) (hF : w.cell? ⟨F, 0, none⟩ = some (.int .u64 fl)) (hFl : F < w.heap.size)
  (hmt2 : ∀ w, Calls Tryz.prog 121 #[.int .u64 fl, .int .u8 4] w fun e w' => e = .returned (.bool true) ∧ w' = w) (hgo : ∀ a, AF M qo (pg pc).out pos CB nc F tv a → ∀ y : Ext w, Q (.goto 0) a y.now)
  (hfr : AG M qo pc pos CB nc F tv Db n a) : Ent addSw Q a w := by
 have e := ag_lit hfr
 exact Eq.mpr (congrArg (fun x => Ent addSw Q x w) e) (add_empty4t _ _ _ _ _ _ _ _ _ _ _ _ _ _ _ _ _ _ _ _ _ _ _ _ _ _ _ _ _ _ _ _ _ _ _ _ _ _ _ _ _ _ _ _ _ _ _ _ _ _ _ _ _ _ _ _ _ _ _ _ _ _ _ _ _ _ _ _ _ _ _ _ _ _ _ _ _ _ _ _ _ _ _ _ _ _ _ _ _ _ _ _ _ _ _ _ _ _ _ _ _ _ _ _ _ _ _ _ _ _ _ _ _ _ _ _ _ _ _ _ _ _ _ _ _ _ _ _ _ _ _ _ _ _ _ _ _ _ _ _ _ _ _ _ _ _ _ _ _ _ _ _ _ _ _ _ _ _ _ _ _ _ _ _ _ _ _ _ _ _ _ _ _ _ _ _ _ _ _ _ _ _ _ _ _ _ _ _ _ _ _ _ _ _ _ _ _ _ _ _ _ _ _ _ _ _ _ _ _ _ _ _ _ _ _ _ _ _ M qo pc pos CB nc F tv w Q N R PR I np pg hP hp0 hpc hnp hm1 Db n hop har fl hF hFl hmt2 hgo)

set_option maxRecDepth 1000000 in
theorem add_empty4f_f {a : Act} (M qo pc : Nat) (pos : Int) (CB nc F : Nat) (tv : Value) (w : World) (Q : Exit → Act → World → Prop) (N R PR I np : Nat) (pg : Nat → Inst) (hP : ProgAt w N R PR I np pg) (hp0 : 0 < pc) (hpc : pc < np) (hnp : np ≤ 1000) (hm1 : w.cell? ⟨M, 1, none⟩ = some (.pointer (some ⟨PR, 0, none⟩))) (Db n : Nat) (hop : (pg pc).op = 3) (har : (pg pc).arg = 4) (fl : Int) (hF : w.cell? ⟨F, 0, none⟩ = some (.int .u64 fl)) (hFl : F < w.heap.size)
  (hmt2 : ∀ w, Calls Tryz.prog 121 #[.int .u64 fl, .int .u8 4] w fun e w' => e = .returned (.bool false) ∧ w' = w) (hgo : ∀ a, a.tmps.size = 226 → a.defers = [] → a.tmps.getD 14 undef = tv → ∀ y : Ext w, Q .ret a y.now)
  (hfr : AG M qo pc pos CB nc F tv Db n a) : Ent addSw Q a w := by
 have e := ag_lit hfr
 exact Eq.mpr (congrArg (fun x => Ent addSw Q x w) e) (add_empty4f _ _ _ _ _ _ _ _ _ _ _ _ _ _ _ _ _ _ _ _ _ _ _ _ _ _ _ _ _ _ _ _ _ _ _ _ _ _ _ _ _ _ _ _ _ _ _ _ _ _ _ _ _ _ _ _ _ _ _ _ _ _ _ _ _ _ _ _ _ _ _ _ _ _ _ _ _ _ _ _ _ _ _ _ _ _ _ _ _ _ _ _ _ _ _ _ _ _ _ _ _ _ _ _ _ _ _ _ _ _ _ _ _ _ _ _ _ _ _ _ _ _ _ _ _ _ _ _ _ _ _ _ _ _ _ _ _ _ _ _ _ _ _ _ _ _ _ _ _ _ _ _ _ _ _ _ _ _ _ _ _ _ _ _ _ _ _ _ _ _ _ _ _ _ _ _ _ _ _ _ _ _ _ _ _ _ _ _ _ _ _ _ _ _ _ _ _ _ _ _ _ _ _ _ _ _ _ _ _ _ _ _ _ _ _ _ _ _ M qo pc pos CB nc F tv w Q N R PR I np pg hP hp0 hpc hnp hm1 Db n hop har fl hF hFl hmt2 hgo)

set_option maxRecDepth 1000000 in
theorem add_empty8t_f {a : Act} (M qo pc : Nat) (pos : Int) (CB nc F : Nat) (tv : Value) (w : World) (Q : Exit → Act → World → Prop) (N R PR I np : Nat) (pg : Nat → Inst) (hP : ProgAt w N R PR I np pg) (hp0 : 0 < pc) (hpc : pc < np) (hnp : np ≤ 1000) (hm1 : w.cell? ⟨M, 1, none⟩ = some (.pointer (some ⟨PR, 0, none⟩))) (Db n : Nat) (hop : (pg pc).op = 3) (har : (pg pc).arg = 8) (fl : Int) (hF : w.cell? ⟨F, 0, none⟩ = some (.int .u64 fl)) (hFl : F < w.heap.size)
  (hmt2 : ∀ w, Calls Tryz.prog 121 #[.int .u64 fl, .int .u8 8] w fun e w' => e = .returned (.bool true) ∧ w' = w) (hgo : ∀ a, AF M qo (pg pc).out pos CB nc F tv a → ∀ y : Ext w, Q (.goto 0) a y.now)
  (hfr : AG M qo pc pos CB nc F tv Db n a) : Ent addSw Q a w := by
 have e := ag_lit hfr
 exact Eq.mpr (congrArg (fun x => Ent addSw Q x w) e) (add_empty8t _ _ _ _ _ _ _ _ _ _ _ _ _ _ _ _ _ _ _ _ _ _ _ _ _ _ _ _ _ _ _ _ _ _ _ _ _ _ _ _ _ _ _ _ _ _ _ _ _ _ _ _ _ _ _ _ _ _ _ _ _ _ _ _ _ _ _ _ _ _ _ _ _ _ _ _ _ _ _ _ _ _ _ _ _ _ _ _ _ _ _ _ _ _ _ _ _ _ _ _ _ _ _ _ _ _ _ _ _ _ _ _ _ _ _ _ _ _ _ _ _ _ _ _ _ _ _ _ _ _ _ _ _ _ _ _ _ _ _ _ _ _ _ _ _ _ _ _ _ _ _ _ _ _ _ _ _ _ _ _ _ _ _ _ _ _ _ _ _ _ _ _ _ _ _ _ _ _ _ _ _ _ _ _ _ _ _ _ _ _ _ _ _ _ _ _ _ _ _ _ _ _ _ _ _ _ _ _ _ _ _ _ _ _ _ _ _ _ M qo pc pos CB nc F tv w Q N R PR I np pg hP hp0 hpc hnp hm1 Db n hop har fl hF hFl hmt2 hgo)

set_option maxRecDepth 1000000 in
theorem add_empty8f_f {a : Act} (M qo pc : Nat) (pos : Int) (CB nc F : Nat) (tv : Value) (w : World) (Q : Exit → Act → World → Prop) (N R PR I np : Nat) (pg : Nat → Inst) (hP : ProgAt w N R PR I np pg) (hp0 : 0 < pc) (hpc : pc < np) (hnp : np ≤ 1000) (hm1 : w.cell? ⟨M, 1, none⟩ = some (.pointer (some ⟨PR, 0, none⟩))) (Db n : Nat) (hop : (pg pc).op = 3) (har : (pg pc).arg = 8) (fl : Int) (hF : w.cell? ⟨F, 0, none⟩ = some (.int .u64 fl)) (hFl : F < w.heap.size)
  (hmt2 : ∀ w, Calls Tryz.prog 121 #[.int .u64 fl, .int .u8 8] w fun e w' => e = .returned (.bool false) ∧ w' = w) (hgo : ∀ a, a.tmps.size = 226 → a.defers = [] → a.tmps.getD 14 undef = tv → ∀ y : Ext w, Q .ret a y.now)
  (hfr : AG M qo pc pos CB nc F tv Db n a) : Ent addSw Q a w := by
 have e := ag_lit hfr
 exact Eq.mpr (congrArg (fun x => Ent addSw Q x w) e) (add_empty8f _ _ _ _ _ _ _ _ _ _ _ _ _ _ _ _ _ _ _ _ _ _ _ _ _ _ _ _ _ _ _ _ _ _ _ _ _ _ _ _ _ _ _ _ _ _ _ _ _ _ _ _ _ _ _ _ _ _ _ _ _ _ _ _ _ _ _ _ _ _ _ _ _ _ _ _ _ _ _ _ _ _ _ _ _ _ _ _ _ _ _ _ _ _ _ _ _ _ _ _ _ _ _ _ _ _ _ _ _ _ _ _ _ _ _ _ _ _ _ _ _ _ _ _ _ _ _ _ _ _ _ _ _ _ _ _ _ _ _ _ _ _ _ _ _ _ _ _ _ _ _ _ _ _ _ _ _ _ _ _ _ _ _ _ _ _ _ _ _ _ _ _ _ _ _ _ _ _ _ _ _ _ _ _ _ _ _ _ _ _ _ _ _ _ _ _ _ _ _ _ _ _ _ _ _ _ _ _ _ _ _ _ _ _ _ _ _ _ M qo pc pos CB nc F tv w Q N R PR I np pg hP hp0 hpc hnp hm1 Db n hop har fl hF hFl hmt2 hgo)

set_option maxRecDepth 1000000 in
theorem add_cap_f {a : Act} (M qo pc : Nat) (pos : Int) (CB nc F : Nat) (tv : Value) (w : World) (Q : Exit → Act → World → Prop) (N R PR I np : Nat) (pg : Nat → Inst) (hP : ProgAt w N R PR I np pg) (hp0 : 0 < pc) (hpc : pc < np) (hnp : np ≤ 1000) (hm1 : w.cell? ⟨M, 1, none⟩ = some (.pointer (some ⟨PR, 0, none⟩))) (Db n : Nat) (hop : (pg pc).op = 2) (hK : (pg pc).arg < nc) (hnc : nc < 1000) (v : Int) (hv : w.cell? ⟨CB, (pg pc).arg, none⟩ = some (.int .i64 v)) (hvf : w.frozen? ⟨CB, (pg pc).arg, none⟩ = false) (hCl : CB < w.heap.size) (hIC : I ≠ CB)
  (G : World → Prop) (hcall : Calls Tryz.prog 108 #[.pointer (some ⟨M, 0, none⟩), .pointer (some ⟨M, qo, none⟩), .int .u32 (pg pc).out, .int .i64 pos, .slice (some ⟨CB, 0, none⟩) nc nc, .pointer (some ⟨F, 0, none⟩), .pointer none] (w.setCell ⟨CB, (pg pc).arg, none⟩ (.int .i64 pos)) fun e w' => ∃ t, e = .returned t ∧ G w')
  (hG : ∀ w', G w' → ProgAt w' N R PR I np pg ∧ (∃ v', w'.cell? ⟨CB, (pg pc).arg, none⟩ = some v') ∧ w'.frozen? ⟨CB, (pg pc).arg, none⟩ = false ∧ CB < w'.heap.size)
  (hgo : ∀ a w', G w' → a.tmps.size = 226 → a.defers = [] → a.tmps.getD 14 undef = tv → Q .ret a (w'.setCell ⟨CB, (pg pc).arg, none⟩ (.int .i64 v)))
  (hfr : AG M qo pc pos CB nc F tv Db n a) : Ent addSw Q a w := by
 have e := ag_lit hfr
 exact Eq.mpr (congrArg (fun x => Ent addSw Q x w) e) (add_cap _ _ _ _ _ _ _ _ _ _ _ _ _ _ _ _ _ _ _ _ _ _ _ _ _ _ _ _ _ _ _ _ _ _ _ _ _ _ _ _ _ _ _ _ _ _ _ _ _ _ _ _ _ _ _ _ _ _ _ _ _ _ _ _ _ _ _ _ _ _ _ _ _ _ _ _ _ _ _ _ _ _ _ _ _ _ _ _ _ _ _ _ _ _ _ _ _ _ _ _ _ _ _ _ _ _ _ _ _ _ _ _ _ _ _ _ _ _ _ _ _ _ _ _ _ _ _ _ _ _ _ _ _ _ _ _ _ _ _ _ _ _ _ _ _ _ _ _ _ _ _ _ _ _ _ _ _ _ _ _ _ _ _ _ _ _ _ _ _ _ _ _ _ _ _ _ _ _ _ _ _ _ _ _ _ _ _ _ _ _ _ _ _ _ _ _ _ _ _ _ _ _ _ _ _ _ _ _ _ _ _ _ _ _ _ _ _ _ M qo pc pos CB nc F tv w Q N R PR I np pg hP hp0 hpc hnp hm1 Db n hop hK hnc v hv hvf hCl hIC G hcall hG hgo)

set_option maxRecDepth 1000000 in
theorem add_old4_f {a : Act} (M qo pc : Nat) (pos : Int) (CB nc F : Nat) (T : Nat) (w : World) (Q : Exit → Act → World → Prop) (N R PR I np : Nat) (pg : Nat → Inst) (hP : ProgAt w N R PR I np pg) (hp0 : 0 < pc) (hpc : pc < np) (hnp : np ≤ 1000) (hm1 : w.cell? ⟨M, 1, none⟩ = some (.pointer (some ⟨PR, 0, none⟩))) (Db n : Nat) (hop : (pg pc).op = 4) (hnc : 0 < nc) (hnc2 : nc < 1000) (v0 : Value) (hT0 : w.cell? ⟨T, 0, none⟩ = some v0) (hT1 : w.cell? ⟨T, 1, none⟩ = some (.slice (some ⟨CB, 0, none⟩) nc nc)) (hTf : w.frozen? ⟨T, 0, none⟩ = false) (hTl : T < w.heap.size)
  (v1 : Value) (hD : w.cell? ⟨Db, n * 2 + 1, none⟩ = some v1) (hDf : w.frozen? ⟨Db, n * 2 + 1, none⟩ = false) (hDl : Db < w.heap.size) (hTD : T ≠ Db)
  (hgo : ∀ a, a.tmps.size = 226 → a.defers = [] → a.tmps.getD 14 undef = .pointer none → ∀ w2, w2 = (w.setCell ⟨T, 0, none⟩ (.pointer (some ⟨I, pc * 4, none⟩))) → ∀ y : Ext w2, Q .ret a (y.now.setCell ⟨Db, n * 2 + 1, none⟩ (.pointer (some ⟨T, 0, none⟩))))
  (hfr : AG M qo pc pos CB nc F (.pointer (some ⟨T, 0, none⟩)) Db n a) : Ent addSw Q a w := by
 have e := ag_lit hfr
 exact Eq.mpr (congrArg (fun x => Ent addSw Q x w) e) (add_old4 _ _ _ _ _ _ _ _ _ _ _ _ _ _ _ _ _ _ _ _ _ _ _ _ _ _ _ _ _ _ _ _ _ _ _ _ _ _ _ _ _ _ _ _ _ _ _ _ _ _ _ _ _ _ _ _ _ _ _ _ _ _ _ _ _ _ _ _ _ _ _ _ _ _ _ _ _ _ _ _ _ _ _ _ _ _ _ _ _ _ _ _ _ _ _ _ _ _ _ _ _ _ _ _ _ _ _ _ _ _ _ _ _ _ _ _ _ _ _ _ _ _ _ _ _ _ _ _ _ _ _ _ _ _ _ _ _ _ _ _ _ _ _ _ _ _ _ _ _ _ _ _ _ _ _ _ _ _ _ _ _ _ _ _ _ _ _ _ _ _ _ _ _ _ _ _ _ _ _ _ _ _ _ _ _ _ _ _ _ _ _ _ _ _ _ _ _ _ _ _ _ _ _ _ _ _ _ _ _ _ _ _ _ _ _ _ _ _ M qo pc pos CB nc F T w Q N R PR I np pg hP hp0 hpc hnp hm1 Db n hop hnc hnc2 v0 hT0 hT1 hTf hTl v1 hD hDf hDl hTD hgo)

set_option maxRecDepth 1000000 in
theorem add_old7_f {a : Act} (M qo pc : Nat) (pos : Int) (CB nc F : Nat) (T : Nat) (w : World) (Q : Exit → Act → World → Prop) (N R PR I np : Nat) (pg : Nat → Inst) (hP : ProgAt w N R PR I np pg) (hp0 : 0 < pc) (hpc : pc < np) (hnp : np ≤ 1000) (hm1 : w.cell? ⟨M, 1, none⟩ = some (.pointer (some ⟨PR, 0, none⟩))) (Db n : Nat) (hop : (pg pc).op = 7) (hnc : 0 < nc) (hnc2 : nc < 1000) (v0 : Value) (hT0 : w.cell? ⟨T, 0, none⟩ = some v0) (hT1 : w.cell? ⟨T, 1, none⟩ = some (.slice (some ⟨CB, 0, none⟩) nc nc)) (hTf : w.frozen? ⟨T, 0, none⟩ = false) (hTl : T < w.heap.size)
  (v1 : Value) (hD : w.cell? ⟨Db, n * 2 + 1, none⟩ = some v1) (hDf : w.frozen? ⟨Db, n * 2 + 1, none⟩ = false) (hDl : Db < w.heap.size) (hTD : T ≠ Db)
  (hgo : ∀ a, a.tmps.size = 226 → a.defers = [] → a.tmps.getD 14 undef = .pointer none → ∀ w2, w2 = (w.setCell ⟨T, 0, none⟩ (.pointer (some ⟨I, pc * 4, none⟩))) → ∀ y : Ext w2, Q .ret a (y.now.setCell ⟨Db, n * 2 + 1, none⟩ (.pointer (some ⟨T, 0, none⟩))))
  (hfr : AG M qo pc pos CB nc F (.pointer (some ⟨T, 0, none⟩)) Db n a) : Ent addSw Q a w := by
 have e := ag_lit hfr
 exact Eq.mpr (congrArg (fun x => Ent addSw Q x w) e) (add_old7 _ _ _ _ _ _ _ _ _ _ _ _ _ _ _ _ _ _ _ _ _ _ _ _ _ _ _ _ _ _ _ _ _ _ _ _ _ _ _ _ _ _ _ _ _ _ _ _ _ _ _ _ _ _ _ _ _ _ _ _ _ _ _ _ _ _ _ _ _ _ _ _ _ _ _ _ _ _ _ _ _ _ _ _ _ _ _ _ _ _ _ _ _ _ _ _ _ _ _ _ _ _ _ _ _ _ _ _ _ _ _ _ _ _ _ _ _ _ _ _ _ _ _ _ _ _ _ _ _ _ _ _ _ _ _ _ _ _ _ _ _ _ _ _ _ _ _ _ _ _ _ _ _ _ _ _ _ _ _ _ _ _ _ _ _ _ _ _ _ _ _ _ _ _ _ _ _ _ _ _ _ _ _ _ _ _ _ _ _ _ _ _ _ _ _ _ _ _ _ _ _ _ _ _ _ _ _ _ _ _ _ _ _ _ _ _ _ _ M qo pc pos CB nc F T w Q N R PR I np pg hP hp0 hpc hnp hm1 Db n hop hnc hnc2 v0 hT0 hT1 hTf hTl v1 hD hDf hDl hTD hgo)

set_option maxRecDepth 1000000 in
theorem add_old8_f {a : Act} (M qo pc : Nat) (pos : Int) (CB nc F : Nat) (T : Nat) (w : World) (Q : Exit → Act → World → Prop) (N R PR I np : Nat) (pg : Nat → Inst) (hP : ProgAt w N R PR I np pg) (hp0 : 0 < pc) (hpc : pc < np) (hnp : np ≤ 1000) (hm1 : w.cell? ⟨M, 1, none⟩ = some (.pointer (some ⟨PR, 0, none⟩))) (Db n : Nat) (hop : (pg pc).op = 8) (hnc : 0 < nc) (hnc2 : nc < 1000) (v0 : Value) (hT0 : w.cell? ⟨T, 0, none⟩ = some v0) (hT1 : w.cell? ⟨T, 1, none⟩ = some (.slice (some ⟨CB, 0, none⟩) nc nc)) (hTf : w.frozen? ⟨T, 0, none⟩ = false) (hTl : T < w.heap.size)
  (v1 : Value) (hD : w.cell? ⟨Db, n * 2 + 1, none⟩ = some v1) (hDf : w.frozen? ⟨Db, n * 2 + 1, none⟩ = false) (hDl : Db < w.heap.size) (hTD : T ≠ Db)
  (hgo : ∀ a, a.tmps.size = 226 → a.defers = [] → a.tmps.getD 14 undef = .pointer none → ∀ w2, w2 = (w.setCell ⟨T, 0, none⟩ (.pointer (some ⟨I, pc * 4, none⟩))) → ∀ y : Ext w2, Q .ret a (y.now.setCell ⟨Db, n * 2 + 1, none⟩ (.pointer (some ⟨T, 0, none⟩))))
  (hfr : AG M qo pc pos CB nc F (.pointer (some ⟨T, 0, none⟩)) Db n a) : Ent addSw Q a w := by
 have e := ag_lit hfr
 exact Eq.mpr (congrArg (fun x => Ent addSw Q x w) e) (add_old8 _ _ _ _ _ _ _ _ _ _ _ _ _ _ _ _ _ _ _ _ _ _ _ _ _ _ _ _ _ _ _ _ _ _ _ _ _ _ _ _ _ _ _ _ _ _ _ _ _ _ _ _ _ _ _ _ _ _ _ _ _ _ _ _ _ _ _ _ _ _ _ _ _ _ _ _ _ _ _ _ _ _ _ _ _ _ _ _ _ _ _ _ _ _ _ _ _ _ _ _ _ _ _ _ _ _ _ _ _ _ _ _ _ _ _ _ _ _ _ _ _ _ _ _ _ _ _ _ _ _ _ _ _ _ _ _ _ _ _ _ _ _ _ _ _ _ _ _ _ _ _ _ _ _ _ _ _ _ _ _ _ _ _ _ _ _ _ _ _ _ _ _ _ _ _ _ _ _ _ _ _ _ _ _ _ _ _ _ _ _ _ _ _ _ _ _ _ _ _ _ _ _ _ _ _ _ _ _ _ _ _ _ _ _ _ _ _ _ M qo pc pos CB nc F T w Q N R PR I np pg hP hp0 hpc hnp hm1 Db n hop hnc hnc2 v0 hT0 hT1 hTf hTl v1 hD hDf hDl hTD hgo)

set_option maxRecDepth 1000000 in
theorem add_new4_f {a : Act} (M qo pc : Nat) (pos : Int) (CB nc F : Nat) (w : World) (Q : Exit → Act → World → Prop) (N R PR I np : Nat) (pg : Nat → Inst) (hP : ProgAt w N R PR I np pg) (hp0 : 0 < pc) (hpc : pc < np) (hnp : np ≤ 1000) (hm1 : w.cell? ⟨M, 1, none⟩ = some (.pointer (some ⟨PR, 0, none⟩))) (Db n : Nat) (hop : (pg pc).op = 4) (hnc : 0 < nc) (hnc2 : nc < 1000) (lc : List Value) (tC : TypeId) (hlc : lc.length = nc) (hone : ∀ v ∈ lc, v.oneCell' = true) (G : Nat → World → Prop)
  (hall : Calls Tryz.prog 122 #[.pointer (some ⟨M, 0, none⟩), .pointer (some ⟨I, pc * 4, none⟩)] w fun e w' => ∃ T, e = .returned (.pointer (some ⟨T, 0, none⟩)) ∧ G T w')
  (hG : ∀ T w', G T w' → ∃ CT lT v, w'.cell? ⟨T, 1, none⟩ = some (.slice (some ⟨CT, 0, none⟩) nc nc) ∧ T < w'.heap.size ∧ CT ≠ CB ∧ CT ≠ Db ∧ Blk w' CT lT 3 ∧ lT.length = nc ∧ Blk w' CB lc tC ∧ w'.cell? ⟨Db, n * 2 + 1, none⟩ = some v ∧ w'.frozen? ⟨Db, n * 2 + 1, none⟩ = false ∧ Db < w'.heap.size)
  (hgo : ∀ a T CT w' w2, a.tmps.size = 226 → a.defers = [] → a.tmps.getD 14 undef = .pointer none → G T w' → w'.cell? ⟨T, 1, none⟩ = some (.slice (some ⟨CT, 0, none⟩) nc nc) → Blk w2 CT lc 3 → Chg [CT] w' w2 → Q .ret a (w2.setCell ⟨Db, n * 2 + 1, none⟩ (.pointer (some ⟨T, 0, none⟩))))
  (hfr : AG M qo pc pos CB nc F (.pointer none) Db n a) : Ent addSw Q a w := by
 have e := ag_lit hfr
 exact Eq.mpr (congrArg (fun x => Ent addSw Q x w) e) (add_new4 _ _ _ _ _ _ _ _ _ _ _ _ _ _ _ _ _ _ _ _ _ _ _ _ _ _ _ _ _ _ _ _ _ _ _ _ _ _ _ _ _ _ _ _ _ _ _ _ _ _ _ _ _ _ _ _ _ _ _ _ _ _ _ _ _ _ _ _ _ _ _ _ _ _ _ _ _ _ _ _ _ _ _ _ _ _ _ _ _ _ _ _ _ _ _ _ _ _ _ _ _ _ _ _ _ _ _ _ _ _ _ _ _ _ _ _ _ _ _ _ _ _ _ _ _ _ _ _ _ _ _ _ _ _ _ _ _ _ _ _ _ _ _ _ _ _ _ _ _ _ _ _ _ _ _ _ _ _ _ _ _ _ _ _ _ _ _ _ _ _ _ _ _ _ _ _ _ _ _ _ _ _ _ _ _ _ _ _ _ _ _ _ _ _ _ _ _ _ _ _ _ _ _ _ _ _ _ _ _ _ _ _ _ _ _ _ _ _ M qo pc pos CB nc F w Q N R PR I np pg hP hp0 hpc hnp hm1 Db n hop hnc hnc2 lc tC hlc hone G hall hG hgo)

set_option maxRecDepth 1000000 in
theorem add_new7_f {a : Act} (M qo pc : Nat) (pos : Int) (CB nc F : Nat) (w : World) (Q : Exit → Act → World → Prop) (N R PR I np : Nat) (pg : Nat → Inst) (hP : ProgAt w N R PR I np pg) (hp0 : 0 < pc) (hpc : pc < np) (hnp : np ≤ 1000) (hm1 : w.cell? ⟨M, 1, none⟩ = some (.pointer (some ⟨PR, 0, none⟩))) (Db n : Nat) (hop : (pg pc).op = 7) (hnc : 0 < nc) (hnc2 : nc < 1000) (lc : List Value) (tC : TypeId) (hlc : lc.length = nc) (hone : ∀ v ∈ lc, v.oneCell' = true) (G : Nat → World → Prop)
  (hall : Calls Tryz.prog 122 #[.pointer (some ⟨M, 0, none⟩), .pointer (some ⟨I, pc * 4, none⟩)] w fun e w' => ∃ T, e = .returned (.pointer (some ⟨T, 0, none⟩)) ∧ G T w')
  (hG : ∀ T w', G T w' → ∃ CT lT v, w'.cell? ⟨T, 1, none⟩ = some (.slice (some ⟨CT, 0, none⟩) nc nc) ∧ T < w'.heap.size ∧ CT ≠ CB ∧ CT ≠ Db ∧ Blk w' CT lT 3 ∧ lT.length = nc ∧ Blk w' CB lc tC ∧ w'.cell? ⟨Db, n * 2 + 1, none⟩ = some v ∧ w'.frozen? ⟨Db, n * 2 + 1, none⟩ = false ∧ Db < w'.heap.size)
  (hgo : ∀ a T CT w' w2, a.tmps.size = 226 → a.defers = [] → a.tmps.getD 14 undef = .pointer none → G T w' → w'.cell? ⟨T, 1, none⟩ = some (.slice (some ⟨CT, 0, none⟩) nc nc) → Blk w2 CT lc 3 → Chg [CT] w' w2 → Q .ret a (w2.setCell ⟨Db, n * 2 + 1, none⟩ (.pointer (some ⟨T, 0, none⟩))))
  (hfr : AG M qo pc pos CB nc F (.pointer none) Db n a) : Ent addSw Q a w := by
 have e := ag_lit hfr
 exact Eq.mpr (congrArg (fun x => Ent addSw Q x w) e) (add_new7 _ _ _ _ _ _ _ _ _ _ _ _ _ _ _ _ _ _ _ _ _ _ _ _ _ _ _ _ _ _ _ _ _ _ _ _ _ _ _ _ _ _ _ _ _ _ _ _ _ _ _ _ _ _ _ _ _ _ _ _ _ _ _ _ _ _ _ _ _ _ _ _ _ _ _ _ _ _ _ _ _ _ _ _ _ _ _ _ _ _ _ _ _ _ _ _ _ _ _ _ _ _ _ _ _ _ _ _ _ _ _ _ _ _ _ _ _ _ _ _ _ _ _ _ _ _ _ _ _ _ _ _ _ _ _ _ _ _ _ _ _ _ _ _ _ _ _ _ _ _ _ _ _ _ _ _ _ _ _ _ _ _ _ _ _ _ _ _ _ _ _ _ _ _ _ _ _ _ _ _ _ _ _ _ _ _ _ _ _ _ _ _ _ _ _ _ _ _ _ _ _ _ _ _ _ _ _ _ _ _ _ _ _ _ _ _ _ _ M qo pc pos CB nc F w Q N R PR I np pg hP hp0 hpc hnp hm1 Db n hop hnc hnc2 lc tC hlc hone G hall hG hgo)

set_option maxRecDepth 1000000 in
theorem add_new8_f {a : Act} (M qo pc : Nat) (pos : Int) (CB nc F : Nat) (w : World) (Q : Exit → Act → World → Prop) (N R PR I np : Nat) (pg : Nat → Inst) (hP : ProgAt w N R PR I np pg) (hp0 : 0 < pc) (hpc : pc < np) (hnp : np ≤ 1000) (hm1 : w.cell? ⟨M, 1, none⟩ = some (.pointer (some ⟨PR, 0, none⟩))) (Db n : Nat) (hop : (pg pc).op = 8) (hnc : 0 < nc) (hnc2 : nc < 1000) (lc : List Value) (tC : TypeId) (hlc : lc.length = nc) (hone : ∀ v ∈ lc, v.oneCell' = true) (G : Nat → World → Prop)
  (hall : Calls Tryz.prog 122 #[.pointer (some ⟨M, 0, none⟩), .pointer (some ⟨I, pc * 4, none⟩)] w fun e w' => ∃ T, e = .returned (.pointer (some ⟨T, 0, none⟩)) ∧ G T w')
  (hG : ∀ T w', G T w' → ∃ CT lT v, w'.cell? ⟨T, 1, none⟩ = some (.slice (some ⟨CT, 0, none⟩) nc nc) ∧ T < w'.heap.size ∧ CT ≠ CB ∧ CT ≠ Db ∧ Blk w' CT lT 3 ∧ lT.length = nc ∧ Blk w' CB lc tC ∧ w'.cell? ⟨Db, n * 2 + 1, none⟩ = some v ∧ w'.frozen? ⟨Db, n * 2 + 1, none⟩ = false ∧ Db < w'.heap.size)
  (hgo : ∀ a T CT w' w2, a.tmps.size = 226 → a.defers = [] → a.tmps.getD 14 undef = .pointer none → G T w' → w'.cell? ⟨T, 1, none⟩ = some (.slice (some ⟨CT, 0, none⟩) nc nc) → Blk w2 CT lc 3 → Chg [CT] w' w2 → Q .ret a (w2.setCell ⟨Db, n * 2 + 1, none⟩ (.pointer (some ⟨T, 0, none⟩))))
  (hfr : AG M qo pc pos CB nc F (.pointer none) Db n a) : Ent addSw Q a w := by
 have e := ag_lit hfr
 exact Eq.mpr (congrArg (fun x => Ent addSw Q x w) e) (add_new8 _ _ _ _ _ _ _ _ _ _ _ _ _ _ _ _ _ _ _ _ _ _ _ _ _ _ _ _ _ _ _ _ _ _ _ _ _ _ _ _ _ _ _ _ _ _ _ _ _ _ _ _ _ _ _ _ _ _ _ _ _ _ _ _ _ _ _ _ _ _ _ _ _ _ _ _ _ _ _ _ _ _ _ _ _ _ _ _ _ _ _ _ _ _ _ _ _ _ _ _ _ _ _ _ _ _ _ _ _ _ _ _ _ _ _ _ _ _ _ _ _ _ _ _ _ _ _ _ _ _ _ _ _ _ _ _ _ _ _ _ _ _ _ _ _ _ _ _ _ _ _ _ _ _ _ _ _ _ _ _ _ _ _ _ _ _ _ _ _ _ _ _ _ _ _ _ _ _ _ _ _ _ _ _ _ _ _ _ _ _ _ _ _ _ _ _ _ _ _ _ _ _ _ _ _ _ _ _ _ _ _ _ _ _ _ _ _ _ M qo pc pos CB nc F w Q N R PR I np pg hP hp0 hpc hnp hm1 Db n hop hnc hnc2 lc tC hlc hone G hall hG hgo)

end Go.Proofs.YtkbmigfkclnlaaaGreatDoor
namespace Go.Proofs.YtkbmigfkclnlaaaGreatDoor
open Go.RowKit Go.Rx
attribute [local go_sem] Ext.cell Ext.frozen Ext.lt Ext.lt_add Ext.cell2 Ext.frozen2

theorem alloc_pool (w : World) (M PB n cp T I k : Nat) (v0 : Value) (h0 : w.cell? ⟨M, 6, none⟩ = some (.slice (some ⟨PB, 0, none⟩) (n + 1) cp)) (f0 : w.frozen? ⟨M, 6, none⟩ = false) (hM : M < w.heap.size) (hcp : n + 1 ≤ cp) (hcb : n < 10000000000000)
  (h1 : w.cell? ⟨PB, n, none⟩ = some (.pointer (some ⟨T, 0, none⟩))) (h2 : w.cell? ⟨T, 0, none⟩ = some v0) (f2 : w.frozen? ⟨T, 0, none⟩ = false) (hT : T < w.heap.size) (hTM : T ≠ M) :
  Calls Tryz.prog 122 #[.pointer (some ⟨M, 0, none⟩), .pointer (some ⟨I, k, none⟩)] w fun e w' => e = .returned (.pointer (some ⟨T, 0, none⟩)) ∧
   w' = (w.setCell ⟨M, 6, none⟩ (.slice (some ⟨PB, 0, none⟩) n cp)).setCell ⟨T, 0, none⟩ (.pointer (some ⟨I, k, none⟩)) := by
 have hMT : M ≠ T := Ne.symm hTM
 go_enter Tryz.func122, Tryz.ntmps122
 go_wp2_with fail
 go_ret
 exact ⟨rfl, rfl⟩

theorem make_wp {P : Program} (w : World) {o : Oper} {a : Act} {K : Act → World → Prop} {Q : Exit → Act → World → Prop} (l c : Operand) (t e : TypeId) (hop : o.op = Op.makeSlice t l c)
  (z : Value) (size bytes : Nat) (ht : P.underlying t = some (.slice e)) (hinfo : (P.info? e).map (fun i => (i.zero, i.size, i.bytes)) = some (some z, size, bytes)) (kl kc : IntKind) (L C : Nat) (hl : a.eval l = .int kl L) (hc : a.eval c = .int kc C)
  (hLC : L ≤ C) (hb : bytes * C ≤ 281474976710656) (hC : C ≤ 281474976710656) (H : Nat) (hH : w.heap.size = H)
  (h : ∀ w', Blk w' H (madeCells z.cells (C * size)).toList e → Chg [] w w' → w'.heap.size = H + 1 → K (a.put o.dst (.slice (some ⟨H, 0, none⟩) L C)) w') : o.wp P a w K Q := by
 obtain ⟨i, hi, hz0, hz1, hz2⟩ := info_parts hinfo
 have hbi : ((i.bytes : Int) * (C : Int)) ≤ 281474976710656 := by
  rw [hz2, ← Int.natCast_mul]
  exact Int.ofNat_le.2 hb
 have hrun := run_make (P := P) w t e i z ht hi hz0 kl kc (L : Int) (C : Int) (by omega) (by omega) hbi (by omega)
 rw [hz1, hH] at hrun
 simp only [Int.toNat_natCast] at hrun
 unfold Oper.wp
 simp [execOp, hop, hl, hc, hrun, Result.andThen]
 refine h _ ?_ (Chg.alloc w _) (by simp [hH])
 have := Blk.new w (madeCells z.cells (C * size)).toList e
 rw [hH] at this
 simpa using this

set_option maxRecDepth 1000000 in
set_option maxHeartbeats 4000000 in
theorem alloc_new (w : World) (M MC nc I k : Nat) (ao : Option Addr) (cp : Nat) (h0 : w.cell? ⟨M, 6, none⟩ = some (.slice ao 0 cp)) (h1 : w.cell? ⟨M, 8, none⟩ = some (.slice (some ⟨MC, 0, none⟩) nc nc)) (hM : M < w.heap.size) (hnc : nc < 1000) :
  Calls Tryz.prog 122 #[.pointer (some ⟨M, 0, none⟩), .pointer (some ⟨I, k, none⟩)] w fun e w' => e = .returned (.pointer (some ⟨w.heap.size, 0, none⟩)) ∧
   ∃ CT, w.heap.size < CT ∧ Blk w' w.heap.size [.pointer (some ⟨I, k, none⟩), .slice (some ⟨CT, 0, none⟩) nc nc] 212 ∧ Blk w' CT (List.replicate nc (.int .i64 0)) 3 ∧ Chg [] w w' := by
 have hne : M ≠ w.heap.size := by omega
 go_enter Tryz.func122, Tryz.ntmps122
 go_wp2_with fail
 obtain ⟨T, hT⟩ : ∃ T, w.heap.size = T := ⟨_, rfl⟩
 obtain ⟨ws, hws⟩ : ∃ ws, ws = w.alloc (Obj.cells #[Value.pointer none, Value.slice none 0 0] 212) := ⟨_, rfl⟩
 have bT : Blk ws T [.pointer none, .slice none 0 0] 212 := by rw [hws, ← hT]; exact Blk.new _ _ _
 have cs : Chg [] w ws := by rw [hws]; exact Chg.alloc _ _
 have m8 : ws.cell? ⟨M, 8, none⟩ = some (.slice (some ⟨MC, 0, none⟩) nc nc) := by rw [← h1]; exact World.cell?_of_block (cs.block _ hM (by simp))
 have hMs : M < ws.heap.size := Nat.lt_of_lt_of_le hM cs.size
 have hTs := bT.lt
 rw [hT] at hne ⊢
 rw [← hws]
 have HB := Lib.hid bT
 have HC := Lib.hid cs
 have HT := Lib.hid hT
 clear hws bT cs hT
 refine wp_region_plan 12 [(0, false), (1, false), (2, false), (3, false), (4, false), (5, false), (6, false), (7, false), (8, false), (9, false), (10, false), (11, true)] (fun w' => ∃ x : Ext ws, w' = x.now)
  (by kernel_rfl) (by kernel_rfl) (fun _ _ d _ _ h => by cases d <;> exact h) ⟨Ext.drewn _, rfl⟩ ?_
 refine plan_read rfl (fun K hK => ?_); go_simp; refine hK _ ?_; clear hK K
 refine plan_read rfl (fun K hK => ?_); go_simp; refine hK _ ?_; clear hK K
 refine plan_read rfl (fun K hK => ?_); go_simp; refine hK _ ?_; clear hK K
 refine plan_read rfl (fun K hK => ?_); go_simp; refine hK _ ?_; clear hK K
 refine plan_read rfl (fun K hK => ?_); go_simp; refine hK _ ?_; clear hK K
 refine plan_read rfl (fun K hK => ?_); go_simp; refine hK _ ?_; clear hK K
 refine plan_read rfl (fun K hK => ?_); go_simp; refine hK _ ?_; clear hK K
 refine plan_read rfl (fun K hK => ?_); go_simp; refine hK _ ?_; clear hK K
 refine plan_read rfl (fun K hK => ?_); go_simp; refine hK _ ?_; clear hK K
 refine plan_read rfl (fun K hK => ?_); go_simp; refine hK _ ?_; clear hK K
 refine plan_read rfl (fun K hK => ?_); go_simp; refine hK _ ?_; clear hK K
 refine plan_step rfl (fun K hK => ?_)
 rw [if_pos (by rfl)]
 refine make_wp _ (.tmp 38) (.tmp 43) 128 3 rfl _ 1 8 Tryz.underlying128 int_info .i64 .i64 nc nc rfl rfl (Nat.le_refl _) (by omega) (by omega) ws.heap.size rfl ?_
 intro w2 b2 c2 z2
 have c2 : Chg [] ws w2 := (Chg.drew ws).trans c2
 refine hK _ _ ⟨⟨w2, c2.below (Nat.le_refl _) (by simp)⟩, rfl⟩ ?_
 clear hK K
 refine plan_nil ?_
 simp only [List.drop_succ_cons, List.drop_zero]
 obtain ⟨CT, hCT⟩ : ∃ CT, ws.heap.size = CT := ⟨_, rfl⟩
 rw [hCT] at b2 hTs ⊢
 have bT2 := HB.out.chg c2 (by simp)
 have q1 : w2.cell? ⟨T, 1, none⟩ = some (.slice none 0 0) := (bT2.cell 1).trans rfl
 have q2 := bT2.free 1
 have q4 : w2.cell? ⟨T, 0, none⟩ = some (.pointer none) := (bT2.cell 0).trans rfl
 have q5 := bT2.free 0
 have q3 := bT2.lt
 have bT3 := (bT2.set 1 (.slice (some ⟨CT, 0, none⟩) nc nc)).set 0 (.pointer (some ⟨I, k, none⟩))
 have hne2 : CT ≠ T := by omega
 have bC := (b2.set_other (c := T) hne2 1 (.slice (some ⟨CT, 0, none⟩) nc nc)).set_other (c := T) hne2 0 (.pointer (some ⟨I, k, none⟩))
 rw [Nat.mul_one, show (Value.int IntKind.i64 0).cells = #[.int .i64 0] from rfl, made_one] at bC
 have cA := ((HC.out.trans c2).trans (Chg.set w2 T 1 (.slice (some ⟨CT, 0, none⟩) nc nc))).trans (Chg.set _ T 0 (.pointer (some ⟨I, k, none⟩)))
 have J1 := Lib.hid bT3
 have J2 := Lib.hid bC
 have J3 := Lib.hid cA
 clear bT2 bT3 bC cA b2 c2
 dsimp only [List.getElem_toArray, List.getElem_cons_succ, List.getElem_cons_zero]
 go_wp2_with fail
 go_ret
 rw [HT.out]
 refine ⟨rfl, CT, by omega, J1.out, J2.out, J3.out.mono ?_⟩
 intro b hb hlt
 have := HT.out
 simp at hb
 omega

end Go.Proofs.YtkbmigfkclnlaaaGreatDoor
namespace Go.Proofs.YtkbmigfkclnlaaaGreatDoor
open Go.RowKit Go.Rx

abbrev Th := Nat × Nat
abbrev CE := Nat × Option (Th × List Int)

def fg (e : CE) : Env.Entry := (e.1, e.2.map (·.2))
def handPtr : Option Nat → Value
 | none => .pointer none
 | some T => .pointer (some ⟨T, 0, none⟩)
def thPtr : Option (Th × List Int) → Value
 | none => .pointer none
 | some t => .pointer (some ⟨t.1.1, 0, none⟩)
def dCells (q : List CE) : List Value := q.flatMap fun e => [.int .u32 e.1, thPtr e.2]
def oBlks (CB : Nat) : Option (Th × List Int) → List Nat
 | none => []
 | some t => if t.1.2 = CB then [t.1.1] else [t.1.1, t.1.2]
def qBlks (CB : Nat) (q : List CE) : List Nat := q.flatMap fun e => oBlks CB e.2
def pBlks (pool : List Th) : List Nat := pool.flatMap fun t => [t.1, t.2]
def hBlks : Option Nat → List Nat
 | none => []
 | some T => [T]
def pbBlk : Option (Nat × Nat) → List Nat
 | none => []
 | some p => [p.1]
def poolVal : Option (Nat × Nat) → Nat → Value
 | none, _ => .slice none 0 0
 | some p, k => .slice (some ⟨p.1, 0, none⟩) k p.2

theorem dCells_append (q r : List CE) : dCells (q ++ r) = dCells q ++ dCells r := by simp [dCells]
theorem qBlks_append (CB : Nat) (q r : List CE) : qBlks CB (q ++ r) = qBlks CB q ++ qBlks CB r := by simp [qBlks]
theorem dCells_length (q : List CE) : (dCells q).length = q.length * 2 := by
 induction q with
 | nil => rfl
 | cons e q ih => simp [dCells] at ih ⊢; omega

structure AL where
 N : Nat
 R : Nat
 PR : Nat
 I : Nat
 np : Nat
 pg : Nat → Inst
 M : Nat
 qo : Nat
 S : Nat
 D : Nat
 nq : Nat
 nc : Nat
 F : Nat
 CB : Nat
 pb : Option (Nat × Nat)
 MC : Nat
 ml : List Value
 tM : TypeId
 tS : TypeId
 tD : TypeId
 fl : Int

def AL.blks (L : AL) (q : List CE) (pool : List Th) (hand : Option Nat) : List Nat := [L.M, L.S, L.D, L.F, L.CB] ++ pbBlk L.pb ++ qBlks L.CB q ++ pBlks pool ++ hBlks hand

def AL.mCells (L : AL) (n k : Nat) : List Value := (L.ml.set (L.qo + 1) (.slice (some ⟨L.D, 0, none⟩) n L.nq)).set 6 (poolVal L.pb k)

structure AddSt (L : AL) (c : List Int) (q : List CE) (pool : List Th) (hand : Option Nat) (w : World) : Prop where
 prog : ProgAt w L.N L.R L.PR L.I L.np L.pg
 mblk : Blk w L.M (L.mCells q.length pool.length) L.tM
 dense : ∃ rest, Blk w L.D (dCells q ++ rest) L.tD ∧ q.length * 2 + rest.length = L.nq * 2
 sparse : ∃ sp : List Nat, Blk w L.S (wordCells sp) L.tS ∧ sp.length = L.nq ∧ ∀ (i : Nat) (e : CE), q[i]? = some e → sp[e.1]? = some i
 pcs : (q.map (·.1)).Nodup ∧ ∀ e, e ∈ q → 0 < e.1 ∧ e.1 < L.np
 thr : ∀ pc t, (pc, some t) ∈ q → Blk w t.1.1 [.pointer (some ⟨L.I, pc * 4, none⟩), .slice (some ⟨t.1.2, 0, none⟩) L.nc L.nc] 212 ∧ (t.1.2 ≠ L.CB → Blk w t.1.2 (intCells t.2) 3) ∧ t.2.length = L.nc
 pthr : ∀ (i : Nat) (t : Th), pool[i]? = some t → (∃ v, Blk w t.1 [v, .slice (some ⟨t.2, 0, none⟩) L.nc L.nc] 212) ∧ ∃ l, Blk w t.2 l 3 ∧ l.length = L.nc
 prow : w.ownsRow L.N 209 1 (poolVal L.pb pool.length) pool.length (pool.map fun t => .pointer (some ⟨t.1, 0, none⟩))
 pcap : pool.length < 9000000000000
 hthr : ∀ T, hand = some T → ∃ v, Blk w T [v, .slice (some ⟨L.CB, 0, none⟩) L.nc L.nc] 212
 cap : Blk w L.CB (intCells c) 3
 clen : c.length = L.nc
 flag : Blk w L.F [.int .u64 L.fl] 217
 apart : (L.blks q pool hand).Nodup
 ge : ∀ b, b ∈ L.blks q pool hand → L.N ≤ b ∧ b < w.heap.size

structure AOk (L : AL) : Prop where
 len : L.ml.length = 10
 m1 : L.ml[1]? = some (.pointer (some ⟨L.PR, 0, none⟩))
 mq : L.ml[L.qo]? = some (.slice (some ⟨L.S, 0, none⟩) L.nq L.nq)
 m8 : L.ml[8]? = some (.slice (some ⟨L.MC, 0, none⟩) L.nc L.nc)
 qo : L.qo = 2 ∨ L.qo = 4
 np : L.np ≤ L.nq ∧ L.np ≤ 1000
 nq : L.nq ≤ 100000
 nc : 2 ≤ L.nc ∧ L.nc < 100
 ops : ∀ pc, 0 < pc → pc < L.np → (L.pg pc).op = 0 ∨ (L.pg pc).op = 2 ∨ (L.pg pc).op = 3 ∨ (L.pg pc).op = 4 ∨ (L.pg pc).op = 6 ∨ (L.pg pc).op = 7 ∨ (L.pg pc).op = 8
 out : ∀ pc, 0 < pc → pc < L.np → (L.pg pc).op ≠ 4 → 0 < (L.pg pc).out ∧ (L.pg pc).out < L.np
 alt : ∀ pc, 0 < pc → pc < L.np → (L.pg pc).op = 0 → 0 < (L.pg pc).arg ∧ (L.pg pc).arg < L.np
 cap : ∀ pc, 0 < pc → pc < L.np → (L.pg pc).op = 2 → (L.pg pc).arg < L.nc
 ew : ∀ pc, 0 < pc → pc < L.np → (L.pg pc).op = 3 → (L.pg pc).arg = 4 ∨ (L.pg pc).arg = 8

theorem AL.mc {L : AL} (ok : AOk L) (n k : Nat) : (L.mCells n k)[1]? = some (.pointer (some ⟨L.PR, 0, none⟩)) ∧ (L.mCells n k)[L.qo]? = some (.slice (some ⟨L.S, 0, none⟩) L.nq L.nq) ∧
  (L.mCells n k)[L.qo + 1]? = some (.slice (some ⟨L.D, 0, none⟩) n L.nq) ∧ (L.mCells n k)[6]? = some (poolVal L.pb k) ∧ (L.mCells n k)[8]? = some (.slice (some ⟨L.MC, 0, none⟩) L.nc L.nc) := by
 have h1 := ok.len
 have h2 := ok.qo
 unfold AL.mCells
 refine ⟨?_, ?_, ?_, ?_, ?_⟩
 ·rw [List.getElem?_set_ne (by omega), List.getElem?_set_ne (by omega)]; exact ok.m1
 ·rw [List.getElem?_set_ne (by omega), List.getElem?_set_ne (by omega)]; exact ok.mq
 ·rw [List.getElem?_set_ne (by omega), List.getElem?_set_self (by omega)]
 ·rw [List.getElem?_set_self (by simp; omega)]
 ·rw [List.getElem?_set_ne (by omega), List.getElem?_set_ne (by omega)]; exact ok.m8

theorem AL.mc_len {L : AL} (n n' k : Nat) (ok : AOk L) : (L.mCells n k).set (L.qo + 1) (.slice (some ⟨L.D, 0, none⟩) n' L.nq) = L.mCells n' k := by
 have h2 := ok.qo
 unfold AL.mCells
 rw [List.set_comm _ _ (by omega), List.set_set]

theorem AL.mc_pool {L : AL} (n k k' : Nat) : (L.mCells n k).set 6 (poolVal L.pb k') = L.mCells n k' := by
 unfold AL.mCells
 rw [List.set_set]

theorem dense_at (q : List CE) (rest : List Value) (i : Nat) (e : CE) (h : q[i]? = some e) : (dCells q ++ rest)[i * 2]? = some (.int .u32 e.1) ∧ (dCells q ++ rest)[i * 2 + 1]? = some (thPtr e.2) := by
 induction q generalizing i with
 | nil => cases h
 | cons x q ih =>
  cases i with
  | zero =>
   simp at h
   subst h
   simp [dCells]
  | succ i =>
   have := ih i (by simpa using h)
   rw [show (i + 1) * 2 = i * 2 + 1 + 1 by omega, show i * 2 + 1 + 1 + 1 = (i * 2 + 1) + 1 + 1 by omega]
   simpa [dCells] using this

end Go.Proofs.YtkbmigfkclnlaaaGreatDoor
