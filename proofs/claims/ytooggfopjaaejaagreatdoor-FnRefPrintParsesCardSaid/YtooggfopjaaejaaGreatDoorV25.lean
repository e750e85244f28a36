/-
laws.FnRefPrintParses answers true for every reference, and leaves the reference as it was; the variables that its row lists are tied to the program's text.
-/
import Derived.Test.YtooggfopjaaejaaGreatDoorV24
import Derived.Handy
import Derived.Stop.Asserts
import Derived.Test.YtooggfopjaaejaaGreatDoorCards
import Derived.Test.YtooggfopjaaejaaGreatDoorTie
import Derived.WalkKit
import Derived.ProofKit
import Derived.OpenShut
import Derived.Lib.SmallJoins
import Derived.Deep.DeepHandedRow
import Derived.Deep.DeepWitnessRowRef
import Derived.Lib.LaidTab
import Derived.LaidMore
set_option linter.all false
namespace Go.Proofs.YtooggfopjaaejaaGreatDoor
open Go.RowKit Go.Rx
attribute [local go_sem] Ext.cell Ext.frozen Ext.lt Ext.lt_add Ext.cell2 Ext.frozen2

theorem as_50_64 (v : Value) (W : World) : (Instr.typeAssert (.iface 50 v) 30 64 true).run Tryz.prog W = .ok (.tuple #[.iface 50 v, .bool true]) W := by kernel_rfl
theorem as_50_67 (v : Value) (W : World) : (Instr.typeAssert (.iface 50 v) 30 67 true).run Tryz.prog W = .ok (.tuple #[.nilIface, .bool false]) W := run_typeAssert_lacksB Tryz.underlying67 (by kernel_rfl) (by kernel_rfl) v 30 W
theorem as_50_70 (v : Value) (W : World) : (Instr.typeAssert (.iface 50 v) 30 70 true).run Tryz.prog W = .ok (.tuple #[.nilIface, .bool false]) W := run_typeAssert_lacksB Tryz.underlying70 (by kernel_rfl) (by kernel_rfl) v 30 W
theorem as_96_64 (v : Value) (W : World) : (Instr.typeAssert (.iface 96 v) 30 64 true).run Tryz.prog W = .ok (.tuple #[.iface 96 v, .bool true]) W := by kernel_rfl
theorem as_96_67 (v : Value) (W : World) : (Instr.typeAssert (.iface 96 v) 30 67 true).run Tryz.prog W = .ok (.tuple #[.nilIface, .bool false]) W := run_typeAssert_lacksB Tryz.underlying67 (by kernel_rfl) (by kernel_rfl) v 30 W
theorem as_96_70 (v : Value) (W : World) : (Instr.typeAssert (.iface 96 v) 30 70 true).run Tryz.prog W = .ok (.tuple #[.iface 96 v, .bool true]) W := by kernel_rfl
theorem as_98_64 (v : Value) (W : World) : (Instr.typeAssert (.iface 98 v) 30 64 true).run Tryz.prog W = .ok (.tuple #[.iface 98 v, .bool true]) W := by kernel_rfl
theorem as_98_67 (v : Value) (W : World) : (Instr.typeAssert (.iface 98 v) 30 67 true).run Tryz.prog W = .ok (.tuple #[.iface 98 v, .bool true]) W := by kernel_rfl
theorem as_98_70 (v : Value) (W : World) : (Instr.typeAssert (.iface 98 v) 30 70 true).run Tryz.prog W = .ok (.tuple #[.nilIface, .bool false]) W := run_typeAssert_lacksB Tryz.underlying70 (by kernel_rfl) (by kernel_rfl) v 30 W
theorem as_55_64 (v : Value) (W : World) : (Instr.typeAssert (.iface 55 v) 30 64 true).run Tryz.prog W = .ok (.tuple #[.iface 55 v, .bool true]) W := by kernel_rfl
theorem as_55_67 (v : Value) (W : World) : (Instr.typeAssert (.iface 55 v) 30 67 true).run Tryz.prog W = .ok (.tuple #[.iface 55 v, .bool true]) W := by kernel_rfl
theorem as_55_70 (v : Value) (W : World) : (Instr.typeAssert (.iface 55 v) 30 70 true).run Tryz.prog W = .ok (.tuple #[.iface 55 v, .bool true]) W := by kernel_rfl

theorem domain_of (d p : ByteArray) (w : World) : Calls Tryz.prog 128 #[.agg #[.string d, .string p]] w fun e w' => e = .returned (.string d) ∧ w' = w.alloc (Obj.cells #[.string d, .string p] 50) := by
  go_enter Tryz.func128, Tryz.ntmps128
  go_wp2
  go_ret
  exact ⟨rfl, rfl⟩

theorem path_of (d p : ByteArray) (w : World) : Calls Tryz.prog 130 #[.agg #[.string d, .string p]] w fun e w' => e = .returned (.string p) ∧ w' = w.alloc (Obj.cells #[.string d, .string p] 50) := by
  go_enter Tryz.func130, Tryz.ntmps130
  go_wp2
  go_ret
  exact ⟨rfl, rfl⟩

theorem tag_full (v : Value) (t g : ByteArray) (w : World) : Calls Tryz.prog 136 #[.agg #[v, .string t, .string g]] w fun e w' => e = .returned (.string t) ∧ w' = w.alloc (Obj.cells #[v, .string t, .string g] 55) := by
  go_enter Tryz.func136, Tryz.ntmps136
  go_wp2
  go_ret
  exact ⟨rfl, rfl⟩

theorem dig_full (v : Value) (t g : ByteArray) (w : World) : Calls Tryz.prog 134 #[.agg #[v, .string t, .string g]] w fun e w' => e = .returned (.string g) ∧ w' = w.alloc (Obj.cells #[v, .string t, .string g] 55) := by
  go_enter Tryz.func134, Tryz.ntmps134
  go_wp2
  go_ret
  exact ⟨rfl, rfl⟩

theorem tag_tagged (v : Value) (t : ByteArray) (w : World) : Calls Tryz.prog 142 #[.agg #[v, .string t]] w fun e w' => e = .returned (.string t) ∧ w' = w.alloc (Obj.cells #[v, .string t] 98) := by
  go_enter Tryz.func142, Tryz.ntmps142
  go_wp2
  go_ret
  exact ⟨rfl, rfl⟩

theorem dig_canon (v : Value) (g : ByteArray) (w : World) : Calls Tryz.prog 139 #[.agg #[v, .string g]] w fun e w' => e = .returned (.string g) ∧ w' = w.alloc (Obj.cells #[v, .string g] 96) := by
  go_enter Tryz.func139, Tryz.ntmps139
  go_wp2
  go_ret
  exact ⟨rfl, rfl⟩

theorem ext_alloc {w W : World} (h : ∃ y : Ext w, W = y.now) (o : Obj) : ∃ y : Ext w, W.alloc o = y.now := by
  obtain ⟨y, rfl⟩ := h
  exact Ext.both y (Ext.one _ o)

set_option maxRecDepth 100000 in
set_option maxHeartbeats 2000000 in
theorem plain_full (d p t g : ByteArray) (w : World) :
    Calls Tryz.prog 19 #[.iface 55 (.agg #[.iface 50 (.agg #[.string d, .string p]), .string t, .string g])] w fun e w' => e = .returned (rv d p t g) ∧ ∃ y : Ext w, w' = y.now := by
  have q1 := as_55_64
  have q2 := as_55_67
  have q3 := as_55_70
  go_enter Tryz.func19, Tryz.ntmps19
  go_wp2_with (first | (go_at_call 128; (with_reducible refine (domain_of d p _).mono ?_); rintro e w1 ⟨rfl, rfl⟩) | (go_at_call 130; (with_reducible refine (path_of d p _).mono ?_); rintro e w2 ⟨rfl, rfl⟩) | (go_at_call 136; (with_reducible refine (tag_full _ t g _).mono ?_); rintro e w3 ⟨rfl, rfl⟩) | (go_at_call 134; (with_reducible refine (dig_full _ t g _).mono ?_); rintro e w4 ⟨rfl, rfl⟩))
  refine bodyPost_ret (v := rv d p t g) (by simp [results, Tryz.results19, go_sem, rv, loadCellsFrom, Addr.add]) rfl ⟨rfl, ?_⟩
  repeat (refine ext_alloc ?_ _)
  exact Ext.here _

set_option maxRecDepth 100000 in
set_option maxHeartbeats 2000000 in
theorem plain_tagged (d p t : ByteArray) (w : World) :
    Calls Tryz.prog 19 #[.iface 98 (.agg #[.iface 50 (.agg #[.string d, .string p]), .string t])] w fun e w' => e = .returned (rv d p t ⟨#[]⟩) ∧ ∃ y : Ext w, w' = y.now := by
  have q1 := as_98_64
  have q2 := as_98_67
  have q3 := as_98_70
  go_enter Tryz.func19, Tryz.ntmps19
  go_wp2_with (first | (go_at_call 128; (with_reducible refine (domain_of d p _).mono ?_); rintro e w1 ⟨rfl, rfl⟩) | (go_at_call 130; (with_reducible refine (path_of d p _).mono ?_); rintro e w2 ⟨rfl, rfl⟩) | (go_at_call 142; (with_reducible refine (tag_tagged _ t _).mono ?_); rintro e w3 ⟨rfl, rfl⟩))
  refine bodyPost_ret (v := rv d p t ⟨#[]⟩) (by simp [results, Tryz.results19, go_sem, rv, loadCellsFrom, Addr.add]) rfl ⟨rfl, ?_⟩
  repeat (refine ext_alloc ?_ _)
  exact Ext.here _

set_option maxRecDepth 100000 in
set_option maxHeartbeats 2000000 in
theorem plain_canon (d p g : ByteArray) (w : World) :
    Calls Tryz.prog 19 #[.iface 96 (.agg #[.iface 50 (.agg #[.string d, .string p]), .string g])] w fun e w' => e = .returned (rv d p ⟨#[]⟩ g) ∧ ∃ y : Ext w, w' = y.now := by
  have q1 := as_96_64
  have q2 := as_96_67
  have q3 := as_96_70
  go_enter Tryz.func19, Tryz.ntmps19
  go_wp2_with (first | (go_at_call 128; (with_reducible refine (domain_of d p _).mono ?_); rintro e w1 ⟨rfl, rfl⟩) | (go_at_call 130; (with_reducible refine (path_of d p _).mono ?_); rintro e w2 ⟨rfl, rfl⟩) | (go_at_call 139; (with_reducible refine (dig_canon _ g _).mono ?_); rintro e w4 ⟨rfl, rfl⟩))
  refine bodyPost_ret (v := rv d p ⟨#[]⟩ g) (by simp [results, Tryz.results19, go_sem, rv, loadCellsFrom, Addr.add]) rfl ⟨rfl, ?_⟩
  repeat (refine ext_alloc ?_ _)
  exact Ext.here _

set_option maxRecDepth 100000 in
set_option maxHeartbeats 2000000 in
theorem plain_repo (d p : ByteArray) (w : World) :
    Calls Tryz.prog 19 #[.iface 50 (.agg #[.string d, .string p])] w fun e w' => e = .returned (rv d p ⟨#[]⟩ ⟨#[]⟩) ∧ ∃ y : Ext w, w' = y.now := by
  have q1 := as_50_64
  have q2 := as_50_67
  have q3 := as_50_70
  go_enter Tryz.func19, Tryz.ntmps19
  go_wp2_with (first | (go_at_call 128; (with_reducible refine (domain_of d p _).mono ?_); rintro e w1 ⟨rfl, rfl⟩) | (go_at_call 130; (with_reducible refine (path_of d p _).mono ?_); rintro e w2 ⟨rfl, rfl⟩))
  refine bodyPost_ret (v := rv d p ⟨#[]⟩ ⟨#[]⟩) (by simp [results, Tryz.results19, go_sem, rv, loadCellsFrom, Addr.add]) rfl ⟨rfl, ?_⟩
  repeat (refine ext_alloc ?_ _)
  exact Ext.here _

theorem plain_any (d p t g : ByteArray) (hp : p.toList.isEmpty = false) (w : World) :
    Calls Tryz.prog 19 #[refV d p t g] w fun e w' => e = .returned (rv d p t g) ∧ ∃ y : Ext w, w' = y.now := by
  unfold refV
  rw [if_neg (by rw [hp]; simp)]
  have hn : ∀ s : ByteArray, s.toList.isEmpty = true → s = ⟨#[]⟩ := fun s h => nats_empty (by rw [empty_nats] at h; simpa using h)
  by_cases ht : t.toList.isEmpty = true
  · rw [if_pos ht, hn t ht]
    by_cases hg : g.toList.isEmpty = true
    · rw [if_pos hg, hn g hg]
      exact plain_repo d p w
    · rw [if_neg hg]
      exact plain_canon d p g w
  · rw [if_neg ht]
    by_cases hg : g.toList.isEmpty = true
    · rw [if_pos hg, hn g hg]
      exact plain_tagged d p t w
    · rw [if_neg hg]
      exact plain_full d p t g w

end Go.Proofs.YtooggfopjaaejaaGreatDoor
namespace Go.Proofs.YtooggfopjaaejaaGreatDoor
open Go.RowKit Go.Rx
attribute [local go_sem] Ext.cell Ext.frozen Ext.lt Ext.lt_add Ext.cell2 Ext.frozen2

theorem res_told {W : World} {H : Nat} {d p t g : ByteArray} {n : Int} {tmps : Array Value} (h2 : tmps.getD 4 undef = .pointer (some ⟨H, 0, none⟩)) (h3 : tmps.getD 5 undef = .int .i64 n)
    (c0 : W.cell? ⟨H, 0, none⟩ = some (.string d)) (c1 : W.cell? ⟨H, 1, none⟩ = some (.string p)) (c2 : W.cell? ⟨H, 2, none⟩ = some (.string t)) (c3 : W.cell? ⟨H, 3, none⟩ = some (.string g)) :
    (results Tryz.f10 tmps).run Tryz.prog W = .ok (.tuple #[rv d p t g, .int .i64 n]) W := by
  have h2' : tmps[4]?.getD undef = .pointer (some ⟨H, 0, none⟩) := by rw [← h2]; simp
  have h3' : tmps[5]?.getD undef = .int .i64 n := by rw [← h3]; simp
  simp [results, Tryz.results10, go_sem, h2', h3', c0, c1, c2, c3, rv, loadCellsFrom, Addr.add]

theorem ret_told {w : World} (X : Ext (w.alloc (Obj.cells #[Value.string ⟨#[]⟩, Value.string ⟨#[]⟩, Value.string ⟨#[]⟩, Value.string ⟨#[]⟩] 23))) (d p t g : ByteArray) (n : Int) (tmps : Array Value)
    (h2 : tmps.getD 4 undef = .pointer (some ⟨w.heap.size, 0, none⟩)) (h3 : tmps.getD 5 undef = .int .i64 n) :
    (results Tryz.f10 tmps).run Tryz.prog ((((X.now.setCell ⟨w.heap.size, 0, none⟩ (.string d)).setCell ⟨w.heap.size, 1, none⟩ (.string p)).setCell ⟨w.heap.size, 2, none⟩ (.string t)).setCell ⟨w.heap.size, 3, none⟩ (.string g)) = .ok (.tuple #[rv d p t g, .int .i64 n]) ((((X.now.setCell ⟨w.heap.size, 0, none⟩ (.string d)).setCell ⟨w.heap.size, 1, none⟩ (.string p)).setCell ⟨w.heap.size, 2, none⟩ (.string t)).setCell ⟨w.heap.size, 3, none⟩ (.string g)) ∧
      ∃ y : Ext w, ((((X.now.setCell ⟨w.heap.size, 0, none⟩ (.string d)).setCell ⟨w.heap.size, 1, none⟩ (.string p)).setCell ⟨w.heap.size, 2, none⟩ (.string t)).setCell ⟨w.heap.size, 3, none⟩ (.string g)) = y.now := by
  have b0 : Blk X.now w.heap.size [Value.string ⟨#[]⟩, Value.string ⟨#[]⟩, Value.string ⟨#[]⟩, Value.string ⟨#[]⟩] 23 := (Blk.new w [Value.string ⟨#[]⟩, Value.string ⟨#[]⟩, Value.string ⟨#[]⟩, Value.string ⟨#[]⟩] 23).chg (Chg.of_below X.below) (by simp)
  have b1 := (((b0.set 0 (.string d)).set 1 (.string p)).set 2 (.string t)).set 3 (.string g)
  have c1 : Chg [w.heap.size] w ((((X.now.setCell ⟨w.heap.size, 0, none⟩ (.string d)).setCell ⟨w.heap.size, 1, none⟩ (.string p)).setCell ⟨w.heap.size, 2, none⟩ (.string t)).setCell ⟨w.heap.size, 3, none⟩ (.string g)) :=
    (((((Chg.alloc w _).trans (Chg.of_below X.below)).trans (Chg.set _ w.heap.size 0 _)).trans (Chg.set _ w.heap.size 1 _)).trans ((Chg.set _ w.heap.size 2 _).trans (Chg.set _ w.heap.size 3 _))).mono (fun b h _ => by simpa using h)
  exact ⟨res_told h2 h3 ((b1.cell 0).trans rfl) ((b1.cell 1).trans rfl) ((b1.cell 2).trans rfl) ((b1.cell 3).trans rfl), Ext.of (c1.below (Nat.le_refl _) (fun b hb => by simp at hb; omega))⟩

theorem res_rp {W : World} {H : Nat} {d p t g : ByteArray} {n : Int} {tmps : Array Value} (h2 : tmps.getD 2 undef = .pointer (some ⟨H, 0, none⟩)) (h3 : tmps.getD 3 undef = .int .i64 n)
    (c0 : W.cell? ⟨H, 0, none⟩ = some (.string d)) (c1 : W.cell? ⟨H, 1, none⟩ = some (.string p)) (c2 : W.cell? ⟨H, 2, none⟩ = some (.string t)) (c3 : W.cell? ⟨H, 3, none⟩ = some (.string g)) :
    (results Tryz.f6 tmps).run Tryz.prog W = .ok (.tuple #[rv d p t g, .int .i64 n]) W := by
  have h2' : tmps[2]?.getD undef = .pointer (some ⟨H, 0, none⟩) := by rw [← h2]; simp
  have h3' : tmps[3]?.getD undef = .int .i64 n := by rw [← h3]; simp
  simp [results, Tryz.results6, go_sem, h2', h3', c0, c1, c2, c3, rv, loadCellsFrom, Addr.add]

theorem ret_rp {w : World} (X : Ext (w.alloc (Obj.cells #[Value.string ⟨#[]⟩, Value.string ⟨#[]⟩, Value.string ⟨#[]⟩, Value.string ⟨#[]⟩] 23))) (d p t g : ByteArray) (n : Int) (tmps : Array Value)
    (h2 : tmps.getD 2 undef = .pointer (some ⟨w.heap.size, 0, none⟩)) (h3 : tmps.getD 3 undef = .int .i64 n) :
    (results Tryz.f6 tmps).run Tryz.prog ((((X.now.setCell ⟨w.heap.size, 0, none⟩ (.string d)).setCell ⟨w.heap.size, 1, none⟩ (.string p)).setCell ⟨w.heap.size, 2, none⟩ (.string t)).setCell ⟨w.heap.size, 3, none⟩ (.string g)) = .ok (.tuple #[rv d p t g, .int .i64 n]) ((((X.now.setCell ⟨w.heap.size, 0, none⟩ (.string d)).setCell ⟨w.heap.size, 1, none⟩ (.string p)).setCell ⟨w.heap.size, 2, none⟩ (.string t)).setCell ⟨w.heap.size, 3, none⟩ (.string g)) ∧
      ∃ y : Ext w, ((((X.now.setCell ⟨w.heap.size, 0, none⟩ (.string d)).setCell ⟨w.heap.size, 1, none⟩ (.string p)).setCell ⟨w.heap.size, 2, none⟩ (.string t)).setCell ⟨w.heap.size, 3, none⟩ (.string g)) = y.now := by
  have b0 : Blk X.now w.heap.size [Value.string ⟨#[]⟩, Value.string ⟨#[]⟩, Value.string ⟨#[]⟩, Value.string ⟨#[]⟩] 23 := (Blk.new w [Value.string ⟨#[]⟩, Value.string ⟨#[]⟩, Value.string ⟨#[]⟩, Value.string ⟨#[]⟩] 23).chg (Chg.of_below X.below) (by simp)
  have b1 := (((b0.set 0 (.string d)).set 1 (.string p)).set 2 (.string t)).set 3 (.string g)
  have c1 : Chg [w.heap.size] w ((((X.now.setCell ⟨w.heap.size, 0, none⟩ (.string d)).setCell ⟨w.heap.size, 1, none⟩ (.string p)).setCell ⟨w.heap.size, 2, none⟩ (.string t)).setCell ⟨w.heap.size, 3, none⟩ (.string g)) :=
    (((((Chg.alloc w _).trans (Chg.of_below X.below)).trans (Chg.set _ w.heap.size 0 _)).trans (Chg.set _ w.heap.size 1 _)).trans ((Chg.set _ w.heap.size 2 _).trans (Chg.set _ w.heap.size 3 _))).mono (fun b h _ => by simpa using h)
  exact ⟨res_rp h2 h3 ((b1.cell 0).trans rfl) ((b1.cell 1).trans rfl) ((b1.cell 2).trans rfl) ((b1.cell 3).trans rfl), Ext.of (c1.below (Nat.le_refl _) (fun b hb => by simp at hb; omega))⟩

set_option maxRecDepth 100000 in
set_option maxHeartbeats 2000000 in
theorem told_any (d p t g : ByteArray) (hp : p.toList.isEmpty = false) (w : World) :
    Calls Tryz.prog 10 #[refV d p t g, .nilIface] w fun e w' => e = .returned (.tuple #[rv d p t g, .int .i64 0]) ∧ ∃ y : Ext w, w' = y.now := by
  have H := Lib.hid (fun W : World => plain_any d p t g hp W)
  obtain ⟨V, hV⟩ : ∃ V, V = refV d p t g := ⟨_, rfl⟩
  rw [← hV] at H ⊢
  clear hV hp
  go_enter Tryz.func10, Tryz.ntmps10
  go_wp2_with (first | (go_at_call 19; (with_reducible refine (H.out _).mono ?_); rintro e w1 ⟨rfl, y, rfl⟩))
  exact bodyPost_ret (ret_told (y) d p t g 0 _ rfl rfl).1 rfl ⟨rfl, (ret_told (y) d p t g 0 #[undef, undef, undef, undef, .pointer (some ⟨w.heap.size, 0, none⟩), .int .i64 0] rfl rfl).2⟩

set_option maxRecDepth 100000 in
set_option maxHeartbeats 2000000 in
theorem rp_any {s d p t g n : ByteArray} (h : RG s n t g) (hn : NG n d p) (hp : p.size ≤ 255) (hg : nats g ≠ [] → ∃ k, DG g k) (hpe : p.toList.isEmpty = false) (hsz : s.size < 8000000000) (w : World)
    (hG0 : w.cell? ⟨10, 0, none⟩ = some (.int .i64 128)) (hG1 : w.cell? ⟨10, 1, none⟩ = some (.int .i64 512)) (hGl : 10 < w.heap.size) :
    Calls Tryz.prog 6 #[.string s] w fun e w' => e = .returned (.tuple #[rv d p t g, .int .i64 0]) ∧ ∃ y : Ext w, w' = y.now := by
  have k0 := Chg.alloc w (Obj.cells #[Value.string ⟨#[]⟩, Value.string ⟨#[]⟩, Value.string ⟨#[]⟩, Value.string ⟨#[]⟩] 23)
  have H1 := Lib.hid (rparse_any h hn hp hg hsz (w.alloc (Obj.cells #[Value.string ⟨#[]⟩, Value.string ⟨#[]⟩, Value.string ⟨#[]⟩, Value.string ⟨#[]⟩] 23)) ((World.cell?_of_block (k0.block 10 hGl (by simp))).trans hG0) ((World.cell?_of_block (k0.block 10 hGl (by simp))).trans hG1) (Nat.lt_of_lt_of_le hGl k0.size))
  have H2 := Lib.hid (fun W : World => told_any d p t g hpe W)
  obtain ⟨V, hV⟩ : ∃ V, V = refV d p t g := ⟨_, rfl⟩
  rw [← hV] at H1 H2
  clear hV h hn hg k0
  go_enter Tryz.func6, Tryz.ntmps6
  go_wp2_with (first | (go_at_call 11; (with_reducible refine H1.out.mono ?_); rintro e w1 ⟨rfl, y1, rfl⟩) | (go_at_call 10; (with_reducible refine (H2.out _).mono ?_); rintro e w1 ⟨rfl, y2, rfl⟩))
  exact bodyPost_ret (ret_rp (y1.trans y2) d p t g 0 _ rfl rfl).1 rfl ⟨rfl, (ret_rp (y1.trans y2) d p t g 0 #[undef, undef, .pointer (some ⟨w.heap.size, 0, none⟩), .int .i64 0] rfl rfl).2⟩

theorem specText_size (d p t g : ByteArray) : (specText d p t g).size ≤ d.size + p.size + t.size + g.size + 3 := by
  have h1 := nm_size d p
  have h2 : (⟨#[58]⟩ : ByteArray).size = 1 := rfl
  have h3 : (⟨#[64]⟩ : ByteArray).size = 1 := rfl
  unfold specText
  split
  · omega
  · split
    · split
      · omega
      · simp only [ByteArray.size_append]; omega
    · split
      · simp only [ByteArray.size_append]; omega
      · simp only [ByteArray.size_append]; omega

set_option maxRecDepth 100000 in
set_option maxHeartbeats 2000000 in
theorem text_any (d p t g : ByteArray) (hpe : p.toList.isEmpty = false) (hs : d.size + p.size + t.size + g.size ≤ 10000000000) (w : World) :
    Calls Tryz.prog 7 #[rv d p t g] w fun e w' => e = .returned (.string (specText d p t g)) ∧ ∃ y : Ext w, w' = y.now := by
  have hr := fun W : World => ref_any d p t g W (by omega) (fun h => by rw [hpe] at h; cases h) (fun h => by rw [hpe] at h; cases h)
  have hpn : ¬ p.toList.isEmpty = true := by rw [hpe]; simp
  unfold refV at hr
  unfold specText
  rw [if_neg hpn] at hr ⊢
  by_cases ht : t.toList.isEmpty = true
  · rw [if_pos ht] at hr ⊢
    by_cases hg : g.toList.isEmpty = true
    · rw [if_pos hg] at hr ⊢
      have H := Lib.hid hr
      clear hr ht hg hpn hpe
      go_enter Tryz.func7, Tryz.ntmps7
      go_wp2_with (first | (go_at_call 12; (with_reducible refine (H.out _).mono ?_); rintro e w1 ⟨rfl, y1, rfl⟩) | (go_at_call 131; (with_reducible refine (repoString_any d p _ (by omega)).mono ?_); rintro e w2 ⟨rfl, y2, rfl⟩))
      go_ret
      exact ⟨rfl, Ext.viab y1 y2⟩
    · rw [if_neg hg] at hr ⊢
      have H := Lib.hid hr
      clear hr ht hg hpn hpe
      go_enter Tryz.func7, Tryz.ntmps7
      go_wp2_with (first | (go_at_call 12; (with_reducible refine (H.out _).mono ?_); rintro e w1 ⟨rfl, y1, rfl⟩) | (go_at_call 140; (with_reducible refine (crString_any d p g _ (by omega)).mono ?_); rintro e w2 ⟨rfl, y2, rfl⟩))
      go_ret
      exact ⟨by simp [ByteArray.append_assoc], Ext.viab y1 y2⟩
  · rw [if_neg ht] at hr ⊢
    by_cases hg : g.toList.isEmpty = true
    · rw [if_pos hg] at hr ⊢
      have H := Lib.hid hr
      clear hr ht hg hpn hpe
      go_enter Tryz.func7, Tryz.ntmps7
      go_wp2_with (first | (go_at_call 12; (with_reducible refine (H.out _).mono ?_); rintro e w1 ⟨rfl, y1, rfl⟩) | (go_at_call 141; (with_reducible refine (trString_any d p t _ (by omega)).mono ?_); rintro e w2 ⟨rfl, y2, rfl⟩))
      go_ret
      exact ⟨by simp [ByteArray.append_assoc], Ext.viab y1 y2⟩
    · rw [if_neg hg] at hr ⊢
      have H := Lib.hid hr
      clear hr ht hg hpn hpe
      go_enter Tryz.func7, Tryz.ntmps7
      go_wp2_with (first | (go_at_call 12; (with_reducible refine (H.out _).mono ?_); rintro e w1 ⟨rfl, y1, rfl⟩) | (go_at_call 135; (with_reducible refine (rfString_any d p t g _ (by omega)).mono ?_); rintro e w2 ⟨rfl, y2, rfl⟩))
      go_ret
      exact ⟨by simp [ByteArray.append_assoc], Ext.viab y1 y2⟩

end Go.Proofs.YtooggfopjaaejaaGreatDoor
namespace Go.Proofs.YtooggfopjaaejaaGreatDoor
open Go.RowKit Go.Rx
attribute [local go_sem] Ext.cell Ext.frozen Ext.lt Ext.lt_add Ext.cell2 Ext.frozen2

theorem eq_parts (d p t g d' p' t' g' : ByteArray) (W : World) : (binOp .eql 23 (rv d' p' t' g') (rv d p t g)).run Tryz.prog W = .ok (.bool (decide (nats d' = nats d ∧ nats p' = nats p ∧ nats t' = nats t ∧ nats g' = nats g))) W := by
  simp only [rv, binOp]
  simp [Op.equal, Op.maxDepth, go_sem]
  have e : ∀ a b : ByteArray, (a.toList = b.toList) ↔ (nats a = nats b) := fun a b => by
    have := beq_nats a b
    constructor
    · intro h
      rw [h] at this
      simpa using this.symm
    · intro h
      rw [decide_eq_true h] at this
      simpa using this
  simp only [e]
  by_cases h1 : nats d' = nats d <;> by_cases h2 : nats p' = nats p <;> by_cases h3 : nats t' = nats t <;> by_cases h4 : nats g' = nats g <;> simp [h1, h2, h3, h4]

/-- A reference is good, just when its text is parsed to its parts. -/
theorem good_any (d p t g : ByteArray) (hs : d.size + p.size + t.size + g.size ≤ 9000000000) (w : World) :
    Calls Tryz.prog 5 #[rv d p t g] w fun e w' => ∃ b : Bool, e = .returned (.bool b) ∧ (b = true → PG (specText d p t g) d p t g) ∧ ∃ y : Ext w, w' = y.now := by
  have hz := specText_size d p t g
  have H1 := Lib.hid (fun W : World => specText_any d p t g W (by omega))
  have H2 := Lib.hid (fun W : World => parse_any (specText d p t g) W (by omega))
  clear hz
  obtain ⟨S, hS⟩ : ∃ S, S = specText d p t g := ⟨_, rfl⟩
  rw [← hS] at H1 H2 ⊢
  clear hS
  go_enter Tryz.func5, Tryz.ntmps5
  go_wp2_with (first | (go_at_call 9; (with_reducible refine (H1.out _).mono ?_); rintro e w1 ⟨rfl, y1, rfl⟩) | (go_at_call 8; (with_reducible refine (H2.out _).mono ?_); rintro e w2 ⟨d', p', t', g', n, rfl, hpg, y2, rfl⟩; have q1 := eq_parts d p t g d' p' t' g'; have z1 : w.heap.size < y2.now.heap.size := (by have a := y1.le; have b := y2.le; simp at a; omega); have z2 : ¬ w.heap.size = y2.now.heap.size := (by omega)))
  · go_ret
    refine ⟨_, rfl, fun h => ?_, ext_alloc (Ext.viab y1 y2) _⟩
    simp only [Bool.and_eq_true, decide_eq_true_eq] at h
    obtain ⟨h1, h2, h3, h4⟩ := h
    rw [← nats_inj h1, ← nats_inj h2, ← nats_inj h3, ← nats_inj h4]
    exact hpg (by assumption)
  · go_ret
    exact ⟨false, rfl, fun h => by simp at h, ext_alloc (Ext.viab y1 y2) _⟩

theorem PG.path {s d p t g : ByteArray} (h : PG s d p t g) : p.toList.isEmpty = false := by
  obtain ⟨n, _, hn⟩ := h.grp
  rw [empty_nats]
  refine decide_eq_false fun e => ?_
  have hP : Path (nats p) := by
    rcases hn with ⟨_, _, h3⟩ | ⟨_, rfl, h3, _⟩ <;> exact h3
  rw [e, path_iff] at hP
  have := hP [] (by simp [pieces])
  simp [compF] at this

theorem PG.tagSize {s d p t g : ByteArray} (h : PG s d p t g) : t.size ≤ 128 := by
  obtain ⟨n, hr, _⟩ := h.grp
  by_cases ht : nats t = []
  · rw [← nats_length, ht]; simp
  · rw [← nats_length]
    exact ((tag_iff _).1 (hr.tag ht)).1

set_option maxRecDepth 100000 in
set_option maxHeartbeats 2000000 in
/-- laws.FnRefPrintParses -/
theorem law_any (d p t g : ByteArray) (w : World) (hG0 : w.cell? ⟨10, 0, none⟩ = some (.int .i64 128)) (hG1 : w.cell? ⟨10, 1, none⟩ = some (.int .i64 512)) (hGl : 10 < w.heap.size) :
    Calls Tryz.prog 3 #[rv d p t g] w fun e w' => e = .returned (.bool true) ∧ ∃ y : Ext w, w' = y.now := by
  have H1 := Lib.hid (fun W : World => fits_any d p t g W)
  cases hf : fitsB d p t g with
  | false =>
    rw [hf] at H1
    clear hf
    go_enter Tryz.func3, Tryz.ntmps3
    go_wp2_with (first | (go_at_call 4; (with_reducible refine (H1.out _).mono ?_); rintro e w1 ⟨rfl, y1, rfl⟩))
    go_ret
    exact ⟨rfl, Ext.via y1⟩
  | true =>
    rw [hf] at H1
    have hsz : d.size ≤ 2147483647 ∧ p.size ≤ 2147483647 ∧ t.size ≤ 2147483647 ∧ g.size ≤ 2147483647 := by
      simp only [fitsB, Bool.and_eq_true, decide_eq_true_eq] at hf
      omega
    have H2 := Lib.hid (fun W : World => good_any d p t g (by omega) W)
    clear hf
    have k0 := Chg.alloc w (Obj.cells #[Value.string d, Value.string p, Value.string t, Value.string g] 23)
    have a0 : (w.alloc (Obj.cells #[Value.string d, Value.string p, Value.string t, Value.string g] 23)).cell? ⟨10, 0, none⟩ = some (.int .i64 128) := (World.cell?_of_block (k0.block 10 hGl (by simp))).trans hG0
    have a1 : (w.alloc (Obj.cells #[Value.string d, Value.string p, Value.string t, Value.string g] 23)).cell? ⟨10, 1, none⟩ = some (.int .i64 512) := (World.cell?_of_block (k0.block 10 hGl (by simp))).trans hG1
    have al : 10 < (w.alloc (Obj.cells #[Value.string d, Value.string p, Value.string t, Value.string g] 23)).heap.size := Nat.lt_of_lt_of_le hGl k0.size
    have A0 := Lib.hid a0
    have A1 := Lib.hid a1
    have AL := Lib.hid al
    clear a0 a1 al k0
    go_enter Tryz.func3, Tryz.ntmps3
    go_wp2_with (first | (go_at_call 4; (with_reducible refine (H1.out _).mono ?_); rintro e w1 ⟨rfl, y1, rfl⟩) | (go_at_call 5; (with_reducible refine (H2.out _).mono ?_); rintro e w2 ⟨b, rfl, hb, y2, rfl⟩))
    · go_ret
      exact ⟨rfl, Ext.viab y1 y2⟩
    · have hbt : b = true := by cases b with
        | true => rfl
        | false => simp_all
      subst hbt
      have hpg := hb rfl
      have hpe := hpg.path
      have hts := hpg.tagSize
      have hps := hpg.few
      obtain ⟨n, hr, hn⟩ := hpg.grp
      have hdg := hpg.dig
      have hss := specText_size d p t g
      obtain ⟨S, hS⟩ : ∃ S, S = specText d p t g := ⟨_, rfl⟩
      have H3 := Lib.hid (fun W : World => text_any d p t g hpe (by omega) W)
      rw [← hS] at H3 hr hss
      have H4 := Lib.hid (fun (y3 : Ext y2.now) => rp_any hr hn hps hdg hpe (by omega) y3.now
        ((((y1.trans y2).trans y3).cell 10 0 AL.out).trans A0.out) ((((y1.trans y2).trans y3).cell 10 1 AL.out).trans A1.out) (((y1.trans y2).trans y3).lt 10 AL.out))
      have q1 := eq_parts d p t g d p t g
      simp only [and_self, decide_true] at q1
      clear hb hpg hpe hr hn hdg hS
      go_wp2_with (first | (go_at_call 7; (with_reducible refine (H3.out _).mono ?_); rintro e w1 ⟨rfl, y3, rfl⟩) | (go_at_call 6; (with_reducible refine (H4.out y3).mono ?_); rintro e w2 ⟨rfl, y4, rfl⟩; have z1 : w.heap.size < y4.now.heap.size := (by have a := y1.le; have b := y2.le; have c := y3.le; have d := y4.le; simp at a; omega); have z2 : ¬ w.heap.size = y4.now.heap.size := (by omega); have c0 : y4.now.cell? ⟨w.heap.size, 0, none⟩ = some (.string d) := ((((y1.trans y2).trans y3).trans y4).cell w.heap.size 0 (by simp)).trans (by simp); have c1 : y4.now.cell? ⟨w.heap.size, 1, none⟩ = some (.string p) := ((((y1.trans y2).trans y3).trans y4).cell w.heap.size 1 (by simp)).trans (by simp); have c2 : y4.now.cell? ⟨w.heap.size, 2, none⟩ = some (.string t) := ((((y1.trans y2).trans y3).trans y4).cell w.heap.size 2 (by simp)).trans (by simp); have c3 : y4.now.cell? ⟨w.heap.size, 3, none⟩ = some (.string g) := ((((y1.trans y2).trans y3).trans y4).cell w.heap.size 3 (by simp)).trans (by simp)))
      go_ret
      exact ⟨rfl, ext_alloc (Ext.both ((Ext.one _ _).trans ((y1.trans y2).trans y3)) y4) _⟩

end Go.Proofs.YtooggfopjaaejaaGreatDoor
namespace Go.Proofs.YtooggfopjaaejaaGreatDoor
open Go.ChangeShapes Go.WideShapes Go.ChangeAt Go.RowKit Go.Joins

theorem own : ownKnob Tryz.prog.godebug = none := by kernel_rfl
theorem cells23 : Tryz.prog.cellsOf 23 = 4 := by kernel_rfl
theorem gTab : Tryz.prog.globalNamed "pub-timebook/pub/regexp.matchSize" = some 10 := by kernel_rfl
theorem gTabType : (Tryz.prog.globals[10]?).map (·.type) = some 163 := by kernel_rfl
theorem cells163 : Tryz.prog.cellsOf 163 = 5 := by kernel_rfl
theorem cells3 : Tryz.prog.cellsOf 3 = 1 := by kernel_rfl

set_option maxRecDepth 1000000 in
theorem table {W : World} (h : laidMet Tryz.prog Rows.fnRefPrintParsesRow.laid W) : Lib.TabIs Tryz.prog W "pub-timebook/pub/regexp.matchSize" .i64 [128, 512, 2048, 16384, 0] :=
  Lib.tabIs_of_head (rest := _) gTab gTabType Tryz.underlying163 Tryz.underlying3 cells3 cells163 h

set_option maxRecDepth 1000000 in
theorem contract (H : Type) (enc : TypeId × Value → H) (W : World) (base : Nat) (args : Array Value) (ds gs : List (DataW H)) (before : List MemPlace)
    (hval : ∀ (j : Nat) t v, Tryz.f3.params[j]? = some t → args[j]? = some v → Value.okWide Tryz.prog W .any base t v)
    (hW : DataW.Whole enc Tryz.prog Tryz.f3.params.toList Rows.fnRefPrintParsesSpec.vars false W args.toList ds gs before) (hL : laidMet Tryz.prog Rows.fnRefPrintParsesRow.laid W) :
    Calls Tryz.prog 3 args W fun e W' => ∃ v, e = .returned v ∧ Rows.fnRefPrintParsesSpec.post enc Tryz.prog Tryz.f3 false true false false W args v W' := by
  have hW' := hW
  obtain ⟨p, q, hA0, hV, rfl, hfz, hnd⟩ := hW
  have hA : DataW.TrodAll enc Tryz.prog W 0 (fun _ => true) true Tryz.f3.params.toList args.toList ds p := hA0
  rw [Tryz.params3] at hA hval
  obtain ⟨v0, d0, rfl, rfl, h0⟩ := trodAll_one hA
  obtain ⟨rfl, rfl⟩ := trodVars_none hV
  obtain ⟨c0, c1, c2, c3, y0, y1, y2, y3, m, rfl, rfl, rfl, hy0, hy1, hy2, hy3⟩ := open_agg4 Tryz.underlying23 (by kernel_rfl) cells23 (hval 0 23 v0 rfl rfl) h0
  obtain ⟨a, e0, rfl, wa⟩ := DataW.trod_string Tryz.underlying9 hy0
  obtain ⟨b, e1, rfl, wb⟩ := DataW.trod_string Tryz.underlying9 hy1
  obtain ⟨c, e2, rfl, wc⟩ := DataW.trod_string Tryz.underlying9 hy2
  obtain ⟨d, e3, rfl, wd⟩ := DataW.trod_string Tryz.underlying9 hy3
  simp at e0 e1 e2 e3
  subst e0 e1 e2 e3
  clear hA0 hval
  simp only [List.append_nil] at hW'
  have g0 : W.cell? ⟨10, 0, none⟩ = some (.int .i64 128) := (table hL).cell gTab 0 (by decide)
  have g1 : W.cell? ⟨10, 1, none⟩ = some (.int .i64 512) := (table hL).cell gTab 1 (by decide)
  have gl : 10 < W.heap.size := World.block_lt_of_cell? _ _ g0
  refine (law_any a b c d W g0 g1 gl).mono fun e W' ⟨he, hw⟩ => ?_
  obtain ⟨x, rfl⟩ := hw
  subst he
  have structReads : ∀ (W' : World) (sp : Nat → Bool), DataW.Trod enc Tryz.prog W' 0 sp true 23 (rv a b c d) (.agg [.lit (.string a.data.toList), .lit (.string b.data.toList), .lit (.string c.data.toList), .lit (.string d.data.toList)]) [] := fun W' sp =>
    shut_agg4 (y0 := (.lit (.string a.data.toList), [])) (y1 := (.lit (.string b.data.toList), [])) (y2 := (.lit (.string c.data.toList), [])) (y3 := (.lit (.string d.data.toList), [])) Tryz.underlying23 (by kernel_rfl) cells23
      ⟨1, by simp [DataW.trod, Tryz.underlying9, wa]⟩ ⟨1, by simp [DataW.trod, Tryz.underlying9, wb]⟩ ⟨1, by simp [DataW.trod, Tryz.underlying9, wc]⟩ ⟨1, by simp [DataW.trod, Tryz.underlying9, wd]⟩
  exact ⟨_, rfl, _, _, _, [], [], [], hW', trodAll_mk1 (shut_bool Tryz.underlying4 _), trodAll_mk1 (structReads _ _), rfl, x.below.frame _, fun h => by cases h⟩

theorem laid_met (os : Os) : laidMet Tryz.prog Rows.fnRefPrintParsesRow.laid ((World.doorLaid Tryz.prog 214 os).forCall (fun _ _ => 0) ⟨#[], #[.agg #[.string ⟨#[]⟩, .string ⟨#[]⟩, .string ⟨#[]⟩, .string ⟨#[]⟩]], []⟩).memory :=
  laidMet_of_run' 8 (by kernel_rfl) (by kernel_rfl)

theorem reads (os : Os) {H : Type} (enc : TypeId × Value → H) : ∃ places, DataW.whole enc Tryz.prog ((World.doorLaid Tryz.prog 214 os).forCall (fun _ _ => 0) ⟨#[], #[.agg #[.string ⟨#[]⟩, .string ⟨#[]⟩, .string ⟨#[]⟩, .string ⟨#[]⟩]], []⟩).memory Tryz.f3.params.toList Rows.fnRefPrintParsesSpec.vars false #[Value.agg #[.string ⟨#[]⟩, .string ⟨#[]⟩, .string ⟨#[]⟩, .string ⟨#[]⟩]].toList 8 = some ([.agg [.lit (.string []), .lit (.string []), .lit (.string []), .lit (.string [])]], [], places) :=
  ⟨[], by kernel_rfl⟩

set_option maxRecDepth 100000 in
theorem lifted (os : Os) (started : os.Started) (H : Type) (enc : TypeId × Value → H) (F : Stop.Interp) :
    ReturnsInHanded {} Tryz.checked os 3 .any ((OpenSpec.ofChange Rows.fnRefPrintParsesSpec).preRow enc Tryz.prog Tryz.f3 Rows.fnRefPrintParsesRow.domain false Rows.fnRefPrintParsesRow.laid) (((OpenSpec.ofChange Rows.fnRefPrintParsesSpec).at F).post enc Tryz.prog Tryz.f3 false true false false) := by
  obtain ⟨places, hx⟩ := reads os enc
  refine returnsInHanded_of_row (C := Tryz.checked) (s := OpenSpec.ofChange Rows.fnRefPrintParsesSpec) own started (by kernel_rfl) Tryz.func3
    (witness_row_atRef (enc := enc) (C := Tryz.checked) false (World.doorLaid Tryz.prog 214 os) #[.agg #[.string ⟨#[]⟩, .string ⟨#[]⟩, .string ⟨#[]⟩, .string ⟨#[]⟩]] rfl (by kernel_rfl) (by kernel_rfl) (by kernel_rfl)
      (OpenSpec.preRow_of_cond 8 hx (by kernel_rfl) (fun k hk => by cases hk) (by kernel_rfl) (laid_met os))) ?_
  intro W base args ds gs before hval hW _ _ _ hL _ _
  exact contract H enc W base args ds gs before hval hW hL

theorem said : Rows.FnRefPrintParsesSaid :=
  OpenClaim.holds_of_cond 3 Tryz.f3 rfl rfl rfl rfl rfl rfl rfl ⟨rfl, rfl, rfl, rfl, rfl⟩ rfl rfl rfl rfl rfl (by kernel_rfl) Tryz.func3 (by kernel_rfl)
    (of_decide_eq_true (by kernel_rfl)) (by unfold Func.isWrapper; first | (rw [if_pos (by decide +kernel)]; kernel_rfl) | (rw [if_neg (by decide +kernel)]; exact ⟨rfl, rfl⟩))
    (fun os started H enc _ F => by rw [OpenClaim.pre_eq_preRow]; exact lifted os started H enc F)

theorem plainRow (f : FuncId) (fn : Func) (hf : Tryz.pinned.checked.prog.funcNamed "pub-timebook/laws.FnRefPrintParses" = some f) (hfn : Tryz.pinned.checked.prog.funcs[f]? = some fn) :
    true = Tryz.pinned.checked.prog.looks [] ∧ ∀ (j : Nat) t, fn.params[j]? = some t → Tryz.pinned.checked.prog.wantsStandIn t = false := by
  obtain rfl : f = 3 := Option.some.inj ((show Tryz.prog.funcNamed "pub-timebook/laws.FnRefPrintParses" = some 3 by kernel_rfl).symm.trans hf) |>.symm
  obtain rfl : fn = Tryz.f3 := (Option.some.inj (Tryz.func3.symm.trans hfn)).symm
  refine ⟨by kernel_rfl, fun j t ht => ?_⟩
  rw [Tryz.params3] at ht
  obtain rfl : t = 23 := by simpa using Array.mem_of_getElem? ht
  exact (show Tryz.prog.wantsStandIn 23 = false by kernel_rfl)

theorem card : Rows.FnRefPrintParsesCardSaid :=
  Claim7.holds_tied_plain_at .later [] _ _ _ _ said (fun _ h => by cases h) (by kernel_rfl) (fun _ h => by cases h) fnRefPrintParses_row_tie rfl ⟨rfl, rfl⟩ (by kernel_rfl) rfl plainRow (by kernel_rfl)

#print axioms card

end Go.Proofs.YtooggfopjaaejaaGreatDoor
