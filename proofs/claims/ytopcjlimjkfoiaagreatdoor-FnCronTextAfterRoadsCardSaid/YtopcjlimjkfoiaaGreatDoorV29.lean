/-
FnCronTextAfterRoads: the calendar, the schedules, their texts and the zones, part 29 of 34.
-/
import Derived.Test.YtopcjlimjkfoiaaGreatDoorV08
import Derived.Test.YtopcjlimjkfoiaaGreatDoorV01
import Derived.Defers
import Derived.Recover
import Derived.Test.YtopcjlimjkfoiaaGreatDoorV05
import Derived.IntWalk
import Derived.Test.YtopcjlimjkfoiaaGreatDoorV28
import Derived.Test.YtopcjlimjkfoiaaGreatDoorV26
set_option linter.all false
namespace Go.Proofs.YtopcjlimjkfoiaaGreatDoor
open Go.RowKit
attribute [local go_sem] Ext.cell Ext.frozen Ext.lt Ext.lt_add Ext.cell2 Ext.frozen2

theorem opt_pos (o i : Nat) (ho : o < 512) (hi : i < 9) (c : Int) (hc : ((2 ^ i : Nat) : Int) = c) : decide (0 < bits .and .i64 (o : Int) c) = o.testBit i := by
  rw [← hc, opt_and o i ho hi]
  have : 0 < 2 ^ i := Nat.pow_pos (by decide)
  cases o.testBit i
  · rfl
  · simp only [if_true]
    exact decide_eq_true (by omega)

theorem newParser_any (o : Nat) (ho : o < 512) (hno : ¬ (o.testBit 1 = true ∧ o.testBit 7 = true)) (w : World) :
    Calls Tryz.prog 40 #[.int .i64 o] w fun e w' => e = .returned (.agg #[.int .i64 o]) ∧ ∃ y : Ext w, w' = y.now := by
  have e1 := opt_pos o 1 ho (by decide) 2 (by decide)
  have e7 := opt_pos o 7 ho (by decide) 128 (by decide)
  generalize o.testBit 1 = b1 at *
  generalize o.testBit 7 = b7 at *
  cases b1 <;> cases b7
  case true.true => exact absurd ⟨rfl, rfl⟩ hno
  all_goals
    clear hno
    go_enter Tryz.func40, Tryz.ntmps40
    go_wp2
    exact bodyPost_ret (v := .agg #[.int .i64 o]) (by simp [results, Tryz.results40, go_sem]) rfl ⟨rfl, Ext.alloc1 _ _⟩

theorem catch_idle (p : Addr) (w : World) :
    CallsD Tryz.prog 39 #[.pointer (some p)] .returning w fun e u' w' => e = .returned (.tuple #[]) ∧ u' = .returning ∧ w' = w := by
  refine callsD_of_wpS Tryz.func39 rfl fun c₀ cs hu => ?_
  apply wpS_seq
  apply wpS_region
  simp [wpOpsS, go_sem, recoverD, hu, Tryz.ntmps39, Exit.thenS]
  refine wpS_cond (t := false) (by simp [Act.eval, Array.replicate]) ?_
  simp only [Bool.false_eq_true, if_false]
  refine wpS_of_wp (wp_skip ?_)
  cases c₀
  simp_all [bodyPostS, results, Tryz.results39, Exit.thenS]

theorem parser_any (o : Nat) (ho : o < 512) (hno : ¬ (o.testBit 1 = true ∧ o.testBit 7 = true)) (w : World) :
    Calls Tryz.prog 27 #[.int .i64 o] w fun e w' => e = .returned (.tuple #[.agg #[.int .i64 o], .bool false]) ∧ ∃ y : Ext w, w' = y.now := by
  have hmf : ∀ (fn : Fn) (first cap : Array Value) (w : World), (Instr.makeFunc fn first cap).run Tryz.prog w = .ok (.func fn first cap) w := fun _ _ _ _ => rfl
  have hn := Lib.hid (fun (W : World) => newParser_any o ho hno W)
  clear hno
  go_enter_defers Tryz.func27, Tryz.ntmps27
  go_wp2_with (go_at_call 40; (with_reducible refine (hn.out _).mono ?_); rintro e9 w9 ⟨rfl, y9, rfl⟩)
  refine leaves_cons (f := 39) (args := #[.pointer (some ⟨w.heap.size + 1, 0, none⟩)]) (by simp) (by simp [go_sem]) ?_
  refine (catch_idle ⟨w.heap.size + 1, 0, none⟩ _).mono ?_
  rintro e u' w'' ⟨rfl, rfl, rfl⟩
  have c0 : y9.now.cell? ⟨w.heap.size, 0, none⟩ = some (.int .i64 0) := by rw [y9.cell _ _ (by simp; omega)]; simp [go_sem]
  have c1 : y9.now.cell? ⟨w.heap.size + 1, 0, none⟩ = some (.bool false) := by rw [y9.cell _ _ (by simp)]; simp [go_sem]
  simp [Leaves, settle, results, Tryz.results27, go_sem, c0, c1]
  exact Ext.of (((((Ext.one w _).trans (Ext.one _ _)).trans y9).below.setCell (by simp) _).setCell (by simp) _)

end Go.Proofs.YtopcjlimjkfoiaaGreatDoor
namespace Go.Proofs.YtopcjlimjkfoiaaGreatDoor
open Go.RowKit Go.Cal
attribute [local go_sem] Ext.cell Ext.frozen Ext.lt Ext.lt_add Ext.cell2 Ext.frozen2
attribute [local irreducible] wpQuiet

theorem ebelow2 {w w1 : World} {o1 o2 : Obj} (hb : Below ((w.alloc o1).alloc o2).heap.size ((w.alloc o1).alloc o2) w1) : Below w.heap.size w w1 :=
  (((Below.refl _ _).alloc (Nat.le_refl _) _).alloc (by simp) _).trans (hb.mono (by simp; omega))
theorem ebelow3 {w w1 : World} {o1 o2 o3 : Obj} (hb : Below (((w.alloc o1).alloc o2).alloc o3).heap.size (((w.alloc o1).alloc o2).alloc o3) w1) : Below w.heap.size w w1 :=
  ((((Below.refl _ _).alloc (Nat.le_refl _) _).alloc (by simp) _).alloc (by simp; omega) _).trans (hb.mono (by simp; omega))

theorem plainMoment_any (n x : Int) (p : Option Addr) (w : World) (h0 : 0 ≤ n) (h1 : n < 1073741824) (g0 : -9223372036854775808 ≤ x - 62135596800) (g1 : x ≤ 9223372036854775807) :
    Calls Tryz.prog 58 #[tv n x p] w fun e w' => e = .returned (.agg #[.int .i64 (x - 62135596800), .int .i64 n]) ∧ ∃ y : Ext w, w' = y.now := by
  have hunix := Lib.hid (fun (W : World) (y : Ext W) => calls_ext (x := y) (to_ext (unixM_any n x p y.now h0 h1 g0 g1)))
  have hnano := Lib.hid (fun (W : World) (y : Ext W) => calls_ext (x := y) (to_ext (nanoM_any n x p y.now h0 h1)))
  go_enter Tryz.func58, Tryz.ntmps58
  go_wp2
  refine wp_region_ext_tail 5 (by kernel_rfl) (by kernel_rfl) ?_
  simp only [List.take_succ_cons, List.take_zero, List.drop_succ_cons, List.drop_zero]
  repeat (quiet_step (first
    | (go_at_call 83; with_reducible exact hunix.out _ _)
    | (go_at_call 84; with_reducible exact hnano.out _ _)))
  refine wpQuiet_nil ?_
  rintro w' ⟨y, rfl⟩
  go_wp2
  exact bodyPost_ret (v := .agg #[.int .i64 (x - 62135596800), .int .i64 n]) (by simp [results, Tryz.results58, go_sem]) rfl
    ⟨rfl, Ext.of (((ebelow2 y.below).setCell (by simp) _).setCell (by simp) _)⟩

def ansOf (n x : Int) : Value := if n = 0 ∧ x = 0 then .tuple #[.agg #[.int .i64 0, .int .i64 0], .bool false] else .tuple #[.agg #[.int .i64 (x - 62135596800), .int .i64 n], .bool true]

theorem answer_any (n x : Int) (p : Option Addr) (w : World) (h0 : 0 ≤ n) (h1 : n < 1073741824) (g0 : -9223372036854775808 ≤ x - 62135596800) (g1 : x ≤ 9223372036854775807) :
    Calls Tryz.prog 30 #[tv n x p] w fun e w' => e = .returned (ansOf n x) ∧ ∃ y : Ext w, w' = y.now := by
  have hz := Lib.hid (fun (W : World) => isZero_any n x p W)
  have hp := Lib.hid (fun (W : World) => plainMoment_any n x p W h0 h1 g0 g1)
  by_cases h : n = 0 ∧ x = 0
  · have e : (n == 0 && x == 0) = true := by rw [h.1, h.2]; rfl
    have ea : ansOf n x = .tuple #[.agg #[.int .i64 0, .int .i64 0], .bool false] := if_pos h
    rw [e] at hz
    rw [ea]
    clear h e ea
    go_enter Tryz.func30, Tryz.ntmps30
    go_wp2_with (go_at_call 57; (with_reducible refine (hz.out _).mono ?_); rintro e9 w9 ⟨rfl, y9, rfl⟩)
    exact bodyPost_ret (v := .tuple #[.agg #[.int .i64 0, .int .i64 0], .bool false]) (by simp [results, Tryz.results30, go_sem]) rfl ⟨rfl, Ext.of (((ebelow2 y9.below).setCell (by simp) _).setCell (by simp) _)⟩
  · have e : (n == 0 && x == 0) = false := by
      rw [Bool.and_eq_false_iff]
      by_cases h1 : n = 0
      · exact .inr (beq_eq_false_iff_ne.2 (fun h2 => h ⟨h1, h2⟩))
      · exact .inl (beq_eq_false_iff_ne.2 h1)
    have ea : ansOf n x = .tuple #[.agg #[.int .i64 (x - 62135596800), .int .i64 n], .bool true] := if_neg h
    rw [e] at hz
    rw [ea]
    clear h e ea
    go_enter Tryz.func30, Tryz.ntmps30
    go_wp2_with (first
      | (go_at_call 57; (with_reducible refine (hz.out _).mono ?_); rintro e9 w9 ⟨rfl, y9, rfl⟩)
      | (go_at_call 58; (with_reducible refine (hp.out _).mono ?_); rintro e8 w8 ⟨rfl, y8, rfl⟩))
    exact bodyPost_ret (v := .tuple #[.agg #[.int .i64 (x - 62135596800), .int .i64 n], .bool true]) (by simp [results, Tryz.results30, go_sem]) rfl ⟨rfl, Ext.of (((ebelow2 (y9.trans y8).below).setCell (by simp) _).setCell (by simp) _)⟩

theorem moment_l {w : World} {l : Nat} {p : Option Addr} {z : Zn} (h : Lpl w l p z) (s n : Int) (g0 : -9223372036854775808 ≤ s + 62135596800) (g1 : s + 62135596800 ≤ 9223372036854775807) (h0 : 0 ≤ n) (h1 : n < 1000000000) :
    Calls Tryz.prog 31 #[.agg #[.int .i64 s, .int .i64 n], .pointer (some ⟨l, 0, none⟩)] w fun e w' => e = .returned (tv n (s + 62135596800) p) ∧ ∃ y : Ext w, w' = y.now := by
  have hu := Lib.hid (fun (W : World) => to_ext (unix_any s n W g0 g1 h0 h1))
  have hi := Lib.hid (fun (o o2 : Obj) (x : Ext ((w.alloc o).alloc o2)) => in_l (((h.ext (Ext.one w o)).ext (Ext.one _ o2)).ext x) n (s + 62135596800) none h0 (by omega))
  go_enter Tryz.func31, Tryz.ntmps31
  go_wp2_with (first
    | (go_at_call 59; (with_reducible refine (hu.out _).mono ?_); rintro e9 w9 ⟨rfl, y9, rfl⟩)
    | (go_at_call 60; (with_reducible refine (hi.out _ _ _).mono ?_); rintro e8 w8 ⟨rfl, y8, rfl⟩))
  exact bodyPost_ret (v := tv n (s + 62135596800) p) (by simp [results, Tryz.results31, go_sem]) rfl
    ⟨rfl, Ext.of ((((ebelow2 (y9.trans y8).below).setCell (by simp) _).setCell (by simp) _).setCell (by simp) _)⟩

theorem eparts_of (e : Int) (h0 : -1000000000 < e) (h1 : e ≤ 9223372036854775807) : ∃ q r : Int, e.tdiv 1000000000 = q ∧ e.tmod 1000000000 = r ∧ -1000000000 < r ∧ r < 1000000000 ∧ -10000000000 < q ∧ q < 10000000000 ∧ e = 1000000000 * q + r := by
  refine ⟨_, _, rfl, rfl, ?_⟩
  have h2 := Int.mul_tdiv_add_tmod e 1000000000
  rcases Int.lt_or_le e 0 with h | h
  · have e0 : e.tdiv 1000000000 = 0 := by
      obtain ⟨k, rfl⟩ : ∃ k : Int, e = -k := ⟨-e, by omega⟩
      rw [Int.neg_tdiv, Int.tdiv_eq_zero_of_lt (by omega) (by omega)]; rfl
    rw [e0] at h2
    omega
  · have e1 := Int.tdiv_eq_ediv_of_nonneg (b := 1000000000) h
    have e2 := Int.tmod_eq_emod_of_nonneg (b := 1000000000) h
    omega

theorem delayNext_any (n x d : Int) (p : Option Addr) (w : World) (h0 : 0 ≤ n) (h1 : n < 1000000000) (g0 : 0 ≤ x) (g1 : x ≤ 1000000000000000) (d0 : 0 ≤ d) (d1 : d ≤ 9223372036854775807) :
    Calls Tryz.prog 193 #[.agg #[.int .i64 d], tv n x p] w fun e w' => e = .returned (tv (d % 1000000000) (x + d / 1000000000) p) ∧ ∃ y : Ext w, w' = y.now := by
  have hadd := Lib.hid (fun (W : World) (y : Ext W) => (show Calls Tryz.prog 162 #[tv n x p, .int .i64 (d - n)] y.now fun e w'' => e = .returned (tv (d % 1000000000) (x + d / 1000000000) p) ∧ ∃ y : Ext W, w'' = y.now from by
    obtain ⟨q, r, e1, e2, r0, r1, q0, q1, he⟩ := eparts_of (d - n) (by omega) (by omega)
    exact calls_ext (x := y) (to_ext (add_qr n x (d - n) q r p y.now h0 h1 (by omega) g1 e1 e2 r0 r1 q0 q1 (d % 1000000000) (x + d / 1000000000) (by omega) (by omega)))))
  have hnano := Lib.hid (fun (W : World) (y : Ext W) => calls_ext (x := y) (to_ext (nanoM_any n x p y.now h0 (by omega))))
  have hw1 : IntKind.i64.wrap n = n := IntWalk.i64_in _ (by omega)
  have hw2 : IntKind.i64.wrap (d - n) = d - n := IntWalk.i64_in _ (by omega)
  go_enter Tryz.func193, Tryz.ntmps193
  go_wp2
  refine wp_region_ext_tail 8 (by kernel_rfl) (by kernel_rfl) ?_
  simp only [List.take_succ_cons, List.take_zero, List.drop_succ_cons, List.drop_zero]
  repeat (quiet_step (first
    | (go_at_call 84; with_reducible exact hnano.out _ _)
    | (go_at_call 162; with_reducible exact hadd.out _ _)))
  refine wpQuiet_nil ?_
  rintro w' ⟨y, rfl⟩
  go_wp2
  exact bodyPost_ret (v := tv (d % 1000000000) (x + d / 1000000000) p) (by simp [results, Tryz.results193, go_sem]) rfl
    ⟨rfl, Ext.of ((((ebelow3 y.below).setCell (by simp; omega) _).setCell (by simp; omega) _).setCell (by simp; omega) _)⟩

end Go.Proofs.YtopcjlimjkfoiaaGreatDoor
namespace Go.Proofs.YtopcjlimjkfoiaaGreatDoor
open Go.RowKit Go.Cal
attribute [local go_sem] Ext.cell Ext.frozen Ext.lt Ext.lt_add Ext.cell2 Ext.frozen2
attribute [local irreducible] wpQuiet

inductive Kd
  | sets (f : Nat → Nat)
  | every (d : Int)

def Kd.Ok : Kd → Prop
  | .sets f => ∀ i, i < 6 → f i < 18446744073709551616
  | .every d => 1000000000 ≤ d ∧ d ≤ 4611686018427387904 ∧ d % 1000000000 = 0

def schV : Kd → Value
  | .sets f => .agg #[.bool false, .int .i64 0, .int .u64 (f 0), .int .u64 (f 1), .int .u64 (f 2), .int .u64 (f 3), .int .u64 (f 4), .int .u64 (f 5)]
  | .every d => .agg #[.bool true, .int .i64 d, .int .u64 0, .int .u64 0, .int .u64 0, .int .u64 0, .int .u64 0, .int .u64 0]

def IfAt (w : World) (p : Option Addr) : Kd → Value → Prop
  | .sets f, v => ∃ S, v = .iface 93 (.pointer (some ⟨S, 0, none⟩)) ∧ Sch w S f ∧ w.cell? ⟨S, 6, none⟩ = some (.pointer p)
  | .every d, v => v = .iface 98 (.agg #[.int .i64 d])

theorem schedule_any (K : Kd) (hK : K.Ok) (p : Option Addr) (w : World) :
    Calls Tryz.prog 33 #[schV K, .pointer p] w fun e w' => (∃ v, e = .returned v ∧ IfAt w' p K v) ∧ ∃ y : Ext w, w' = y.now := by
  cases K with
  | sets f =>
    have HB := Lib.hid hK
    clear hK
    obtain ⟨a0, h0⟩ : ∃ a : Int, a = f 0 := ⟨_, rfl⟩
    obtain ⟨a1, h1⟩ : ∃ a : Int, a = f 1 := ⟨_, rfl⟩
    obtain ⟨a2, h2⟩ : ∃ a : Int, a = f 2 := ⟨_, rfl⟩
    obtain ⟨a3, h3⟩ : ∃ a : Int, a = f 3 := ⟨_, rfl⟩
    obtain ⟨a4, h4⟩ : ∃ a : Int, a = f 4 := ⟨_, rfl⟩
    obtain ⟨a5, h5⟩ : ∃ a : Int, a = f 5 := ⟨_, rfl⟩
    simp only [schV]
    rw [← h0, ← h1, ← h2, ← h3, ← h4, ← h5]
    have H := Lib.hid (And.intro h0 (And.intro h1 (And.intro h2 (And.intro h3 (And.intro h4 h5)))))
    clear h0 h1 h2 h3 h4 h5
    go_enter Tryz.func33, Tryz.ntmps33
    go_wp2
    go_ret
    obtain ⟨h0, h1, h2, h3, h4, h5⟩ := H.out
    refine ⟨⟨_, rfl, _, rfl, ⟨?_, ?_, ?_, ?_, ?_, ?_, ?_, HB.out⟩, ?_⟩, Ext.alloc2 _ _ _⟩
    · rw [← h0]; simp [go_sem]
    · rw [← h1]; simp [go_sem]
    · rw [← h2]; simp [go_sem]
    · rw [← h3]; simp [go_sem]
    · rw [← h4]; simp [go_sem]
    · rw [← h5]; simp [go_sem]
    · simp
    · simp [go_sem]
  | every d =>
    clear hK
    simp only [schV]
    go_enter Tryz.func33, Tryz.ntmps33
    go_wp2
    go_ret
    exact ⟨⟨_, rfl, rfl⟩, Ext.alloc1 _ _⟩

theorem asserts_spec (v : Value) (W : World) : (Instr.typeAssert (.iface 93 v) 71 93 true).run Tryz.prog W = .ok (.tuple #[v, .bool true]) W := by kernel_rfl
theorem asserts_no (v : Value) (W : World) : (Instr.typeAssert (.iface 98 v) 71 93 true).run Tryz.prog W = .ok (.tuple #[.pointer none, .bool false]) W := by kernel_rfl
theorem asserts_delay (v : Value) (W : World) : (Instr.typeAssert (.iface 98 v) 71 98 true).run Tryz.prog W = .ok (.tuple #[v, .bool true]) W := by kernel_rfl

set_option maxRecDepth 1000000 in
set_option maxHeartbeats 400000 in
theorem plainSchedule_any {K : Kd} {p : Option Addr} {w : World} {v : Value} (h : IfAt w p K v) :
    Calls Tryz.prog 28 #[v, .nilIface] w fun e w' => e = .returned (.tuple #[schV K, .bool true]) ∧ ∃ y : Ext w, w' = y.now := by
  cases K with
  | sets f =>
    obtain ⟨S, rfl, hS, h6⟩ := h
    have ht1 := asserts_spec
    obtain ⟨c0, c1, c2, c3, c4, c5, hSl, _⟩ := hS
    clear h6
    have hSl1 : S < w.heap.size + 1 := by omega
    obtain ⟨a0, h0⟩ : ∃ a : Int, a = f 0 := ⟨_, rfl⟩
    obtain ⟨a1, h1⟩ : ∃ a : Int, a = f 1 := ⟨_, rfl⟩
    obtain ⟨a2, h2⟩ : ∃ a : Int, a = f 2 := ⟨_, rfl⟩
    obtain ⟨a3, h3⟩ : ∃ a : Int, a = f 3 := ⟨_, rfl⟩
    obtain ⟨a4, h4⟩ : ∃ a : Int, a = f 4 := ⟨_, rfl⟩
    obtain ⟨a5, h5⟩ : ∃ a : Int, a = f 5 := ⟨_, rfl⟩
    simp only [schV]
    rw [← h0] at c0 ⊢
    rw [← h1] at c1 ⊢
    rw [← h2] at c2 ⊢
    rw [← h3] at c3 ⊢
    rw [← h4] at c4 ⊢
    rw [← h5] at c5 ⊢
    clear h0 h1 h2 h3 h4 h5
    go_enter Tryz.func28, Tryz.ntmps28
    go_wp2
    refine wp_region_ext_tail 25 (by kernel_rfl) (by kernel_rfl) ?_
    simp only [List.take_succ_cons, List.take_zero, List.drop_succ_cons, List.drop_zero]
    repeat (quiet_step (fail))
    refine wpQuiet_nil ?_
    rintro w' ⟨y, rfl⟩
    go_wp2
    exact bodyPost_ret (v := .tuple #[.agg #[.bool false, .int .i64 0, .int .u64 a0, .int .u64 a1, .int .u64 a2, .int .u64 a3, .int .u64 a4, .int .u64 a5], .bool true]) (by simp [results, Tryz.results28, go_sem]) rfl
      ⟨rfl, by
        refine Ext.of ?_
        repeat (refine Below.setCell ?_ (by simp) _)
        exact ((Ext.one w _).trans y).below⟩
  | every d =>
    obtain rfl := h
    simp only [schV]
    have ht1 := asserts_no
    have ht2 := asserts_delay
    go_enter Tryz.func28, Tryz.ntmps28
    go_wp2
    exact bodyPost_ret (v := .tuple #[.agg #[.bool true, .int .i64 d, .int .u64 0, .int .u64 0, .int .u64 0, .int .u64 0, .int .u64 0, .int .u64 0], .bool true]) (by simp [results, Tryz.results28, go_sem]) rfl
      ⟨rfl, by
        refine Ext.of ?_
        repeat (first | refine Below.setCell ?_ (by simp) _ | refine Below.alloc ?_ (by simp) _)
        exact Below.refl _ _⟩

end Go.Proofs.YtopcjlimjkfoiaaGreatDoor
namespace Go.Proofs.YtopcjlimjkfoiaaGreatDoor
open Go.RowKit
attribute [local go_sem] Ext.cell Ext.frozen Ext.lt Ext.lt_add Ext.cell2 Ext.frozen2

def dly (d : Int) : Int := if d < 1000000000 then 1000000000 else d - d % 1000000000

theorem dly_bd (d : Int) (h1 : d ≤ 4611686018427387904) : 1000000000 ≤ dly d ∧ dly d ≤ 4611686018427387904 ∧ dly d % 1000000000 = 0 := by
  unfold dly
  split <;> omega

theorem nanos_any (d : Int) (w : World) : Calls Tryz.prog 98 #[.int .i64 d] w fun e w' => e = .returned (.int .i64 d) ∧ w' = w := by
  go_enter Tryz.func98, Tryz.ntmps98
  go_wp2
  go_ret
  exact ⟨rfl, rfl⟩

theorem every_any (d : Int) (h0 : -4611686018427387904 ≤ d) (h1 : d ≤ 4611686018427387904) (w : World) : Calls Tryz.prog 77 #[.int .i64 d] w fun e w' => e = .returned (.agg #[.int .i64 (dly d)]) ∧ ∃ y : Ext w, w' = y.now := by
  by_cases h : d < 1000000000
  · have hd : dly d = 1000000000 := if_pos h
    rw [hd]
    clear hd
    go_enter Tryz.func77, Tryz.ntmps77
    go_wp2_with (go_at_call 98; (with_reducible refine (nanos_any _ _).mono ?_); rintro e9 w9 ⟨rfl, rfl⟩)
    exact bodyPost_ret (v := .agg #[.int .i64 1000000000]) (by simp [results, Tryz.results77, go_sem]) rfl ⟨rfl, Ext.alloc1 _ _⟩
  · have hd : dly d = d - d % 1000000000 := if_neg h
    rw [hd]
    clear hd
    go_enter Tryz.func77, Tryz.ntmps77
    go_wp2_with (go_at_call 98; (with_reducible refine (nanos_any _ _).mono ?_); rintro e9 w9 ⟨rfl, rfl⟩)
    exact bodyPost_ret (v := .agg #[.int .i64 (d - d % 1000000000)]) (by simp [results, Tryz.results77, go_sem]) rfl ⟨rfl, Ext.alloc1 _ _⟩

set_option maxRecDepth 1000000 in
theorem desc_every (s : ByteArray) (hs : s.size < 100000000000) (hb : begins (nats s) everyL = true) (hf : DurFine ((nats s).drop 7)) :
    ∃ d : Int, (1000000000 ≤ d ∧ d ≤ 4611686018427387904 ∧ d % 1000000000 = 0) ∧ ∀ (w : World) (p : Option Addr), Calls Tryz.prog 46 #[.string s, .pointer p] w fun e w' => e = .returned (.tuple #[.iface 98 (.agg #[.int .i64 d]), .nilIface]) ∧ ∃ y : Ext w, w' = y.now := by
  have h7 := begins_len hb
  rw [nats_length] at h7
  have h7' : 7 ≤ s.size := h7
  have hnd : nats (s.extract 7 s.size) = (nats s).drop 7 := nats_drop s 7
  obtain ⟨d, ⟨d0, d1⟩, hd⟩ := pdur_any (s.extract 7 s.size) (by rw [ByteArray.size_extract]; omega) (by rw [hnd]; exact hf)
  refine ⟨dly d, dly_bd d d1, fun w p => ?_⟩
  have HD := Lib.hid hd
  have HE := Lib.hid (fun (W : World) => every_any d d0 d1 W)
  have hp := Lib.hid (fun (W : World) => (show Calls Tryz.prog 42 #[.string s, .string ⟨#[64, 101, 118, 101, 114, 121, 32]⟩] W fun e w' => e = .returned (.bool true) ∧ w' = W from by
    have h1 := hasPrefix_any s ⟨#[64, 101, 118, 101, 114, 121, 32]⟩ W (by omega) (by decide)
    rw [show nats ⟨#[64, 101, 118, 101, 114, 121, 32]⟩ = everyL from rfl, hb] at h1
    exact h1))
  have kk : ∀ L : List UInt8, begins (L.map UInt8.toNat) everyL = false → (s.toList == L) = false := fun L hL => by
    rw [lit_nats]
    exact decide_eq_false (fun e => by rw [e, hL] at hb; cases hb)
  have k0 := kk [64, 121, 101, 97, 114, 108, 121] (by decide)
  have k1 := kk [64, 97, 110, 110, 117, 97, 108, 108, 121] (by decide)
  have k2 := kk [64, 109, 111, 110, 116, 104, 108, 121] (by decide)
  have k3 := kk [64, 119, 101, 101, 107, 108, 121] (by decide)
  have k4 := kk [64, 100, 97, 105, 108, 121] (by decide)
  have k5 := kk [64, 109, 105, 100, 110, 105, 103, 104, 116] (by decide)
  have k6 := kk [64, 104, 111, 117, 114, 108, 121] (by decide)
  have k7 : (7 : Int) ≤ (s.size : Int) := by omega
  clear kk hd hf hb hnd
  obtain ⟨z, hz⟩ : ∃ z : Ext w, z = Ext.refl w := ⟨_, rfl⟩
  change Calls Tryz.prog 46 #[.string s, .pointer p] (Ext.refl w).now fun e w' => _ ∧ ∃ y : Ext w, w' = y.now
  rw [← hz]
  clear hz
  go_enter Tryz.func46, Tryz.ntmps46
  go_wp2_with (first
    | (go_at_call 42; (with_reducible refine (hp.out _).mono ?_); rintro e9 w9 ⟨rfl, rfl⟩)
    | (go_at_call 76; (with_reducible refine (HD.out _).mono ?_); rintro e9 w9 ⟨rfl, y9, rfl⟩; obtain ⟨z, hz⟩ : ∃ z : Ext w, y9.now = z.now := ⟨z.trans y9, rfl⟩; rw [hz]; clear hz)
    | (go_at_call 77; (with_reducible refine (HE.out _).mono ?_); rintro e9 w9 ⟨rfl, y9, rfl⟩; obtain ⟨z, hz⟩ : ∃ z : Ext w, y9.now = z.now := ⟨z.trans y9, rfl⟩; rw [hz]; clear hz))
  go_ret2
  exact ⟨rfl, z, rfl⟩

def DescRes (p : Option Addr) : Kd → Ending → World → Prop
  | .sets f, e, w' => SchedP f p e w'
  | .every d, e, _ => e = .returned (.tuple #[.iface 98 (.agg #[.int .i64 d]), .nilIface])


theorem desc_any (s : ByteArray) (hs : s.size < 100000000000) (hf : DescFine (nats s)) : ∃ K : Kd, (∀ d, K = .every d → K.Ok) ∧ ∀ (w : World) (p : Option Addr), Calls Tryz.prog 46 #[.string s, .pointer p] w fun e w' => DescRes p K e w' ∧ ∃ y : Ext w, w' = y.now := by
  rcases hf with h | ⟨_, hb, hd⟩
  · have hc : nats s = [64, 121, 101, 97, 114, 108, 121] ∨ nats s = [64, 97, 110, 110, 117, 97, 108, 108, 121] ∨ nats s = [64, 109, 111, 110, 116, 104, 108, 121] ∨ nats s = [64, 119, 101, 101, 107, 108, 121] ∨ nats s = [64, 100, 97, 105, 108, 121] ∨ nats s = [64, 109, 105, 100, 110, 105, 103, 104, 116] ∨ nats s = [64, 104, 111, 117, 114, 108, 121] := by
      generalize nats s = l at h
      unfold descOf at h
      repeat (first | (split at h; · rename_i h9; first | (rcases h9 with h9 | h9 <;> simp [h9]) | simp [h9]) | exact absurd rfl h)
    rcases hc with e | e | e | e | e | e | e
    · obtain ⟨f, hf⟩ := desc_yearly s e
      exact ⟨.sets f, (fun d h => by cases h), hf⟩
    · obtain ⟨f, hf⟩ := desc_annually s e
      exact ⟨.sets f, (fun d h => by cases h), hf⟩
    · obtain ⟨f, hf⟩ := desc_monthly s e
      exact ⟨.sets f, (fun d h => by cases h), hf⟩
    · obtain ⟨f, hf⟩ := desc_weekly s e
      exact ⟨.sets f, (fun d h => by cases h), hf⟩
    · obtain ⟨f, hf⟩ := desc_daily s e
      exact ⟨.sets f, (fun d h => by cases h), hf⟩
    · obtain ⟨f, hf⟩ := desc_midnight s e
      exact ⟨.sets f, (fun d h => by cases h), hf⟩
    · obtain ⟨f, hf⟩ := desc_hourly s e
      exact ⟨.sets f, (fun d h => by cases h), hf⟩
  · obtain ⟨d, hd0, hd1⟩ := desc_every s hs hb hd
    exact ⟨.every d, (fun d' h => by cases h; exact hd0), hd1⟩

end Go.Proofs.YtopcjlimjkfoiaaGreatDoor
namespace Go.Proofs.YtopcjlimjkfoiaaGreatDoor
open Go.RowKit
attribute [local go_sem] Ext.cell Ext.frozen Ext.lt Ext.lt_add Ext.cell2 Ext.frozen2

theorem text_of (l : List Nat) (h : ∀ x ∈ l, x < 256) : ∃ t : ByteArray, nats t = l := by
  refine ⟨⟨(l.map UInt8.ofNat).toArray⟩, ?_⟩
  unfold nats
  simp only [List.map_map]
  exact (List.map_congr_left (fun x hx => by simpa using Nat.mod_eq_of_lt (h x hx))).trans (List.map_id l)
theorem trim_text (s : ByteArray) : ∃ t : ByteArray, nats t = trimL (nats s) := by
  refine text_of _ fun x hx => nats_lt s x ?_
  unfold trimL rtrim at hx
  have h1 := (List.dropWhile_sublist (l := ((nats s).dropWhile blank).reverse) blank).subset (List.mem_reverse.1 hx)
  exact (List.dropWhile_sublist (l := nats s) blank).subset (List.mem_reverse.1 h1)

def ParseRes (u : Bool) : Kd → Ending → World → Prop
  | .sets f, e, w' => SchedRes f u e w'
  | .every d, e, _ => e = .returned (.tuple #[.iface 98 (.agg #[.int .i64 d]), .nilIface])

set_option maxRecDepth 1000000 in
set_option maxHeartbeats 4000000 in
theorem parse_desc (o : Nat) (ho : o < 512) (h8 : o.testBit 8 = true) (s : ByteArray) (hs : s.size < 500000000) (hs0 : 0 < s.size) (l : List Nat) (u : Bool) (hh : HeadAt s l u) (hb : begins l [64] = true) (h : DescFine l) :
    ∃ K : Kd, (∀ d, K = .every d → K.Ok) ∧ ∀ w : World, Calls Tryz.prog 29 #[.agg #[.int .i64 o], .string s] w fun e w' => ParseRes u K e w' ∧ ∃ y : Ext w, w' = y.now := by
  have hll : l.length ≤ s.size := by
    rcases hh with ⟨_, _, h, _⟩ | ⟨Q, N, _, _, _, _, _, _, _, _, h, _⟩
    · rw [h, nats_length]; exact Nat.le_refl _
    · rw [h]
      have h1 := trim_small ((nats s).drop N)
      rw [List.length_drop, nats_length] at h1
      omega
  obtain ⟨sl, hsl⟩ : ∃ t : ByteArray, nats t = l := by
    rcases hh with ⟨_, _, h, _⟩ | ⟨Q, N, _, _, _, _, _, _, _, _, h, _⟩
    · exact ⟨s, h.symm⟩
    · obtain ⟨t, ht⟩ := trim_text (s.extract N s.size)
      exact ⟨t, by rw [ht, nats_drop, h]⟩
  obtain ⟨K, hK, hD⟩ := desc_any sl (by rw [← nats_length, hsl]; omega) (by rw [hsl]; exact h)
  have hsame : ∀ r : ByteArray, nats r = l → r = sl := fun r hr => nats_inj (hr.trans hsl.symm)
  refine ⟨K, hK, fun w => ?_⟩
  have HD := Lib.hid hD
  have HSAME := Lib.hid hsame
  have HH := Lib.hid hh
  have hp1 := Lib.hid (fun (W : World) => hasPrefix_any s ⟨#[84, 90, 61]⟩ W (by omega) (by decide))
  have hp2 := Lib.hid (fun (W : World) => hasPrefix_any s ⟨#[67, 82, 79, 78, 95, 84, 90, 61]⟩ W (by omega) (by decide))
  obtain ⟨b1, hb1⟩ : ∃ b, b = begins (nats s) [84, 90, 61] := ⟨_, rfl⟩
  obtain ⟨b2, hb2⟩ : ∃ b, b = begins (nats s) [67, 82, 79, 78, 95, 84, 90, 61] := ⟨_, rfl⟩
  rw [show nats ⟨#[84, 90, 61]⟩ = [84, 90, 61] from rfl, ← hb1] at hp1
  rw [show nats ⟨#[67, 82, 79, 78, 95, 84, 90, 61]⟩ = [67, 82, 79, 78, 95, 84, 90, 61] from rfl, ← hb2] at hp2
  have HB1 := Lib.hid hb1
  have HB2 := Lib.hid hb2
  have HBG := Lib.hid hb
  have k0 : ((s.size : Int) == 0) = false := beq_eq_false_iff_ne.2 (by omega)
  clear hh hb1 hb2 hb hD hsame hsl h
  go_enter Tryz.func29, Tryz.ntmps29
  go_upto_region 4 with fail
  obtain ⟨W0, hW0⟩ : ∃ W0 : Ext w, w.alloc (.cells #[.int .i64 o] 66) = W0.now := ⟨Ext.one _ _, rfl⟩
  have hbx : W0.now.cell? ⟨w.heap.size, 0, none⟩ = some (.int .i64 o) := by rw [← hW0]; simp [go_sem]
  have hbl : w.heap.size < W0.now.heap.size := by rw [← hW0]; simp
  rw [hW0]
  clear hW0
  obtain ⟨BX, hBX⟩ : ∃ B, B = w.heap.size := ⟨_, rfl⟩
  rw [← hBX] at hbx hbl ⊢
  clear hBX
  go_cut [28] (fun t28 wr => t28 = .bool (b1 || b2) ∧ wr = W0.now)
  case first =>
    cases b1
    · go_wp2_with (first
        | (go_at_call 42; (with_reducible refine (hp1.out _).mono ?_); rintro e9 w9 ⟨rfl, rfl⟩)
        | (go_at_call 42; (with_reducible refine (hp2.out _).mono ?_); rintro e9 w9 ⟨rfl, rfl⟩))
      go_meet
      case rel => exact ⟨rfl, rfl⟩
    · go_wp2_with (first
        | (go_at_call 42; (with_reducible refine (hp1.out _).mono ?_); rintro e9 w9 ⟨rfl, rfl⟩))
      go_meet
      case rel => exact ⟨rfl, rfl⟩
  case rest =>
    obtain ⟨rfl, hwc⟩ := hcut
    subst wc
    go_upto_if 28 with fail
    go_cut [1, 6] (fun t1 t6 wr => ∃ r p, t1 = .string r ∧ nats r = l ∧ t6 = .pointer p ∧ OwnPlace wr u p ∧ ∃ q : Ext W0.now, wr = q.now)
    case first =>
      rcases HH.out with ⟨h1, h2, h3, h4⟩ | ⟨Q, N, h1, h2, h3, h4, h5, h6, h7, h8, h9, h10⟩
      · have hb : (b1 || b2) = false := by rw [HB1.out, HB2.out, h1, h2]; rfl
        rw [hb]
        have H3 := Lib.hid h3
        have H4 := Lib.hid h4
        clear h1 h2 h3 h4 hb
        go_wp2_with fail
        go_meet
        case rel => exact ⟨s, none, rfl, H3.out.symm, rfl, .inl ⟨H4.out, rfl⟩, Ext.here _⟩
      · have hb : (b1 || b2) = true := by rw [HB1.out, HB2.out]; rcases h1 with h | h <;> rw [h] <;> simp
        rw [hb]
        have hi1 := Lib.hid (fun (W : World) => index_yes s 32 N h2 h6 h7 W (by omega))
        have hi2 := Lib.hid (fun (W : World) => index_yes s 61 Q (by omega) h4 h5 W (by omega))
        have hts := Lib.hid (fun (W : World) => trimSpace_any (s.extract N s.size) (by rw [ByteArray.size_extract]; omega) (by rw [nats_drop]; exact h8) W)
        obtain ⟨m1, hm1⟩ : ∃ m, m = Q + 1 := ⟨_, rfl⟩
        have hm1i : (Q : Int) + 1 = (m1 : Int) := by omega
        have hm1n : (m1 : Int) ≤ (N : Int) := by omega
        have hNs : (N : Int) ≤ (s.size : Int) := by omega
        rw [← hm1] at h10
        have H9 := Lib.hid h9
        clear h1 h2 h3 h4 h5 h6 h7 h8 h9 hb hm1
        rcases h10 with ⟨hu, hn⟩ | ⟨hu, hn⟩
        · have hll := Lib.hid (fun (W : World) => load_utc (s.extract m1 N) hn W)
          have HU := Lib.hid hu
          clear hu hn
          go_wp2_with (first
            | (go_at_call 43; (with_reducible refine (hi1.out _).mono ?_); rintro e9 w9 ⟨rfl, rfl⟩)
            | (go_at_call 43; (with_reducible refine (hi2.out _).mono ?_); rintro e9 w9 ⟨rfl, rfl⟩)
            | (go_at_call 44; (with_reducible refine (hll.out _).mono ?_); rintro e9 w9 ⟨⟨L, rfl, hL⟩, yl, rfl⟩)
            | (go_at_call 45; (with_reducible refine (hts.out _).mono ?_); rintro e9 w9 ⟨⟨r, rfl, hr⟩, rfl⟩))
          go_meet
          case rel => exact ⟨r, _, rfl, by rw [hr, H9.out, nats_drop], rfl, .inr ⟨HU.out, L, rfl, hL⟩, yl, rfl⟩
        · have hll := Lib.hid (fun (W : World) => load_local (s.extract m1 N) hn W)
          have HU := Lib.hid hu
          clear hu hn
          go_wp2_with (first
            | (go_at_call 43; (with_reducible refine (hi1.out _).mono ?_); rintro e9 w9 ⟨rfl, rfl⟩)
            | (go_at_call 43; (with_reducible refine (hi2.out _).mono ?_); rintro e9 w9 ⟨rfl, rfl⟩)
            | (go_at_call 44; (with_reducible refine (hll.out _).mono ?_); rintro e9 w9 ⟨rfl, rfl⟩)
            | (go_at_call 45; (with_reducible refine (hts.out _).mono ?_); rintro e9 w9 ⟨⟨r, rfl, hr⟩, rfl⟩))
          go_meet
          case rel => exact ⟨r, none, rfl, by rw [hr, H9.out, nats_drop], rfl, .inl ⟨HU.out, rfl⟩, Ext.here _⟩
    case rest =>
      obtain ⟨r, p, rfl, hr, rfl, hop, q, rfl⟩ := hcut
      have HR := Lib.hid hr
      have HOP := Lib.hid hop
      have hrs : r.size ≤ s.size := by rw [← nats_length r, hr]; exact hll
      have hpat := Lib.hid (fun (W : World) => (show Calls Tryz.prog 42 #[.string r, .string ⟨#[64]⟩] W fun e w' => e = .returned (.bool true) ∧ w' = W from by
        have h1 := hasPrefix_any r ⟨#[64]⟩ W (by omega) (by decide)
        rw [show nats ⟨#[64]⟩ = [64] from rfl, hr, HBG.out] at h1
        exact h1))
      obtain rfl := HSAME.out r HR.out
      have hDD := Lib.hid (fun (W : World) => HD.out W p)
      have hbq : q.now.cell? ⟨BX, 0, none⟩ = some (.int .i64 o) := (q.cell _ _ hbl).trans hbx
      have hblq : BX < q.now.heap.size := q.lt _ hbl
      have h256 : (bits .and .i64 (o : Int) 256 == 0) = false := by
        have h := opt_ne o 8 ho (by decide) 256 (by decide)
        rw [h8] at h
        exact beq_eq_false_iff_ne.2 (bne_iff_ne.1 h)
      clear hop hr hbx hbl hp1 hp2 k0
      obtain ⟨x, hx⟩ : ∃ x : Ext w, q.now = x.now := ⟨W0.trans q, rfl⟩
      rw [hx] at hbq hblq HOP ⊢
      clear hx
      go_wp2_with (first
        | (go_at_call 42; (with_reducible refine (hpat.out _).mono ?_); rintro e9 w9 ⟨rfl, rfl⟩)
        | (go_at_call 46; (with_reducible refine (hDD.out _).mono ?_)))
      rintro e9 w9 ⟨hres, y9, rfl⟩
      cases K with
      | sets f =>
        obtain ⟨S, rfl, hS, h6⟩ := hres
        have HS := Lib.hid hS
        have H6 := Lib.hid h6
        clear hS h6
        go_wp2_with fail
        go_ret2
        exact ⟨⟨S, p, rfl, HS.out, H6.out, HOP.out.ext y9⟩, x.trans y9, rfl⟩
      | every d =>
        obtain rfl := hres
        go_wp2_with fail
        go_ret2
        exact ⟨rfl, x.trans y9, rfl⟩

end Go.Proofs.YtopcjlimjkfoiaaGreatDoor
