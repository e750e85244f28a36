/-
The statement on constant delays: the walk of the law itself.
-/
import Derived.Test.YtnofanefamjijaaE
namespace Go.Proofs.Ytnofanefamjijaa
open Go.RowKit
attribute [local go_sem] Ext.cell Ext.frozen Ext.lt Ext.lt_add Ext.cell2 Ext.frozen2

/-- A good instant. -/
def goodB (s n : Int) : Bool := decide (-62135596800 ≤ s) && decide (s ≤ 253402300799) && decide (0 ≤ n) && decide (n < 1000000000)

theorem whole_any (s : Int) (w : World) :
    Calls Try.prog 5 #[.int .i64 s] w fun e w' => e = .returned (.agg #[.int .i64 s, .int .i64 0]) ∧ ∃ x : Ext w, w' = x.now := by
  go_enter Try.func5, Try.ntmps5
  go_wp2
  exact bodyPost_ret (v := .agg #[.int .i64 s, .int .i64 0]) (by simp [results, Try.results5, go_sem]) rfl
    ⟨rfl, Ext.of ((Below.refl _ _).alloc (Nat.le_refl _) _)⟩

theorem good_any (s n : Int) (w : World) :
    Calls Try.prog 4 #[.agg #[.int .i64 s, .int .i64 n]] w fun e w' => e = .returned (.bool (goodB s n)) ∧ ∃ x : Ext w, w' = x.now := by
  by_cases a1 : -62135596800 ≤ s
  · by_cases a2 : s ≤ 253402300799
    · by_cases a3 : 0 ≤ n
      · by_cases a4 : n < 1000000000
        · have hg : goodB s n = true := by simp [goodB, a1, a2, a3, a4]
          rw [hg]
          go_enter Try.func4, Try.ntmps4
          go_wp2
          go_ret
          exact ⟨rfl, Ext.of ((Below.refl _ _).alloc (Nat.le_refl _) _)⟩
        · have hg : goodB s n = false := by simp [goodB, a1, a2, a3, a4]
          rw [hg]
          go_enter Try.func4, Try.ntmps4
          go_wp2
          go_ret
          exact ⟨rfl, Ext.of ((Below.refl _ _).alloc (Nat.le_refl _) _)⟩
      · have hg : goodB s n = false := by simp [goodB, a1, a2, a3]
        rw [hg]
        go_enter Try.func4, Try.ntmps4
        go_wp2
        go_ret
        exact ⟨rfl, Ext.of ((Below.refl _ _).alloc (Nat.le_refl _) _)⟩
    · have hg : goodB s n = false := by simp [goodB, a1, a2]
      rw [hg]
      go_enter Try.func4, Try.ntmps4
      go_wp2
      go_ret
      exact ⟨rfl, Ext.of ((Below.refl _ _).alloc (Nat.le_refl _) _)⟩
  · have hg : goodB s n = false := by simp [goodB, a1]
    rw [hg]
    go_enter Try.func4, Try.ntmps4
    go_wp2
    go_ret
    exact ⟨rfl, Ext.of ((Below.refl _ _).alloc (Nat.le_refl _) _)⟩

/-- An instant that is not good. -/
theorem law_bad (d s n : Int) (w : World) (hg : goodB s n = false) (d0 : -9223372036854775808 ≤ d) (d1 : d ≤ 9223372036854775807) :
    Calls Try.prog 3 #[.int .i64 d, .agg #[.int .i64 s, .int .i64 n]] w fun e w' => e = .returned (.bool true) ∧ ∃ x : Ext w, w' = x.now := by
  have hgood : ∀ W, Calls Try.prog 4 #[.agg #[.int .i64 s, .int .i64 n]] W fun e w' => e = .returned (.bool false) ∧ ∃ x : Ext W, w' = x.now := fun W => by
    have := good_any s n W
    rwa [hg] at this
  clear hg
  go_enter Try.func3, Try.ntmps3
  go_wp2
  refine wp_region_ext (by kernel_rfl) (by kernel_rfl) ?_
  repeat (quiet_step (first
    | (go_at_call 4; with_reducible exact calls_ext (hgood _))))
  refine wpQuiet_nil ?_
  rintro w' ⟨y, rfl⟩
  go_wp2
  go_ret
  exact ⟨rfl, Ext.of (below2 y.below)⟩

/-- A delay below 0. -/
theorem law_neg (d s n : Int) (w : World) (hg : goodB s n = true) (hd : d < 0) (d0 : -9223372036854775808 ≤ d) :
    Calls Try.prog 3 #[.int .i64 d, .agg #[.int .i64 s, .int .i64 n]] w fun e w' => e = .returned (.bool true) ∧ ∃ x : Ext w, w' = x.now := by
  have hgood : ∀ W, Calls Try.prog 4 #[.agg #[.int .i64 s, .int .i64 n]] W fun e w' => e = .returned (.bool true) ∧ ∃ x : Ext W, w' = x.now := fun W => by
    have := good_any s n W
    rwa [hg] at this
  clear hg
  go_enter Try.func3, Try.ntmps3
  go_wp2
  refine wp_region_ext (by kernel_rfl) (by kernel_rfl) ?_
  repeat (quiet_step (first
    | (go_at_call 4; with_reducible exact calls_ext (hgood _))))
  refine wpQuiet_nil ?_
  rintro w' ⟨y, rfl⟩
  go_wp2
  go_ret
  exact ⟨rfl, Ext.of (below2 y.below)⟩

/-- A good instant and a delay not below 0: another second. -/
theorem law_other (d s n q r : Int) (w : World) (hg : goodB s n = true) (hd : 0 ≤ d) (d1 : d ≤ 9223372036854775807) (hq : d.tdiv 1000000000 = q) (hr : d.tmod 1000000000 = r)
    (hq' : d / 1000000000 = q) (hr' : d % 1000000000 = r) (hne : ¬ s + q = -62135596800) :
    Calls Try.prog 3 #[.int .i64 d, .agg #[.int .i64 s, .int .i64 n]] w fun e w' => e = .returned (.bool true) ∧ ∃ x : Ext w, w' = x.now := by
  have hgood : ∀ W, Calls Try.prog 4 #[.agg #[.int .i64 s, .int .i64 n]] W fun e w' => e = .returned (.bool true) ∧ ∃ x : Ext W, w' = x.now := fun W => by
    have := good_any s n W
    rwa [hg] at this
  simp only [goodB, Bool.and_eq_true, decide_eq_true_eq] at hg
  obtain ⟨⟨⟨g0, g1⟩, g2⟩, g3⟩ := hg
  have hdelay : ∀ W, Calls Try.prog 6 #[.int .i64 d, .agg #[.int .i64 s, .int .i64 n]] W fun e w' => e = .returned (.agg #[.int .i64 (s + q), .int .i64 r]) ∧ ∃ x : Ext W, w' = x.now := fun W =>
    delay_any d s n W g2 g3 g0 g1 hd d1 r (s + q) hr' (by rw [hq'])
  have hwhole : ∀ W, Calls Try.prog 5 #[.int .i64 (-62135596800)] W fun e w' => e = .returned (.agg #[.int .i64 (-62135596800), .int .i64 0]) ∧ ∃ x : Ext W, w' = x.now := fun W => whole_any _ W
  have hw1 : IntKind.i64.wrap (s + q) = s + q := IntWalk.i64_in _ (by omega)
  have hq1 : -9223372036854775808 ≤ s + q ∧ s + q ≤ 9223372036854775807 := by omega
  have hq2 : 0 ≤ q ∧ q ≤ 10000000000 := by omega
  obtain ⟨hq2, hq3⟩ := hq2
  obtain ⟨hq4, hq5⟩ := hq1
  have hd' : decide (d < 0) = false := by simp; omega
  clear hq' hr'
  go_enter Try.func3, Try.ntmps3
  go_wp2
  refine wp_region_ext (by kernel_rfl) (by kernel_rfl) ?_
  repeat (quiet_step (first
    | (go_at_call 4; with_reducible exact calls_ext (hgood _))
    | (go_at_call 5; with_reducible exact calls_ext (hwhole _))))
  refine wpQuiet_nil ?_
  rintro w' ⟨y, rfl⟩
  go_wp2
  refine wp_region_ext_tail 5 (by kernel_rfl) (by kernel_rfl) ?_
  simp only [List.take_succ_cons, List.take_zero, List.drop_succ_cons, List.drop_zero]
  repeat (quiet_step (first | (go_at_call 6; with_reducible exact calls_ext (hdelay _))))
  refine wpQuiet_nil ?_
  rintro w' ⟨z, rfl⟩
  go_wp2
  go_ret
  exact ⟨rfl, Ext.of (below2 (y.trans z).below)⟩

/-- The first second, with a rest. -/
theorem law_rest (d s n q r : Int) (w : World) (hg : goodB s n = true) (hd : 0 ≤ d) (d1 : d ≤ 9223372036854775807) (hq : d.tdiv 1000000000 = q) (hr : d.tmod 1000000000 = r)
    (hq' : d / 1000000000 = q) (hr' : d % 1000000000 = r) (he : s + q = -62135596800) (hne : ¬ r = 0) :
    Calls Try.prog 3 #[.int .i64 d, .agg #[.int .i64 s, .int .i64 n]] w fun e w' => e = .returned (.bool true) ∧ ∃ x : Ext w, w' = x.now := by
  have hgood : ∀ W, Calls Try.prog 4 #[.agg #[.int .i64 s, .int .i64 n]] W fun e w' => e = .returned (.bool true) ∧ ∃ x : Ext W, w' = x.now := fun W => by
    have := good_any s n W
    rwa [hg] at this
  simp only [goodB, Bool.and_eq_true, decide_eq_true_eq] at hg
  obtain ⟨⟨⟨g0, g1⟩, g2⟩, g3⟩ := hg
  have hdelay : ∀ W, Calls Try.prog 6 #[.int .i64 d, .agg #[.int .i64 s, .int .i64 n]] W fun e w' => e = .returned (.agg #[.int .i64 (s + q), .int .i64 r]) ∧ ∃ x : Ext W, w' = x.now := fun W =>
    delay_any d s n W g2 g3 g0 g1 hd d1 r (s + q) hr' (by rw [hq'])
  have hwhole : ∀ W, Calls Try.prog 5 #[.int .i64 (-62135596800)] W fun e w' => e = .returned (.agg #[.int .i64 (-62135596800), .int .i64 0]) ∧ ∃ x : Ext W, w' = x.now := fun W => whole_any _ W
  have hw1 : IntKind.i64.wrap (s + q) = s + q := IntWalk.i64_in _ (by omega)
  have hq1 : -9223372036854775808 ≤ s + q ∧ s + q ≤ 9223372036854775807 := by omega
  have hq2 : 0 ≤ q ∧ q ≤ 10000000000 := by omega
  obtain ⟨hq2, hq3⟩ := hq2
  obtain ⟨hq4, hq5⟩ := hq1
  have hd' : decide (d < 0) = false := by simp; omega
  clear hq' hr'
  go_enter Try.func3, Try.ntmps3
  go_wp2
  refine wp_region_ext (by kernel_rfl) (by kernel_rfl) ?_
  repeat (quiet_step (first
    | (go_at_call 4; with_reducible exact calls_ext (hgood _))
    | (go_at_call 5; with_reducible exact calls_ext (hwhole _))))
  refine wpQuiet_nil ?_
  rintro w' ⟨y, rfl⟩
  go_wp2
  refine wp_region_ext_tail 5 (by kernel_rfl) (by kernel_rfl) ?_
  simp only [List.take_succ_cons, List.take_zero, List.drop_succ_cons, List.drop_zero]
  repeat (quiet_step (first | (go_at_call 6; with_reducible exact calls_ext (hdelay _))))
  refine wpQuiet_nil ?_
  rintro w' ⟨z, rfl⟩
  go_wp2
  go_ret
  exact ⟨rfl, Ext.of (below2 (y.trans z).below)⟩

/-- The first instant. -/
theorem law_first (d s n q r : Int) (w : World) (hg : goodB s n = true) (hd : 0 ≤ d) (d1 : d ≤ 9223372036854775807) (hq : d.tdiv 1000000000 = q) (hr : d.tmod 1000000000 = r)
    (hq' : d / 1000000000 = q) (hr' : d % 1000000000 = r) (he : s + q = -62135596800) (hz : r = 0) :
    Calls Try.prog 3 #[.int .i64 d, .agg #[.int .i64 s, .int .i64 n]] w fun e w' => e = .returned (.bool true) ∧ ∃ x : Ext w, w' = x.now := by
  have hgood : ∀ W, Calls Try.prog 4 #[.agg #[.int .i64 s, .int .i64 n]] W fun e w' => e = .returned (.bool true) ∧ ∃ x : Ext W, w' = x.now := fun W => by
    have := good_any s n W
    rwa [hg] at this
  simp only [goodB, Bool.and_eq_true, decide_eq_true_eq] at hg
  obtain ⟨⟨⟨g0, g1⟩, g2⟩, g3⟩ := hg
  have hdelay : ∀ W, Calls Try.prog 6 #[.int .i64 d, .agg #[.int .i64 s, .int .i64 n]] W fun e w' => e = .returned (.agg #[.int .i64 (s + q), .int .i64 r]) ∧ ∃ x : Ext W, w' = x.now := fun W =>
    delay_any d s n W g2 g3 g0 g1 hd d1 r (s + q) hr' (by rw [hq'])
  have hwhole : ∀ W, Calls Try.prog 5 #[.int .i64 (-62135596800)] W fun e w' => e = .returned (.agg #[.int .i64 (-62135596800), .int .i64 0]) ∧ ∃ x : Ext W, w' = x.now := fun W => whole_any _ W
  have hw1 : IntKind.i64.wrap (s + q) = s + q := IntWalk.i64_in _ (by omega)
  have hq1 : -9223372036854775808 ≤ s + q ∧ s + q ≤ 9223372036854775807 := by omega
  have hq2 : 0 ≤ q ∧ q ≤ 10000000000 := by omega
  obtain ⟨hq2, hq3⟩ := hq2
  obtain ⟨hq4, hq5⟩ := hq1
  have hd' : decide (d < 0) = false := by simp; omega
  clear hq' hr'
  go_enter Try.func3, Try.ntmps3
  go_wp2
  refine wp_region_ext (by kernel_rfl) (by kernel_rfl) ?_
  repeat (quiet_step (first
    | (go_at_call 4; with_reducible exact calls_ext (hgood _))
    | (go_at_call 5; with_reducible exact calls_ext (hwhole _))))
  refine wpQuiet_nil ?_
  rintro w' ⟨y, rfl⟩
  go_wp2
  go_ret
  exact ⟨rfl, Ext.of (below2 y.below)⟩

end Go.Proofs.Ytnofanefamjijaa
