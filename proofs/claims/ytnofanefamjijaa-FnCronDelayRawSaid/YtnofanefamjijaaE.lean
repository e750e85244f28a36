/-
DelayNext, and the statement on constant delays.
-/
import Derived.Test.YtnofanefamjijaaD
import Derived.Test.YtnofanefamjijaaPlan
namespace Go.Proofs.Ytnofanefamjijaa
open Go.RowKit
attribute [local go_sem] Ext.cell Ext.frozen Ext.lt Ext.lt_add Ext.cell2 Ext.frozen2

theorem utc_some (w : World) :
    Calls Try.prog 10 #[] w fun e w' => ∃ l, e = .returned (.pointer (some ⟨l, 0, none⟩)) ∧ w'.cell? ⟨l, 0, none⟩ = some (.bool true) ∧ l < w'.heap.size ∧ Below w.heap.size w w' :=
  (utc_any w).mono fun _ _ ⟨h1, h2, h3, h4⟩ => ⟨_, h1, h2, h3, h4⟩

/-- DelayNext at a good instant and a delay that is not below 0. -/
theorem delay_any (d s n : Int) (w : World) (h0 : 0 ≤ n) (h1 : n < 1000000000) (g0 : -62135596800 ≤ s) (g1 : s ≤ 253402300799) (d0 : 0 ≤ d) (d1 : d ≤ 9223372036854775807)
    (m t : Int) (hm : d % 1000000000 = m) (ht : s + d / 1000000000 = t) :
    Calls Try.prog 6 #[.int .i64 d, .agg #[.int .i64 s, .int .i64 n]] w fun e w' => e = .returned (.agg #[.int .i64 t, .int .i64 m]) ∧ ∃ x : Ext w, w' = x.now := by
  have hnext : ∀ W, Calls Try.prog 8 #[.agg #[.int .i64 d], tv n (s + 62135596800)] W fun e w' => e = .returned (tv m (t + 62135596800)) ∧ ∃ x : Ext W, w' = x.now := fun W => next_any n _ d m _ W h0 h1 (by omega) (by omega) d0 d1 hm (by omega)
  have hplain : ∀ W, Calls Try.prog 7 #[tv m (t + 62135596800)] W fun e w' => e = .returned (.agg #[.int .i64 t, .int .i64 m]) ∧ ∃ x : Ext W, w' = x.now := fun W => by
    have := plain_any m (t + 62135596800) W (by omega) (by omega) (by omega) (by omega)
    have e : t + 62135596800 - 62135596800 = t := by omega
    rw [e] at this
    exact this
  clear hm ht
  go_enter Try.func6, Try.ntmps6
  go_wp2
  refine wp_region_plan 7 [(0, false), (1, false), (2, false), (3, true), (4, true), (5, true), (6, true)] (fun w' => ∃ x : Ext ((w.alloc (.cells #[.int .i64 s, .int .i64 n] 23)).alloc (.cells #[.int .i64 0, .int .i64 0] 23)), w' = x.now)
    (by kernel_rfl) (by kernel_rfl) (fun _ _ d _ _ h => by cases d <;> exact h) ⟨Ext.drewn _, rfl⟩ ?_
  refine plan_read rfl (fun K hK => ?_); go_simp; refine hK _ ?_; clear hK K
  refine plan_read rfl (fun K hK => ?_); go_simp; refine hK _ ?_; clear hK K
  refine plan_read rfl (fun K hK => ?_); go_simp; refine hK _ ?_; clear hK K
  refine plan_step rfl (fun K hK => ?_); go_simp
  refine (utc_some _).mono ?_; rintro e w1 ⟨l, rfl, hcu, hzu, hbu⟩
  refine hK _ _ ⟨(Ext.drewn _).trans ⟨w1, hbu⟩, rfl⟩ ?_; clear hK K
  refine plan_step rfl (fun K hK => ?_); go_simp
  refine (moment_any s n _ _ (by omega) (by omega) h0 h1 hcu hzu).mono ?_; rintro e w2 ⟨rfl, y, rfl⟩
  refine hK _ _ ⟨((Ext.drewn _).trans ⟨w1, hbu⟩).trans y, rfl⟩ ?_; clear hK K
  refine plan_step rfl (fun K hK => ?_); go_simp
  refine (hnext _).mono ?_; rintro e w2 ⟨rfl, z, rfl⟩
  refine hK _ _ ⟨(((Ext.drewn _).trans ⟨w1, hbu⟩).trans y).trans z, rfl⟩ ?_; clear hK K
  refine plan_step rfl (fun K hK => ?_); go_simp
  refine (hplain _).mono ?_; rintro e w2 ⟨rfl, u, rfl⟩
  obtain ⟨x, hx⟩ : ∃ x : Ext ((w.alloc (.cells #[.int .i64 s, .int .i64 n] 23)).alloc (.cells #[.int .i64 0, .int .i64 0] 23)), u.now = x.now := ⟨((((Ext.drewn _).trans ⟨w1, hbu⟩).trans y).trans z).trans u, rfl⟩
  refine hK _ _ ⟨x, hx⟩ ?_; clear hK K
  rw [hx]
  refine plan_nil ?_
  simp only [List.drop_succ_cons, List.drop_zero]
  clear hx
  go_wp2
  exact bodyPost_ret (v := .agg #[.int .i64 t, .int .i64 m]) (by simp [results, Try.results6, go_sem]) rfl
    ⟨rfl, Ext.of (((below2 x.below).setCell (by simp) _).setCell (by simp) _)⟩

end Go.Proofs.Ytnofanefamjijaa
