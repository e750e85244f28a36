/-
The walks of the thin package's DelayNext and of the statement itself.
-/
import Derived.Test.YtnofanefamjijaaC
import Derived.Test.YtnofanefamjijaaExt
import Derived.IntWalk
namespace Go.Proofs.Ytnofanefamjijaa
open Go.RowKit
attribute [local go_sem] Ext.cell Ext.frozen Ext.lt Ext.lt_add Ext.cell2 Ext.frozen2

theorem below2 {w w1 : World} {o1 o2 : Obj} (hb : Below ((w.alloc o1).alloc o2).heap.size ((w.alloc o1).alloc o2) w1) : Below w.heap.size w w1 :=
  (((Below.refl _ _).alloc (Nat.le_refl _) _).alloc (by simp) _).trans (hb.mono (by simp; omega))


theorem below3 {w w1 : World} {o1 o2 o3 : Obj} (hb : Below (((w.alloc o1).alloc o2).alloc o3).heap.size (((w.alloc o1).alloc o2).alloc o3) w1) : Below w.heap.size w w1 :=
  ((((Below.refl _ _).alloc (Nat.le_refl _) _).alloc (by simp) _).alloc (by simp; omega) _).trans (hb.mono (by simp; omega))

theorem moment_any (s n : Int) (l : Nat) (w : World) (g0 : -9223372036854775808 ≤ s + 62135596800) (g1 : s + 62135596800 ≤ 9223372036854775807) (h0 : 0 ≤ n) (h1 : n < 1000000000)
    (hl : w.cell? ⟨l, 0, none⟩ = some (.bool true)) (hlt : l < w.heap.size) :
    Calls Try.prog 9 #[.agg #[.int .i64 s, .int .i64 n], .pointer (some ⟨l, 0, none⟩)] w fun e w' => e = .returned (tv n (s + 62135596800)) ∧ ∃ x : Ext w, w' = x.now := by
  have hl2 : l < w.heap.size + 1 := by omega
  have hl3 : l < w.heap.size + 2 := by omega
  go_enter Try.func9, Try.ntmps9
  go_wp2_with (first
    | (go_at_call 14; refine (to_ext (unix_any s n _ g0 g1 h0 h1)).mono ?_; rintro e w' ⟨rfl, x, rfl⟩)
    | (go_at_call 15; refine (to_ext (in_utc n _ l _ h0 (by omega) (by simp [go_sem, hl, hlt, hl2, hl3]) (x.lt _ (by simp [hl3])))).mono ?_; rintro e w2 ⟨rfl, y, rfl⟩))
  exact bodyPost_ret (v := tv n (s + 62135596800)) (by simp [results, Try.results9, go_sem]) rfl
    ⟨rfl, Ext.of ((((below2 (x.trans y).below).setCell (by simp) _).setCell (by simp) _).setCell (by simp) _)⟩

theorem parts_of (e : Int) (h0 : -1000000000 < e) (h1 : e ≤ 9223372036854775807) : ∃ q r : Int, e.tdiv 1000000000 = q ∧ e.tmod 1000000000 = r ∧ -1000000000 < r ∧ r < 1000000000 ∧ -10000000000 < q ∧ q < 10000000000 ∧ e = 1000000000 * q + r := by
  refine ⟨_, _, rfl, rfl, ?_⟩
  have h2 := Int.mul_tdiv_add_tmod e 1000000000
  rcases Int.lt_or_le e 0 with h | h
  · have e0 : e.tdiv 1000000000 = 0 := by
      obtain ⟨k, rfl⟩ : ∃ k : Int, e = -k := ⟨-e, by omega⟩
      rw [Int.neg_tdiv, Int.tdiv_eq_zero_of_lt (by omega) (by omega)]; rfl
    rw [e0] at h2
    omega
  · have e1 := Int.tdiv_eq_ediv_of_nonneg (b := 1000000000) h
    have e2 := Int.tmod_eq_emod_of_nonneg (b := 1000000000) h
    omega

theorem next_any (n x d m s : Int) (w : World) (h0 : 0 ≤ n) (h1 : n < 1000000000) (g0 : 0 ≤ x) (g1 : x ≤ 1000000000000000) (d0 : 0 ≤ d) (d1 : d ≤ 9223372036854775807)
    (hm : d % 1000000000 = m) (hs : x + d / 1000000000 = s) :
    Calls Try.prog 8 #[.agg #[.int .i64 d], tv n x] w fun e w' => e = .returned (tv m s) ∧ ∃ x : Ext w, w' = x.now := by
  have hadd : ∀ W, Calls Try.prog 13 #[tv n x, .int .i64 (d - n)] W fun e w' => e = .returned (tv m s) ∧ ∃ x : Ext W, w' = x.now := by
    intro W
    obtain ⟨q, r, e1, e2, r0, r1, q0, q1, he⟩ := parts_of (d - n) (by omega) (by omega)
    exact to_ext (add_qr n x (d - n) q r W h0 h1 (by omega) g1 e1 e2 r0 r1 q0 q1 m s (by omega) (by omega))
  have hnano : ∀ W, Calls Try.prog 12 #[tv n x] W fun e w' => e = .returned (.int .i64 n) ∧ ∃ x : Ext W, w' = x.now := fun W => to_ext (nanoM_any n x W h0 (by omega))
  clear hm hs
  have hw1 : IntKind.i64.wrap n = n := IntWalk.i64_in _ (by omega)
  have hw2 : IntKind.i64.wrap (d - n) = d - n := IntWalk.i64_in _ (by omega)
  go_enter Try.func8, Try.ntmps8
  go_wp2
  refine wp_region_ext_tail 8 (by kernel_rfl) (by kernel_rfl) ?_
  simp only [List.take_succ_cons, List.take_zero, List.drop_succ_cons, List.drop_zero]
  repeat (quiet_step (first
    | (go_at_call 12; with_reducible exact calls_ext (hnano _))
    | (go_at_call 13; with_reducible exact calls_ext (hadd _))))
  refine wpQuiet_nil ?_
  rintro w' ⟨y, rfl⟩
  go_wp2
  exact bodyPost_ret (v := tv m s) (by simp [results, Try.results8, go_sem]) rfl
    ⟨rfl, Ext.of ((((below3 y.below).setCell (by simp; omega) _).setCell (by simp; omega) _).setCell (by simp; omega) _)⟩

theorem plain_any (n x : Int) (w : World) (h0 : 0 ≤ n) (h1 : n < 1073741824) (g0 : -9223372036854775808 ≤ x - 62135596800) (g1 : x ≤ 9223372036854775807) :
    Calls Try.prog 7 #[tv n x] w fun e w' => e = .returned (.agg #[.int .i64 (x - 62135596800), .int .i64 n]) ∧ ∃ x : Ext w, w' = x.now := by
  have hunix : ∀ W, Calls Try.prog 11 #[tv n x] W fun e w' => e = .returned (.int .i64 (x - 62135596800)) ∧ ∃ x : Ext W, w' = x.now := fun W => to_ext (unixM_any n x W h0 h1 g0 g1)
  have hnano : ∀ W, Calls Try.prog 12 #[tv n x] W fun e w' => e = .returned (.int .i64 n) ∧ ∃ x : Ext W, w' = x.now := fun W => to_ext (nanoM_any n x W h0 h1)
  go_enter Try.func7, Try.ntmps7
  go_wp2
  refine wp_region_ext_tail 5 (by kernel_rfl) (by kernel_rfl) ?_
  simp only [List.take_succ_cons, List.take_zero, List.drop_succ_cons, List.drop_zero]
  repeat (quiet_step (first
    | (go_at_call 11; with_reducible exact calls_ext (hunix _))
    | (go_at_call 12; with_reducible exact calls_ext (hnano _))))
  refine wpQuiet_nil ?_
  rintro w' ⟨y, rfl⟩
  go_wp2
  exact bodyPost_ret (v := .agg #[.int .i64 (x - 62135596800), .int .i64 n]) (by simp [results, Try.results7, go_sem]) rfl
    ⟨rfl, Ext.of (((below2 y.below).setCell (by simp) _).setCell (by simp) _)⟩

end Go.Proofs.Ytnofanefamjijaa
