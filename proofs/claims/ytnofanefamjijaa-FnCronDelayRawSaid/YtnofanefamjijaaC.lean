/-
The walks of Add, and of the calls on it.
-/
import Derived.Test.YtnofanefamjijaaB
namespace Go.Proofs.Ytnofanefamjijaa
open Go.RowKit

theorem wall_or' (n : Int) (h0 : 0 ≤ n) (h1 : n < 1073741824) : bits .or .u64 0 n = n := wall_or n h0 (by omega)

set_option maxHeartbeats 400000 in
/-- Add, its quotient and rest given. -/
theorem add_qr (n x d q r : Int) (w : World) (h0 : 0 ≤ n) (h1 : n < 1000000000) (g0 : -10000000000000 ≤ x) (g1 : x ≤ 1000000000000000)
    (hq : d.tdiv 1000000000 = q) (hr : d.tmod 1000000000 = r) (r0 : -1000000000 < r) (r1 : r < 1000000000) (q0 : -10000000000 < q) (q1 : q < 10000000000)
    (m s : Int) (hm : (n + r) % 1000000000 = m) (hs : x + q + (n + r) / 1000000000 = s) :
    Calls Try.prog 13 #[tv n x, .int .i64 d] w fun e w' => e = .returned (tv m s) ∧ Below w.heap.size w w' := by
  have hb := mono_false n h0 (by omega)
  have hz := wall_not n h0 (by omega)
  rcases Int.lt_or_le (n + r) 0 with hlt | hge
  · have hm' : m = n + r + 1000000000 := by omega
    have hs' : s = x + (q - 1) := by omega
    have ho := wall_or' (n + r + 1000000000) (by omega) (by omega)
    have hb2 := mono_false (n + r + 1000000000) (by omega) (by omega)
    clear hm hs
    subst hm' hs'
    go_enter Try.func13, Try.ntmps13
    go_wp2_with (first
      | (go_at_call 17; refine (nsec_any _ _ n _ h0 (by omega) (by simp [go_sem])).mono ?_; rintro e w' ⟨rfl, rfl⟩)
      | (go_at_call 18; refine (addSec_any _ _ (n + r + 1000000000) x _ _ (by omega) (by omega) (by omega) (by omega) (by simp [go_sem]) (by simp [go_sem]) (by simp [go_sem])).mono ?_; rintro e w' ⟨rfl, rfl⟩))
    exact bodyPost_ret (v := tv (n + r + 1000000000) (x + (q - 1))) (by simp [results, Try.results13, go_sem]) rfl
      ⟨rfl, ((Below.refl _ _).alloc (Nat.le_refl _) _).alloc (by simp) _⟩
  · rcases Int.lt_or_le (n + r) 1000000000 with hlt2 | hge2
    · have hm' : m = n + r := by omega
      have hs' : s = x + q := by omega
      have ho := wall_or' (n + r) (by omega) (by omega)
      have hb2 := mono_false (n + r) (by omega) (by omega)
      clear hm hs
      subst hm' hs'
      go_enter Try.func13, Try.ntmps13
      go_wp2_with (first
        | (go_at_call 17; refine (nsec_any _ _ n _ h0 (by omega) (by simp [go_sem])).mono ?_; rintro e w' ⟨rfl, rfl⟩)
        | (go_at_call 18; refine (addSec_any _ _ (n + r) x _ _ (by omega) (by omega) (by omega) (by omega) (by simp [go_sem]) (by simp [go_sem]) (by simp [go_sem])).mono ?_; rintro e w' ⟨rfl, rfl⟩))
      exact bodyPost_ret (v := tv (n + r) (x + q)) (by simp [results, Try.results13, go_sem]) rfl
        ⟨rfl, ((Below.refl _ _).alloc (Nat.le_refl _) _).alloc (by simp) _⟩
    · have hm' : m = n + r - 1000000000 := by omega
      have hs' : s = x + (q + 1) := by omega
      have ho := wall_or' (n + r - 1000000000) (by omega) (by omega)
      have hb2 := mono_false (n + r - 1000000000) (by omega) (by omega)
      clear hm hs
      subst hm' hs'
      go_enter Try.func13, Try.ntmps13
      go_wp2_with (first
        | (go_at_call 17; refine (nsec_any _ _ n _ h0 (by omega) (by simp [go_sem])).mono ?_; rintro e w' ⟨rfl, rfl⟩)
        | (go_at_call 18; refine (addSec_any _ _ (n + r - 1000000000) x _ _ (by omega) (by omega) (by omega) (by omega) (by simp [go_sem]) (by simp [go_sem]) (by simp [go_sem])).mono ?_; rintro e w' ⟨rfl, rfl⟩))
      exact bodyPost_ret (v := tv (n + r - 1000000000) (x + (q + 1))) (by simp [results, Try.results13, go_sem]) rfl
        ⟨rfl, ((Below.refl _ _).alloc (Nat.le_refl _) _).alloc (by simp) _⟩

end Go.Proofs.Ytnofanefamjijaa
