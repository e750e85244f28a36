/-
The walks of the small functions of package time that a constant delay reaches.
-/
import Derived.Test.YtnofanefamjijaaProg
import Derived.Test.YtnofanefamjijaaA
import Derived.WalkKit
import Derived.KernelRfl
import Derived.RowKit3
import Derived.Below
import Derived.Deep.QuietTactic
import Derived.BigQuiet
import Derived.Deep.RegionWith
import Derived.Deep.RegionHeld3
import Derived.Outline
import Derived.OwnWalk
namespace Go.Proofs.Ytnofanefamjijaa
open Go.RowKit

theorem mono_false (x : Int) (h0 : 0 ≤ x) (h1 : x < 1073741824) : (bits .and .u64 x 9223372036854775808 != 0) = false := by
  rw [wall_mono x h0 h1]; rfl

theorem sec_any (b off : Nat) (wall ext : Int) (w : World) (h0 : 0 ≤ wall) (h1 : wall < 1073741824)
    (hc0 : w.cell? ⟨b, off, none⟩ = some (.int .u64 wall)) (hc1 : w.cell? ⟨b, off + 1, none⟩ = some (.int .i64 ext)) :
    Calls Try.prog 22 #[.pointer (some ⟨b, off, none⟩)] w fun e w' => e = .returned (.int .i64 ext) ∧ w = w' := by
  have hb := mono_false wall h0 h1
  go_enter Try.func22, Try.ntmps22
  go_wp2
  go_ret
  exact ⟨rfl, rfl⟩

theorem unixSec_any (b off : Nat) (wall ext : Int) (w : World) (h0 : 0 ≤ wall) (h1 : wall < 1073741824) (g0 : -9223372036854775808 ≤ ext - 62135596800) (g1 : ext ≤ 9223372036854775807)
    (hc0 : w.cell? ⟨b, off, none⟩ = some (.int .u64 wall)) (hc1 : w.cell? ⟨b, off + 1, none⟩ = some (.int .i64 ext)) :
    Calls Try.prog 16 #[.pointer (some ⟨b, off, none⟩)] w fun e w' => e = .returned (.int .i64 (ext - 62135596800)) ∧ w = w' := by
  go_enter Try.func16, Try.ntmps16
  go_wp2_with (go_at_call 22; refine (sec_any _ _ _ _ _ h0 h1 hc0 hc1).mono ?_; rintro e w' ⟨rfl, rfl⟩)
  go_ret
  exact ⟨by congr 1, rfl⟩

theorem nsec_any (b off : Nat) (wall : Int) (w : World) (h0 : 0 ≤ wall) (h1 : wall < 1073741824)
    (hc0 : w.cell? ⟨b, off, none⟩ = some (.int .u64 wall)) :
    Calls Try.prog 17 #[.pointer (some ⟨b, off, none⟩)] w fun e w' => e = .returned (.int .i32 wall) ∧ w = w' := by
  have hb := wall_nsec wall h0 h1
  go_enter Try.func17, Try.ntmps17
  go_wp2
  go_ret
  exact ⟨rfl, rfl⟩

theorem strip_any (b off : Nat) (wall : Int) (w : World) (h0 : 0 ≤ wall) (h1 : wall < 1073741824)
    (hc0 : w.cell? ⟨b, off, none⟩ = some (.int .u64 wall)) :
    Calls Try.prog 19 #[.pointer (some ⟨b, off, none⟩)] w fun e w' => e = .returned (.tuple #[]) ∧ w = w' := by
  have hb := mono_false wall h0 h1
  go_enter Try.func19, Try.ntmps19
  go_wp2
  go_end0
  exact ⟨rfl, rfl⟩

theorem addSec_any (b off : Nat) (wall ext d : Int) (w : World) (h0 : 0 ≤ wall) (h1 : wall < 1073741824) (g0 : -9223372036854775808 ≤ ext + d) (g1 : ext + d ≤ 9223372036854775807)
    (hc0 : w.cell? ⟨b, off, none⟩ = some (.int .u64 wall)) (hc1 : w.cell? ⟨b, off + 1, none⟩ = some (.int .i64 ext)) (hf1 : w.frozen? ⟨b, off + 1, none⟩ = false) :
    Calls Try.prog 18 #[.pointer (some ⟨b, off, none⟩), .int .i64 d] w fun e w' => e = .returned (.tuple #[]) ∧ w' = w.setCell ⟨b, off + 1, none⟩ (.int .i64 (ext + d)) := by
  have hb := mono_false wall h0 h1
  have hs : (decide (ext < ext + d) == decide (0 < d)) = true := by
    rw [beq_iff_eq, decide_eq_decide]; omega
  go_enter Try.func18, Try.ntmps18
  go_wp2
  go_end0
  exact ⟨rfl, rfl⟩

theorem setLoc_utc (b off l : Nat) (wall : Int) (w : World) (h0 : 0 ≤ wall) (h1 : wall < 1073741824)
    (hc0 : w.cell? ⟨b, off, none⟩ = some (.int .u64 wall)) (hl : w.cell? ⟨l, 0, none⟩ = some (.bool true)) (hf2 : w.frozen? ⟨b, off + 2, none⟩ = false)
    (v : Value) (hc2 : w.cell? ⟨b, off + 2, none⟩ = some v) :
    Calls Try.prog 21 #[.pointer (some ⟨b, off, none⟩), .pointer (some ⟨l, 0, none⟩)] w fun e w' => e = .returned (.tuple #[]) ∧ w' = w.setCell ⟨b, off + 2, none⟩ (.pointer none) := by
  go_enter Try.func21, Try.ntmps21
  go_wp2_with (go_at_call 19; refine (strip_any _ _ _ _ h0 h1 hc0).mono ?_; rintro e w' ⟨rfl, rfl⟩)
  go_end0
  exact ⟨rfl, rfl⟩

theorem bcell {W w1 : World} (hb : Below W.heap.size W w1) : (∀ b o, b < W.heap.size → w1.cell? ⟨b, o, none⟩ = W.cell? ⟨b, o, none⟩) ∧ (∀ b o, b < W.heap.size → w1.frozen? ⟨b, o, none⟩ = W.frozen? ⟨b, o, none⟩) :=
  ⟨fun b o h => hb.cell (p := ⟨b, o, none⟩) h, fun b o h => hb.frozen (p := ⟨b, o, none⟩) h⟩

theorem unixTime_any (s n : Int) (w : World) (g0 : -9223372036854775808 ≤ s + 62135596800) (g1 : s + 62135596800 ≤ 9223372036854775807) (h0 : 0 ≤ n) (h1 : n < 1000000000) :
    Calls Try.prog 20 #[.int .i64 s, .int .i32 n] w fun e w' => e = .returned (.agg #[.int .u64 n, .int .i64 (s + 62135596800), .pointer none]) ∧ Below w.heap.size w w' := by
  go_enter Try.func20, Try.ntmps20
  go_wp2
  exact bodyPost_ret (v := .agg #[.int .u64 n, .int .i64 (s + 62135596800), .pointer none]) (by simp [results, Try.results20, go_sem]) rfl ⟨rfl, (Below.refl _ _).alloc (Nat.le_refl _) _⟩

theorem unix_any (s n : Int) (w : World) (g0 : -9223372036854775808 ≤ s + 62135596800) (g1 : s + 62135596800 ≤ 9223372036854775807) (h0 : 0 ≤ n) (h1 : n < 1000000000) :
    Calls Try.prog 14 #[.int .i64 s, .int .i64 n] w fun e w' => e = .returned (.agg #[.int .u64 n, .int .i64 (s + 62135596800), .pointer none]) ∧ Below w.heap.size w w' := by
  go_enter Try.func14, Try.ntmps14
  go_wp2_with (go_at_call 20; refine (unixTime_any _ _ _ g0 g1 h0 h1).mono ?_; rintro e w' ⟨rfl, hb⟩; obtain ⟨hc, hf⟩ := bcell hb)
  exact bodyPost_ret (v := .agg #[.int .u64 n, .int .i64 (s + 62135596800), .pointer none]) (by simp [results, Try.results14, go_sem, hc]) rfl
    ⟨rfl, ((((Below.refl _ _).alloc (Nat.le_refl _) _).trans (hb.mono (by simp))).setCell (by simp) _ |>.setCell (by simp) _).setCell (by simp) _⟩

theorem utc_any (w : World) :
    Calls Try.prog 10 #[] w fun e w' => e = .returned (.pointer (some ⟨w.heap.size, 0, none⟩)) ∧ w'.cell? ⟨w.heap.size, 0, none⟩ = some (.bool true) ∧ w.heap.size < w'.heap.size ∧ Below w.heap.size w w' := by
  go_enter Try.func10, Try.ntmps10
  go_wp2
  go_ret
  refine ⟨rfl, by simp [go_sem], by simp, (Below.refl _ _).alloc (Nat.le_refl _) _⟩

abbrev tv (n x : Int) : Value := .agg #[.int .u64 n, .int .i64 x, .pointer none]

theorem in_utc (n x : Int) (l : Nat) (w : World) (h0 : 0 ≤ n) (h1 : n < 1073741824) (hl : w.cell? ⟨l, 0, none⟩ = some (.bool true)) (hlt : l < w.heap.size) :
    Calls Try.prog 15 #[tv n x, .pointer (some ⟨l, 0, none⟩)] w fun e w' => e = .returned (tv n x) ∧ Below w.heap.size w w' := by
  go_enter Try.func15, Try.ntmps15
  go_wp2_with (go_at_call 21; refine (setLoc_utc _ _ _ n _ h0 h1 (by simp [go_sem]) (by rw [(((Below.refl w.heap.size w).alloc (Nat.le_refl _) _).alloc (by simp) _).cell (p := ⟨l, 0, none⟩) hlt]; exact hl) (by simp [go_sem]) (.pointer none) (by simp [go_sem])).mono ?_; rintro e w' ⟨rfl, rfl⟩)
  exact bodyPost_ret (v := tv n x) (by simp [results, Try.results15, go_sem]) rfl
    ⟨rfl, ((Below.refl _ _).alloc (Nat.le_refl _) _).alloc (by simp) _⟩

theorem unixM_any (n x : Int) (w : World) (h0 : 0 ≤ n) (h1 : n < 1073741824) (g0 : -9223372036854775808 ≤ x - 62135596800) (g1 : x ≤ 9223372036854775807) :
    Calls Try.prog 11 #[tv n x] w fun e w' => e = .returned (.int .i64 (x - 62135596800)) ∧ Below w.heap.size w w' := by
  go_enter Try.func11, Try.ntmps11
  go_wp2_with (go_at_call 16; refine (unixSec_any _ _ n x _ h0 h1 g0 g1 (by simp [go_sem]) (by simp [go_sem])).mono ?_; rintro e w' ⟨rfl, rfl⟩)
  go_ret
  exact ⟨rfl, (Below.refl _ _).alloc (Nat.le_refl _) _⟩

theorem nanoM_any (n x : Int) (w : World) (h0 : 0 ≤ n) (h1 : n < 1073741824) :
    Calls Try.prog 12 #[tv n x] w fun e w' => e = .returned (.int .i64 n) ∧ Below w.heap.size w w' := by
  go_enter Try.func12, Try.ntmps12
  go_wp2_with (go_at_call 17; refine (nsec_any _ _ n _ h0 h1 (by simp [go_sem])).mono ?_; rintro e w' ⟨rfl, rfl⟩)
  go_ret
  exact ⟨rfl, (Below.refl _ _).alloc (Nat.le_refl _) _⟩

end Go.Proofs.Ytnofanefamjijaa
