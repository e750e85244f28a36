/-
FnCronTextAfterRoads: the calendar, the schedules, their texts and the zones, part 19 of 34.
-/
import Derived.Test.YtopcjlimjkfoiaaGreatDoorV18
import Derived.Deep.QuietTactic
import Derived.BigQuiet
set_option linter.all false
namespace Go.Proofs.YtopcjlimjkfoiaaGreatDoor
open Go.RowKit
attribute [local go_sem] Ext.cell Ext.frozen Ext.lt Ext.lt_add Ext.cell2 Ext.frozen2

theorem fdiv_any (a b : Int) (hb : b = 3600 ∨ b = 86400) (h1 : -1000000000000000 ≤ a) (h2 : a ≤ 1000000000000000) (w : World) :
    Calls Tryz.prog 20 #[.int .i64 a, .int .i64 b] w fun e w' => e = .returned (.int .i64 (a / b)) ∧ w' = w := by
  rcases hb with rfl | rfl
  · by_cases hn : a.tmod 3600 < 0
    · have e : a / 3600 = a.tdiv 3600 - 1 := by
        have h5 : (3600 : Int) * (a.tdiv 3600) + a.tmod 3600 = a := Int.mul_tdiv_add_tmod a 3600
        have h6 := Int.tmod_lt_of_pos a (b := 3600) (by decide)
        have h7 : -3600 < a.tmod 3600 := by have := Int.lt_tmod_of_pos a (b := 3600) (by decide); omega
        omega
      rw [e]
      go_enter Tryz.func20, Tryz.ntmps20
      go_wp2
      go_ret
      exact ⟨rfl, rfl⟩
    · have e : a / 3600 = a.tdiv 3600 := by
        have h5 : (3600 : Int) * (a.tdiv 3600) + a.tmod 3600 = a := Int.mul_tdiv_add_tmod a 3600
        have h6 := Int.tmod_lt_of_pos a (b := 3600) (by decide)
        omega
      rw [e]
      go_enter Tryz.func20, Tryz.ntmps20
      go_wp2
      go_ret
      exact ⟨rfl, rfl⟩
  · by_cases hn : a.tmod 86400 < 0
    · have e : a / 86400 = a.tdiv 86400 - 1 := by
        have h5 : (86400 : Int) * (a.tdiv 86400) + a.tmod 86400 = a := Int.mul_tdiv_add_tmod a 86400
        have h6 := Int.tmod_lt_of_pos a (b := 86400) (by decide)
        have h7 : -86400 < a.tmod 86400 := by have := Int.lt_tmod_of_pos a (b := 86400) (by decide); omega
        omega
      rw [e]
      go_enter Tryz.func20, Tryz.ntmps20
      go_wp2
      go_ret
      exact ⟨rfl, rfl⟩
    · have e : a / 86400 = a.tdiv 86400 := by
        have h5 : (86400 : Int) * (a.tdiv 86400) + a.tmod 86400 = a := Int.mul_tdiv_add_tmod a 86400
        have h6 := Int.tmod_lt_of_pos a (b := 86400) (by decide)
        omega
      rw [e]
      go_enter Tryz.func20, Tryz.ntmps20
      go_wp2
      go_ret
      exact ⟨rfl, rfl⟩

theorem fmod_any (a b : Int) (hb : b = 3600 ∨ b = 86400) (h1 : -1000000000000000 ≤ a) (h2 : a ≤ 1000000000000000) (w : World) :
    Calls Tryz.prog 19 #[.int .i64 a, .int .i64 b] w fun e w' => e = .returned (.int .i64 (a % b)) ∧ w' = w := by
  have hq := Lib.hid (fun (W : World) => fdiv_any a b hb h1 h2 W)
  have e : a % b = a - b * (a / b) := Int.emod_def a b
  rw [e]
  rcases hb with rfl | rfl
  · obtain ⟨q, hqe⟩ : ∃ q, q = a / 3600 := ⟨_, rfl⟩
    have hb1 : 3600 * q ≤ a ∧ a < 3600 * q + 3600 := by omega
    rw [← hqe] at hq ⊢
    clear hqe e
    go_enter Tryz.func19, Tryz.ntmps19
    go_wp2_with (go_at_call 20; (with_reducible refine (hq.out _).mono ?_); rintro e w9 ⟨rfl, rfl⟩)
    go_ret
    exact ⟨rfl, rfl⟩
  · obtain ⟨q, hqe⟩ : ∃ q, q = a / 86400 := ⟨_, rfl⟩
    have hb1 : 86400 * q ≤ a ∧ a < 86400 * q + 86400 := by omega
    rw [← hqe] at hq ⊢
    clear hqe e
    go_enter Tryz.func19, Tryz.ntmps19
    go_wp2_with (go_at_call 20; (with_reducible refine (hq.out _).mono ?_); rintro e w9 ⟨rfl, rfl⟩)
    go_ret
    exact ⟨rfl, rfl⟩

def GoodRes (s n : Int) (e : Ending) : Prop := ∃ b, e = .returned (.bool b) ∧ (b = true → -62135596800 ≤ s ∧ s ≤ 253402300799 ∧ 0 ≤ n ∧ n < 1000000000)

theorem good_any (s n : Int) (w : World) :
    Calls Tryz.prog 7 #[.agg #[.int .i64 s, .int .i64 n]] w fun e w' => GoodRes s n e ∧ ∃ y : Ext w, w' = y.now := by
  by_cases h1 : -62135596800 ≤ s
  · by_cases h2 : s ≤ 253402300799
    · by_cases h3 : 0 ≤ n
      · by_cases h4 : n < 1000000000
        · go_enter Tryz.func7, Tryz.ntmps7
          go_wp2
          go_ret
          exact ⟨⟨_, rfl, fun _ => ⟨h1, h2, h3, h4⟩⟩, Ext.alloc1 _ _⟩
        · go_enter Tryz.func7, Tryz.ntmps7
          go_wp2
          go_ret
          exact ⟨⟨false, rfl, fun h => Bool.noConfusion h⟩, Ext.alloc1 _ _⟩
      · go_enter Tryz.func7, Tryz.ntmps7
        go_wp2
        go_ret
        exact ⟨⟨false, rfl, fun h => Bool.noConfusion h⟩, Ext.alloc1 _ _⟩
    · go_enter Tryz.func7, Tryz.ntmps7
      go_wp2
      go_ret
      exact ⟨⟨false, rfl, fun h => Bool.noConfusion h⟩, Ext.alloc1 _ _⟩
  · go_enter Tryz.func7, Tryz.ntmps7
    go_wp2
    go_ret
    exact ⟨⟨false, rfl, fun h => Bool.noConfusion h⟩, Ext.alloc1 _ _⟩

def headB : Nat → ByteArray
  | 0 => ⟨#[84, 90, 61, 85, 84, 67, 32]⟩
  | 1 => ⟨#[67, 82, 79, 78, 95, 84, 90, 61, 85, 84, 67, 32]⟩
  | 2 => ⟨#[84, 90, 61, 32]⟩
  | 3 => ⟨#[67, 82, 79, 78, 95, 84, 90, 61, 32]⟩
  | 4 => ⟨#[84, 90, 61, 76, 111, 99, 97, 108, 32]⟩
  | _ => ⟨#[67, 82, 79, 78, 95, 84, 90, 61, 76, 111, 99, 97, 108, 32]⟩

set_option maxRecDepth 100000 in
theorem heads_any (k : Nat) (hk : k < 6) (w : World) :
    Calls Tryz.prog 10 #[.int .i64 k] w fun e w' => e = .returned (.tuple #[.string (headB k), .bool (decide (k < 4))]) ∧ w' = w := by
  rcases (show k = 0 ∨ k = 1 ∨ k = 2 ∨ k = 3 ∨ k = 4 ∨ k = 5 by omega) with rfl | rfl | rfl | rfl | rfl | rfl
  · show Calls Tryz.prog 10 #[.int .i64 (0 : Int)] w fun e w' => e = .returned (.tuple #[.string (headB 0), .bool true]) ∧ w' = w
    have x0 : ∀ W, (Instr.index 59 (.agg #[.string ⟨#[84, 90, 61, 85, 84, 67, 32]⟩, .string ⟨#[67, 82, 79, 78, 95, 84, 90, 61, 85, 84, 67, 32]⟩, .string ⟨#[84, 90, 61, 32]⟩, .string ⟨#[67, 82, 79, 78, 95, 84, 90, 61, 32]⟩, .string ⟨#[84, 90, 61, 76, 111, 99, 97, 108, 32]⟩, .string ⟨#[67, 82, 79, 78, 95, 84, 90, 61, 76, 111, 99, 97, 108, 32]⟩]) (.int .i64 0)).run Tryz.prog W = .ok (.string ⟨#[84, 90, 61, 85, 84, 67, 32]⟩) W := fun _ => by kernel_rfl
    go_enter Tryz.func10, Tryz.ntmps10
    go_wp2
    go_ret2
    exact ⟨rfl, rfl⟩
  · show Calls Tryz.prog 10 #[.int .i64 (1 : Int)] w fun e w' => e = .returned (.tuple #[.string (headB 1), .bool true]) ∧ w' = w
    have x0 : ∀ W, (Instr.index 59 (.agg #[.string ⟨#[84, 90, 61, 85, 84, 67, 32]⟩, .string ⟨#[67, 82, 79, 78, 95, 84, 90, 61, 85, 84, 67, 32]⟩, .string ⟨#[84, 90, 61, 32]⟩, .string ⟨#[67, 82, 79, 78, 95, 84, 90, 61, 32]⟩, .string ⟨#[84, 90, 61, 76, 111, 99, 97, 108, 32]⟩, .string ⟨#[67, 82, 79, 78, 95, 84, 90, 61, 76, 111, 99, 97, 108, 32]⟩]) (.int .i64 1)).run Tryz.prog W = .ok (.string ⟨#[67, 82, 79, 78, 95, 84, 90, 61, 85, 84, 67, 32]⟩) W := fun _ => by kernel_rfl
    go_enter Tryz.func10, Tryz.ntmps10
    go_wp2
    go_ret2
    exact ⟨rfl, rfl⟩
  · show Calls Tryz.prog 10 #[.int .i64 (2 : Int)] w fun e w' => e = .returned (.tuple #[.string (headB 2), .bool true]) ∧ w' = w
    have x0 : ∀ W, (Instr.index 59 (.agg #[.string ⟨#[84, 90, 61, 85, 84, 67, 32]⟩, .string ⟨#[67, 82, 79, 78, 95, 84, 90, 61, 85, 84, 67, 32]⟩, .string ⟨#[84, 90, 61, 32]⟩, .string ⟨#[67, 82, 79, 78, 95, 84, 90, 61, 32]⟩, .string ⟨#[84, 90, 61, 76, 111, 99, 97, 108, 32]⟩, .string ⟨#[67, 82, 79, 78, 95, 84, 90, 61, 76, 111, 99, 97, 108, 32]⟩]) (.int .i64 2)).run Tryz.prog W = .ok (.string ⟨#[84, 90, 61, 32]⟩) W := fun _ => by kernel_rfl
    go_enter Tryz.func10, Tryz.ntmps10
    go_wp2
    go_ret2
    exact ⟨rfl, rfl⟩
  · show Calls Tryz.prog 10 #[.int .i64 (3 : Int)] w fun e w' => e = .returned (.tuple #[.string (headB 3), .bool true]) ∧ w' = w
    have x0 : ∀ W, (Instr.index 59 (.agg #[.string ⟨#[84, 90, 61, 85, 84, 67, 32]⟩, .string ⟨#[67, 82, 79, 78, 95, 84, 90, 61, 85, 84, 67, 32]⟩, .string ⟨#[84, 90, 61, 32]⟩, .string ⟨#[67, 82, 79, 78, 95, 84, 90, 61, 32]⟩, .string ⟨#[84, 90, 61, 76, 111, 99, 97, 108, 32]⟩, .string ⟨#[67, 82, 79, 78, 95, 84, 90, 61, 76, 111, 99, 97, 108, 32]⟩]) (.int .i64 3)).run Tryz.prog W = .ok (.string ⟨#[67, 82, 79, 78, 95, 84, 90, 61, 32]⟩) W := fun _ => by kernel_rfl
    go_enter Tryz.func10, Tryz.ntmps10
    go_wp2
    go_ret2
    exact ⟨rfl, rfl⟩
  · show Calls Tryz.prog 10 #[.int .i64 (4 : Int)] w fun e w' => e = .returned (.tuple #[.string (headB 4), .bool false]) ∧ w' = w
    have x0 : ∀ W, (Instr.index 59 (.agg #[.string ⟨#[84, 90, 61, 85, 84, 67, 32]⟩, .string ⟨#[67, 82, 79, 78, 95, 84, 90, 61, 85, 84, 67, 32]⟩, .string ⟨#[84, 90, 61, 32]⟩, .string ⟨#[67, 82, 79, 78, 95, 84, 90, 61, 32]⟩, .string ⟨#[84, 90, 61, 76, 111, 99, 97, 108, 32]⟩, .string ⟨#[67, 82, 79, 78, 95, 84, 90, 61, 76, 111, 99, 97, 108, 32]⟩]) (.int .i64 4)).run Tryz.prog W = .ok (.string ⟨#[84, 90, 61, 76, 111, 99, 97, 108, 32]⟩) W := fun _ => by kernel_rfl
    go_enter Tryz.func10, Tryz.ntmps10
    go_wp2
    go_ret2
    exact ⟨rfl, rfl⟩
  · show Calls Tryz.prog 10 #[.int .i64 (5 : Int)] w fun e w' => e = .returned (.tuple #[.string (headB 5), .bool false]) ∧ w' = w
    have x0 : ∀ W, (Instr.index 59 (.agg #[.string ⟨#[84, 90, 61, 85, 84, 67, 32]⟩, .string ⟨#[67, 82, 79, 78, 95, 84, 90, 61, 85, 84, 67, 32]⟩, .string ⟨#[84, 90, 61, 32]⟩, .string ⟨#[67, 82, 79, 78, 95, 84, 90, 61, 32]⟩, .string ⟨#[84, 90, 61, 76, 111, 99, 97, 108, 32]⟩, .string ⟨#[67, 82, 79, 78, 95, 84, 90, 61, 76, 111, 99, 97, 108, 32]⟩]) (.int .i64 5)).run Tryz.prog W = .ok (.string ⟨#[67, 82, 79, 78, 95, 84, 90, 61, 76, 111, 99, 97, 108, 32]⟩) W := fun _ => by kernel_rfl
    go_enter Tryz.func10, Tryz.ntmps10
    go_wp2
    go_ret2
    exact ⟨rfl, rfl⟩

def nilV : Value := .slice none 0 0

theorem cronUTC_any (w : World) : Calls Tryz.prog 16 #[] w fun e w' => e = .returned (.agg #[nilV, nilV, nilV, nilV]) ∧ ∃ y : Ext w, w' = y.now := by
  go_enter Tryz.func16, Tryz.ntmps16
  go_wp2
  exact bodyPost_ret (v := .agg #[nilV, nilV, nilV, nilV]) (by simp [results, Tryz.results16, go_sem, nilV]) rfl ⟨rfl, Ext.alloc1 _ _⟩

theorem fits_any (o0 o1 o2 o3 : Option Addr) (n0 n1 n2 n3 c0 c1 c2 c3 : Nat) (w : World) :
    Calls Tryz.prog 4 #[.agg #[.slice o0 n0 c0, .slice o1 n1 c1, .slice o2 n2 c2, .slice o3 n3 c3]] w fun e w' => ABool e ∧ ∃ y : Ext w, w' = y.now := by
  by_cases h0 : (2147483647 : Int) < (n0 : Int)
  · go_enter Tryz.func4, Tryz.ntmps4
    go_wp2
    go_ret
    exact ⟨⟨_, rfl⟩, Ext.alloc1 _ _⟩
  · by_cases h1 : (2147483647 : Int) < (n1 : Int)
    · go_enter Tryz.func4, Tryz.ntmps4
      go_wp2
      go_ret
      exact ⟨⟨_, rfl⟩, Ext.alloc1 _ _⟩
    · by_cases h2 : (2147483647 : Int) < (n2 : Int)
      · go_enter Tryz.func4, Tryz.ntmps4
        go_wp2
        go_ret
        exact ⟨⟨_, rfl⟩, Ext.alloc1 _ _⟩
      · by_cases h3 : (2147483647 : Int) < (n3 : Int)
        · go_enter Tryz.func4, Tryz.ntmps4
          go_wp2
          go_ret
          exact ⟨⟨_, rfl⟩, Ext.alloc1 _ _⟩
        · go_enter Tryz.func4, Tryz.ntmps4
          go_wp2
          go_ret
          exact ⟨⟨_, rfl⟩, Ext.alloc1 _ _⟩

end Go.Proofs.YtopcjlimjkfoiaaGreatDoor
namespace Go.Proofs.YtopcjlimjkfoiaaGreatDoor
open Go.RowKit
attribute [local go_sem] Ext.cell Ext.frozen Ext.lt Ext.lt_add Ext.cell2 Ext.frozen2

def Ext.draws (w : World) (n : Nat) : Ext w := ⟨w.drewN n, ⟨rfl, rfl, rfl, Nat.le_refl _, fun _ _ => rfl⟩⟩

def IRow (w : World) (v : Value) (l : List Int) : Prop :=
  ∃ (oa : Option Addr) (cap : Nat), v = .slice oa l.length cap ∧ (l ≠ [] → ∃ g off, oa = some ⟨g, off, none⟩ ∧ g < w.heap.size ∧ l.length ≤ cap ∧ ∀ i, i < l.length → w.cell? ⟨g, off + i, none⟩ = some (.int .i64 (l.getD i 0)))

theorem IRow.ext {w : World} {v : Value} {l : List Int} (h : IRow w v l) (x : Ext w) : IRow x.now v l := by
  obtain ⟨oa, cap, hv, h⟩ := h
  refine ⟨oa, cap, hv, fun hl => ?_⟩
  obtain ⟨g, off, h1, h2, h3, h4⟩ := h hl
  exact ⟨g, off, h1, x.lt _ h2, h3, fun i hi => by rw [x.cell _ _ h2]; exact h4 i hi⟩

def GoodZ (O W I : List Int) (nd : Nat) : Prop := (O = [] ∧ W = [] ∧ I = []) ∨ (0 < O.length ∧ O.length ≤ 64 ∧ nd = O.length ∧ 0 < W.length ∧ W.length ≤ 4096 ∧ I.length = W.length ∧ W.getD 0 0 = -9223372036854775808 ∧
  (∀ i, i < O.length → -86400 ≤ O.getD i 0 ∧ O.getD i 0 ≤ 86400) ∧ ∀ i, i < I.length → 0 ≤ I.getD i 0 ∧ I.getD i 0 < O.length ∧ (0 < i → W.getD (i - 1) 0 < W.getD i 0))
def GoodZRes (O W I : List Int) (nd : Nat) (e : Ending) : Prop := ∃ b, e = .returned (.bool b) ∧ (b = true → GoodZ O W I nd)

set_option maxRecDepth 1000000 in
set_option maxHeartbeats 4000000 in
theorem goodZone_any {w : World} {vo vw vi : Value} {O W I : List Int} (oD : Option Addr) (nd cd : Nat) (hO : IRow w vo O) (hW : IRow w vw W) (hI : IRow w vi I) (hbO : O.length < 1000000000000) (hbW : W.length < 1000000000000) (hbI : I.length < 1000000000000) :
    Calls Tryz.prog 8 #[.agg #[vo, .slice oD nd cd, vw, vi]] w fun e w' => GoodZRes O W I nd e ∧ ∃ y : Ext w, w' = y.now := by
  obtain ⟨oO, cO, rfl, hO⟩ := hO
  obtain ⟨oW, cW, rfl, hW⟩ := hW
  obtain ⟨oI, cI, rfl, hI⟩ := hI
  have HO := Lib.hid hO
  have HW := Lib.hid hW
  have HI := Lib.hid hI
  clear hO hW hI
  go_enter Tryz.func8, Tryz.ntmps8
  by_cases h0 : O.length = 0
  · have k0 : ((O.length : Int) == 0) = true := beq_iff_eq.2 (by omega)
    have hnil := Lib.hid (List.length_eq_zero_iff.1 h0)
    clear h0
    by_cases hd : nd = 0
    · have k1 : ((nd : Int) == 0) = true := beq_iff_eq.2 (by omega)
      clear hd
      by_cases hw : W.length = 0
      · have k2 : ((W.length : Int) == 0) = true := beq_iff_eq.2 (by omega)
        have hnw := Lib.hid (List.length_eq_zero_iff.1 hw)
        clear hw
        by_cases hi : I.length = 0
        · have k3 : ((I.length : Int) == 0) = true := beq_iff_eq.2 (by omega)
          have hni := Lib.hid (List.length_eq_zero_iff.1 hi)
          clear hi
          go_wp2_with fail
          go_ret
          exact ⟨⟨_, rfl, fun _ => .inl ⟨hnil.out, hnw.out, hni.out⟩⟩, Ext.alloc1 _ _⟩
        · have k3 : ((I.length : Int) == 0) = false := beq_eq_false_iff_ne.2 (by omega)
          clear hi
          go_wp2_with fail
          go_ret
          exact ⟨⟨false, rfl, fun h => Bool.noConfusion h⟩, Ext.alloc1 _ _⟩
      · have k2 : ((W.length : Int) == 0) = false := beq_eq_false_iff_ne.2 (by omega)
        clear hw
        go_wp2_with fail
        go_ret
        exact ⟨⟨false, rfl, fun h => Bool.noConfusion h⟩, Ext.alloc1 _ _⟩
    · have k1 : ((nd : Int) == 0) = false := beq_eq_false_iff_ne.2 (by omega)
      clear hd
      go_wp2_with fail
      go_ret
      exact ⟨⟨false, rfl, fun h => Bool.noConfusion h⟩, Ext.alloc1 _ _⟩
  · have k0 : ((O.length : Int) == 0) = false := beq_eq_false_iff_ne.2 (by omega)
    obtain ⟨gO, offO, rfl, hgO, hcO, hcellO⟩ := HO.out (fun e => h0 (by rw [e]; rfl))
    have HCO := Lib.hid hcellO
    have H0 := Lib.hid (Nat.pos_of_ne_zero h0)
    clear h0 hcellO HO
    by_cases h64 : O.length ≤ 64
    · have k1 : ¬ (64 : Int) < (O.length : Int) := by omega
      have H64 := Lib.hid h64
      by_cases hd : nd = O.length
      · subst hd
        have k2 : ((O.length : Int) != (O.length : Int)) = false := by simp
        by_cases hw : W.length = 0
        · have k3 : ((W.length : Int) == 0) = true := beq_iff_eq.2 (by omega)
          clear hw
          go_wp2_with fail
          go_ret
          exact ⟨⟨false, rfl, fun h => Bool.noConfusion h⟩, Ext.alloc1 _ _⟩
        · have k3 : ((W.length : Int) == 0) = false := beq_eq_false_iff_ne.2 (by omega)
          obtain ⟨gW, offW, rfl, hgW, hcW, hcellW⟩ := HW.out (fun e => hw (by rw [e]; rfl))
          have hcW0 := hcellW 0 (Nat.pos_of_ne_zero hw)
          have HCW := Lib.hid hcellW
          have HPW := Lib.hid (Nat.pos_of_ne_zero hw)
          have kpw : (0 : Int) < (W.length : Int) := by omega
          rw [Nat.add_zero] at hcW0
          obtain ⟨w0, hw0⟩ : ∃ w0, w0 = W.getD 0 0 := ⟨_, rfl⟩
          rw [← hw0] at hcW0
          have HW0 := Lib.hid hw0
          clear hw hcellW HW hw0
          by_cases h4 : W.length ≤ 4096
          · have k4 : ¬ (4096 : Int) < (W.length : Int) := by omega
            have H4 := Lib.hid h4
            by_cases hwi : I.length = W.length
            · have k5 : ((I.length : Int) != (W.length : Int)) = false := by rw [hwi]; simp
              have HWI := Lib.hid hwi
              obtain ⟨gI, offI, rfl, hgI, hcI, hcellI⟩ := HI.out (fun e => by rw [e] at hwi; have := HPW.out; simp at hwi; omega)
              have HCI := Lib.hid hcellI
              clear hwi hcellI HI
              by_cases hf : w0 = -9223372036854775808
              · have k6 : (w0 != -9223372036854775808) = false := by rw [hf]; rfl
                have HF := Lib.hid hf
                clear hf
                go_upto_block 0 with fail
                go_cut [71] (fun _ wr => (∀ i, i < O.length → -86400 ≤ O.getD i 0 ∧ O.getD i 0 ≤ 86400) ∧ wr = w.alloc (.cells #[.slice (some ⟨gO, offO, none⟩) O.length cO, .slice oD O.length cd, .slice (some ⟨gW, offW, none⟩) W.length cW, .slice (some ⟨gI, offI, none⟩) I.length cI] 28))
                case first =>
                  go_wp2_with fail
                  go_loopw [71] (fun t wr => ∃ i : Nat, t = .int .i64 i ∧ i ≤ O.length ∧ (∀ j, j < i → -86400 ≤ O.getD j 0 ∧ O.getD j 0 ≤ 86400) ∧ wr = w.alloc (.cells #[.slice (some ⟨gO, offO, none⟩) O.length cO, .slice oD O.length cd, .slice (some ⟨gW, offW, none⟩) W.length cW, .slice (some ⟨gI, offI, none⟩) I.length cI] 28)) (fun t _ => O.length - (intOf t).toNat)
                  case atStart => exact ⟨0, rfl, Nat.zero_le _, fun j h => absurd h (Nat.not_lt_zero _), rfl⟩
                  case round =>
                    obtain ⟨i, rfl, hi, hall, rfl⟩ := hrel
                    have HALL := Lib.hid hall
                    clear hall
                    by_cases hlt : i < O.length
                    · have hlt' : (i : Int) < (O.length : Int) := by omega
                      have hco := HCO.out i hlt
                      obtain ⟨v, hv⟩ : ∃ v, v = O.getD i 0 := ⟨_, rfl⟩
                      rw [← hv] at hco
                      have HV := Lib.hid hv
                      clear hv
                      by_cases h1 : v < -86400
                      · go_wp2_with fail
                        go_ret
                        exact ⟨⟨false, rfl, fun h => Bool.noConfusion h⟩, Ext.alloc1 _ _⟩
                      · by_cases h2 : 86400 < v
                        · go_wp2_with fail
                          go_ret
                          exact ⟨⟨false, rfl, fun h => Bool.noConfusion h⟩, Ext.alloc1 _ _⟩
                        · go_wp2_with fail
                          refine ⟨⟨i + 1, by simp, by omega, fun j hj => ?_, trivial⟩, by simp [intOf]; omega⟩
                          by_cases e : j = i
                          · rw [e, ← HV.out]; omega
                          · exact HALL.out j (by omega)
                    · have hlt' : ¬ (i : Int) < (O.length : Int) := by omega
                      go_wp2_with fail
                      go_meet
                      case rel => exact ⟨fun j hj => HALL.out j (by omega), rfl⟩
                case rest =>
                  obtain ⟨hO1, hwc⟩ := hcut
                  subst wc
                  have HO1 := Lib.hid hO1
                  clear hO1
                  obtain ⟨G, hG⟩ : ∃ G, G = w.heap.size := ⟨_, rfl⟩
                  obtain ⟨wz, hwz⟩ : ∃ wz, wz = w.alloc (.cells #[.slice (some ⟨gO, offO, none⟩) O.length cO, .slice oD O.length cd, .slice (some ⟨gW, offW, none⟩) W.length cW, .slice (some ⟨gI, offI, none⟩) I.length cI] 28) := ⟨_, rfl⟩
                  have z0 : wz.cell? ⟨G, 0, none⟩ = some (.slice (some ⟨gO, offO, none⟩) O.length cO) := by rw [hwz, hG]; simp [go_sem]
                  have z2 : wz.cell? ⟨G, 2, none⟩ = some (.slice (some ⟨gW, offW, none⟩) W.length cW) := by rw [hwz, hG]; simp [go_sem]
                  have z3 : wz.cell? ⟨G, 3, none⟩ = some (.slice (some ⟨gI, offI, none⟩) I.length cI) := by rw [hwz, hG]; simp [go_sem]
                  have zl : G < wz.heap.size := by rw [hwz, hG]; simp
                  have HCW2 := Lib.hid (show gW < wz.heap.size ∧ ∀ i, i < W.length → wz.cell? ⟨gW, offW + i, none⟩ = some (.int .i64 (W.getD i 0)) from by
                    rw [hwz]
                    exact ⟨by simp; omega, fun i hi => by rw [show (w.alloc (.cells #[.slice (some ⟨gO, offO, none⟩) O.length cO, .slice oD O.length cd, .slice (some ⟨gW, offW, none⟩) W.length cW, .slice (some ⟨gI, offI, none⟩) I.length cI] 28)) = (Ext.one w (.cells #[.slice (some ⟨gO, offO, none⟩) O.length cO, .slice oD O.length cd, .slice (some ⟨gW, offW, none⟩) W.length cW, .slice (some ⟨gI, offI, none⟩) I.length cI] 28)).now from rfl, Ext.cell _ _ _ hgW]; exact HCW.out i hi⟩)
                  have HCI2 := Lib.hid (show gI < wz.heap.size ∧ ∀ i, i < I.length → wz.cell? ⟨gI, offI + i, none⟩ = some (.int .i64 (I.getD i 0)) from by
                    rw [hwz]
                    exact ⟨by simp; omega, fun i hi => by rw [show (w.alloc (.cells #[.slice (some ⟨gO, offO, none⟩) O.length cO, .slice oD O.length cd, .slice (some ⟨gW, offW, none⟩) W.length cW, .slice (some ⟨gI, offI, none⟩) I.length cI] 28)) = (Ext.one w (.cells #[.slice (some ⟨gO, offO, none⟩) O.length cO, .slice oD O.length cd, .slice (some ⟨gW, offW, none⟩) W.length cW, .slice (some ⟨gI, offI, none⟩) I.length cI] 28)).now from rfl, Ext.cell _ _ _ hgI]; exact HCI.out i hi⟩)
                  have HWZ := Lib.hid (show ∃ x : Ext w, wz = x.now from ⟨Ext.one w _, hwz⟩)
                  have hlW := HCW2.out.1
                  have hlI := HCI2.out.1
                  have hnO : (O.length : Int) ≤ 64 := by have := H64.out; omega
                  rw [← hwz, ← hG]
                  clear hwz hG hcW0 k0 k1 k2 k3 k4 k5 k6
                  go_wp2_with fail
                  go_loopw [85] (fun t wr => ∃ i : Nat, t = .int .i64 i ∧ i ≤ I.length ∧ (∀ j, j < i → 0 ≤ I.getD j 0 ∧ I.getD j 0 < O.length ∧ (0 < j → W.getD (j - 1) 0 < W.getD j 0)) ∧ ∃ x : Ext wz, wr = x.now) (fun t _ => I.length - (intOf t).toNat)
                  case atStart => exact ⟨0, rfl, Nat.zero_le _, fun j h => absurd h (Nat.not_lt_zero _), Ext.here _⟩
                  case round =>
                    obtain ⟨i, rfl, hi, hall, x, rfl⟩ := hrel
                    have HALL := Lib.hid hall
                    clear hall
                    by_cases hlt : i < I.length
                    · have hlt' : (i : Int) < (I.length : Int) := by omega
                      have hiW : (i : Int) < (W.length : Int) := by have := HWI.out; omega
                      have hci := HCI2.out.2 i hlt
                      have hcw := HCW2.out.2 i (by omega)
                      obtain ⟨v, hv⟩ : ∃ v, v = I.getD i 0 := ⟨_, rfl⟩
                      obtain ⟨u, hu⟩ : ∃ u, u = W.getD i 0 := ⟨_, rfl⟩
                      rw [← hv] at hci
                      rw [← hu] at hcw
                      have HV := Lib.hid hv
                      have HU := Lib.hid hu
                      clear hv hu
                      by_cases h1 : v < 0
                      · have d1 : decide (v < 0) = true := decide_eq_true h1
                        go_upto_region 14 with fail
                        go_quiet (fail)
                        go_wp2_with fail
                        go_ret
                        obtain ⟨y, rfl⟩ := HWZ.out
                        exact ⟨⟨false, rfl, fun h => Bool.noConfusion h⟩, y.trans (x.trans (Ext.draws _ _)), rfl⟩
                      · have d1 : decide (v < 0) = false := decide_eq_false h1
                        by_cases h2 : v < O.length
                        · have d2 : decide ((O.length : Int) ≤ v) = false := decide_eq_false (by omega)
                          by_cases hi0 : i = 0
                          · subst hi0
                            rw [Nat.add_zero] at hci hcw
                            have hlt0 : (0 : Int) < (I.length : Int) := by omega
                            have hiW0 : (0 : Int) < (W.length : Int) := by omega
                            have HFI := Lib.hid (show 0 ≤ v ∧ v < O.length ∧ (0 < 0 → W.getD (0 - 1) 0 < W.getD 0 0) from ⟨by omega, h2, fun h => absurd h (by omega)⟩)
                            clear h2
                            go_upto_region 14 with fail
                            go_quiet (fail)
                            go_wp2_with fail
                            refine ⟨⟨0 + 1, by simp, by omega, fun j hj => ?_, x.trans (Ext.draws _ _), rfl⟩, by simp [intOf]; omega⟩
                            by_cases e : j = 0
                            · rw [e, ← HV.out]
                              exact HFI.out
                            · exact HALL.out j (by omega)
                          · have d3 : decide ((0 : Int) < (i : Int)) = true := decide_eq_true (by omega)
                            obtain ⟨m, hm⟩ : ∃ m, i = m + 1 := ⟨i - 1, by omega⟩
                            have hcm := HCW2.out.2 m (by omega)
                            obtain ⟨u2, hu2⟩ : ∃ u2, u2 = W.getD m 0 := ⟨_, rfl⟩
                            rw [← hu2] at hcm
                            have HU2 := Lib.hid hu2
                            clear hu2 hi0
                            subst hm
                            have hmm : ((m + 1 : Nat) : Int) - 1 = (m : Int) := by simp
                            by_cases h3 : u2 < u
                            · have d4 : decide (u ≤ u2) = false := decide_eq_false (by omega)
                              have HFI := Lib.hid (show 0 ≤ v ∧ v < O.length ∧ (0 < m + 1 → W.getD (m + 1 - 1) 0 < W.getD (m + 1) 0) from ⟨by omega, h2, fun _ => by rw [Nat.add_sub_cancel, ← HU2.out, ← HU.out]; exact h3⟩)
                              clear h2
                              go_upto_region 14 with fail
                              go_quiet (fail)
                              go_wp2_with fail
                              refine ⟨⟨m + 1 + 1, by simp, by omega, fun j hj => ?_, x.trans (Ext.draws _ _), rfl⟩, by simp [intOf]; omega⟩
                              by_cases e : j = m + 1
                              · rw [e, ← HV.out]
                                exact HFI.out
                              · exact HALL.out j (by omega)
                            · have d4 : decide (u ≤ u2) = true := decide_eq_true (by omega)
                              go_upto_region 14 with fail
                              go_quiet (fail)
                              go_wp2_with fail
                              go_ret
                              obtain ⟨y, rfl⟩ := HWZ.out
                              exact ⟨⟨false, rfl, fun h => Bool.noConfusion h⟩, y.trans (x.trans (Ext.draws _ _)), rfl⟩
                        · have d2 : decide ((O.length : Int) ≤ v) = true := decide_eq_true (by omega)
                          clear h2
                          go_upto_region 14 with fail
                          go_quiet (fail)
                          go_wp2_with fail
                          go_ret
                          obtain ⟨y, rfl⟩ := HWZ.out
                          exact ⟨⟨false, rfl, fun h => Bool.noConfusion h⟩, y.trans (x.trans (Ext.draws _ _)), rfl⟩
                    · have hlt' : ¬ (i : Int) < (I.length : Int) := by omega
                      obtain rfl : i = I.length := by omega
                      go_wp2_with fail
                      go_ret
                      refine ⟨⟨true, rfl, fun _ => .inr ⟨H0.out, H64.out, rfl, HPW.out, H4.out, HWI.out, by rw [← HW0.out]; exact HF.out, HO1.out, HALL.out⟩⟩, ?_⟩
                      obtain ⟨y, rfl⟩ := HWZ.out
                      exact ⟨y.trans x, rfl⟩
              · have k6 : (w0 != -9223372036854775808) = true := bne_iff_ne.2 hf
                clear hf
                go_wp2_with fail
                go_ret
                exact ⟨⟨false, rfl, fun h => Bool.noConfusion h⟩, Ext.alloc1 _ _⟩
            · have k5 : ((I.length : Int) != (W.length : Int)) = true := bne_iff_ne.2 (by omega)
              clear hwi
              go_wp2_with fail
              go_ret
              exact ⟨⟨false, rfl, fun h => Bool.noConfusion h⟩, Ext.alloc1 _ _⟩
          · have k4 : (4096 : Int) < (W.length : Int) := by omega
            clear h4
            go_wp2_with fail
            go_ret
            exact ⟨⟨false, rfl, fun h => Bool.noConfusion h⟩, Ext.alloc1 _ _⟩
      · have k2 : ((nd : Int) != (O.length : Int)) = true := bne_iff_ne.2 (by omega)
        clear hd
        go_wp2_with fail
        go_ret
        exact ⟨⟨false, rfl, fun h => Bool.noConfusion h⟩, Ext.alloc1 _ _⟩
    · have k1 : (64 : Int) < (O.length : Int) := by omega
      clear h64
      go_wp2_with fail
      go_ret
      exact ⟨⟨false, rfl, fun h => Bool.noConfusion h⟩, Ext.alloc1 _ _⟩

end Go.Proofs.YtopcjlimjkfoiaaGreatDoor
